section
-- ===== PART A: the tables' words, and 'selects' of three methods out of them =====
/-- a method of the face that only the face calls, by its rows of tables_1 -/
def lw_okq (q : MethodName × Nat) : Prop := (q.1.cls ≠ "java/lang/invoke/MethodHandle" ∧ q.1.cls ≠ "java/lang/invoke/VarHandle") ∧ Cond.instantiable q.1.cls q.2 ∈ tables_1 ∧ Cond.privateMethod q.1 ∈ tables_1 ∧ Cond.instanceMethod q.1 ∈ tables_1
set_option maxRecDepth 100000
theorem lw_p0 : lw_okq (⟨"SumJoin", "from", "(I)I"⟩, 2) := ⟨⟨by decide +kernel, by decide +kernel⟩, List.mem_of_getElem? (i := 11) rfl, List.mem_of_getElem? (i := 31) rfl, List.mem_of_getElem? (i := 32) rfl⟩
theorem lw_p1 : lw_okq (⟨"SumJoin", "count", "(II)I"⟩, 2) := ⟨⟨by decide +kernel, by decide +kernel⟩, List.mem_of_getElem? (i := 11) rfl, List.mem_of_getElem? (i := 36) rfl, List.mem_of_getElem? (i := 37) rfl⟩
theorem lw_p2 : lw_okq (⟨"SumJoin", "word", "(II)V"⟩, 2) := ⟨⟨by decide +kernel, by decide +kernel⟩, List.mem_of_getElem? (i := 11) rfl, List.mem_of_getElem? (i := 97) rfl, List.mem_of_getElem? (i := 98) rfl⟩
def lw_privs_1 : List (MethodName × Nat) := [(⟨"SumJoin", "from", "(I)I"⟩, 2), (⟨"SumJoin", "count", "(II)I"⟩, 2), (⟨"SumJoin", "word", "(II)V"⟩, 2)]
theorem lw_r1 : ∀ q ∈ lw_privs_1, lw_okq q := List.forall_mem_cons.mpr ⟨lw_p0, List.forall_mem_cons.mpr ⟨lw_p1, List.forall_mem_cons.mpr ⟨lw_p2, fun _ h => absurd h List.not_mem_nil⟩⟩⟩
def lw_privs : List (MethodName × Nat) := lw_privs_1
def lw_tbl : List Cond := k2_sels lw_privs ++ tables_1
theorem lw_privs_ok : ∀ q ∈ lw_privs, lw_okq q := lw_r1
-- ===== ONE list of words for every method: the tables' words that hold all through a run =====
def lw_all : List Cond := lw_tbl.filter goodWord
/-- a word of the tables by its place: claim/WORDS.tsv -/
theorem lw_w {w : Cond} (i : Nat) (h : lw_tbl[i]? = some w) (g : goodWord w = true) : w ∈ lw_all := List.mem_filter.mpr ⟨List.mem_of_getElem? h, g⟩
theorem lw_all_tbl {w : Cond} (h : w ∈ lw_all) : w ∈ lw_tbl := (List.mem_filter.mp h).1
theorem lw_self : GoodIn lw_all lw_all := fun w h => ⟨h, good_of_word (List.mem_filter.mp h).2⟩
/-- field words, by their places -/
theorem lw_in (ws : List Cond) (ps : List Nat) (hp : ws = ps.filterMap (fun i => lw_tbl[i]?)) (hg : ws.all goodWord = true) : ∀ w ∈ ws, w ∈ lw_all := by
  intro w h
  have h1 := List.all_eq_true.mp hg w h
  rw [hp] at h
  obtain ⟨i, -, hi⟩ := List.mem_filterMap.mp h
  exact lw_w i hi h1
/-- the words of a contract for the method y with code b, L locals, answer r -/
abbrev ws_ (y : MethodName) (b : ByteArray) (L : Nat) (r : Option FieldType) : List Cond := Cond.code y b L r :: lw_all
theorem lw_meth {y : MethodName} {b : ByteArray} {L : Nat} {r : Option FieldType} (h : Cond.code y b L r ∈ lw_all) : GoodIn lw_all (ws_ y b L r) := by
  intro w hw
  rcases List.mem_cons.mp hw with e | e
  · rw [e]
    exact lw_self _ h
  · exact lw_self _ e
theorem lw_app {a c : List Cond} (ha : ∀ w ∈ a, w ∈ lw_all) (hc : GoodIn lw_all c) : GoodIn lw_all (a ++ c) := by
  intro w hw
  rcases List.mem_append.mp hw with e | e
  · exact lw_self w (ha w e)
  · exact hc w e
/-- what a call through an object asks: cwV n hts (lw_V ..) -/
theorem lw_V {own : String} {idx : Nat} {C : String} {y : MethodName} {b : ByteArray} {L : Nat} {r : Option FieldType} (h1 : Cond.methodLink own idx y ∈ lw_all) (h2 : Cond.instanceMethod y ∈ lw_all) (h3 : Cond.selects C y y ∈ lw_all) (h4 : Cond.initialized C ∈ lw_all) (h5 : Cond.code y b L r ∈ lw_all) : GoodIn lw_all (wsV own idx C y (ws_ y b L r)) := by
  refine lw_app ?_ (lw_meth h5)
  intro w hw
  simp only [List.mem_cons, List.not_mem_nil, or_false] at hw
  rcases hw with e | e | e | e
  · rw [e]; exact h1
  · rw [e]; exact h2
  · rw [e]; exact h3
  · rw [e]; exact h4
/-- what a static call asks: va_cwS n hts (lw_S ..) -/
theorem lw_S {own : String} {idx : Nat} {y : MethodName} {b : ByteArray} {L : Nat} {r : Option FieldType} (h1 : Cond.methodLink own idx y ∈ lw_all) (h2 : Cond.static y ∈ lw_all) (h3 : Cond.initialized y.cls ∈ lw_all) (h4 : Cond.code y b L r ∈ lw_all) : GoodIn lw_all (va_wsS own idx y (ws_ y b L r)) := by
  refine lw_app ?_ (lw_meth h4)
  intro w hw
  simp only [List.mem_cons, List.not_mem_nil, or_false] at hw
  rcases hw with e | e | e
  · rw [e]; exact h1
  · rw [e]; exact h2
  · rw [e]; exact h3
/-- the words of a contract for a method WITH HANDLERS (hh: its table) -/
abbrev wsW_ (y : MethodName) (b : ByteArray) (L : Nat) (r : Option FieldType) (hh : List (Nat × Nat × Nat × Nat)) : List Cond := Cond.codeWith y b L r hh :: lw_all
theorem lw_methW {y : MethodName} {b : ByteArray} {L : Nat} {r : Option FieldType} {hh : List (Nat × Nat × Nat × Nat)} (h : Cond.codeWith y b L r hh ∈ lw_all) : GoodIn lw_all (wsW_ y b L r hh) := by
  intro w hw
  rcases List.mem_cons.mp hw with e | e
  · rw [e]
    exact lw_self _ h
  · exact lw_self _ e
/-- any list of words by their places (lw_in), good -/
theorem lw_good {ws : List Cond} (h : ∀ w ∈ ws, w ∈ lw_all) : GoodIn lw_all ws := fun w hw => lw_self w (h w hw)
/-- what a call of a method with handlers asks: vx_cwVW n hts (lw_VW ..), vx_cwSW n hts (lw_SW ..) -/
theorem lw_VW {own : String} {idx : Nat} {C : String} {y : MethodName} {b : ByteArray} {L : Nat} {r : Option FieldType} {hh : List (Nat × Nat × Nat × Nat)} (h1 : Cond.methodLink own idx y ∈ lw_all) (h2 : Cond.instanceMethod y ∈ lw_all) (h3 : Cond.selects C y y ∈ lw_all) (h4 : Cond.initialized C ∈ lw_all) (h5 : Cond.codeWith y b L r hh ∈ lw_all) : GoodIn lw_all (wsV own idx C y (wsW_ y b L r hh)) := by
  refine lw_app ?_ (lw_methW h5)
  intro w hw
  simp only [List.mem_cons, List.not_mem_nil, or_false] at hw
  rcases hw with e | e | e | e
  · rw [e]; exact h1
  · rw [e]; exact h2
  · rw [e]; exact h3
  · rw [e]; exact h4
theorem lw_SW {own : String} {idx : Nat} {y : MethodName} {b : ByteArray} {L : Nat} {r : Option FieldType} {hh : List (Nat × Nat × Nat × Nat)} (h1 : Cond.methodLink own idx y ∈ lw_all) (h2 : Cond.static y ∈ lw_all) (h3 : Cond.initialized y.cls ∈ lw_all) (h4 : Cond.codeWith y b L r hh ∈ lw_all) : GoodIn lw_all (va_wsS own idx y (wsW_ y b L r hh)) := by
  refine lw_app ?_ (lw_methW h4)
  intro w hw
  simp only [List.mem_cons, List.not_mem_nil, or_false] at hw
  rcases hw with e | e | e
  · rw [e]; exact h1
  · rw [e]; exact h2
  · rw [e]; exact h3
/-- a word by its place in its run of the tables -/
theorem lw_at {r : List Cond} (hr : ∀ w ∈ r, w ∈ lw_tbl) {w : Cond} (i : Nat) (h : r[i]? = some w) : w ∈ lw_tbl := hr w (List.mem_of_getElem? h)
theorem lw_g {w : Cond} (h : w ∈ lw_tbl) (g : goodWord w = true) : w ∈ lw_all := List.mem_filter.mpr ⟨h, g⟩
theorem lw_ms : ∀ w ∈ k2_sels lw_privs, w ∈ lw_tbl := fun w h => show w ∈ k2_sels lw_privs ++ tables_1 from List.mem_append_left _ h
theorem lw_m0 : ∀ w ∈ tables_1, w ∈ lw_tbl := fun w h => show w ∈ k2_sels lw_privs ++ tables_1 from List.mem_append_right (k2_sels lw_privs) h
theorem qs0 : (Cond.selects "SumJoin" ⟨"SumJoin", "from", "(I)I"⟩ ⟨"SumJoin", "from", "(I)I"⟩) ∈ lw_all := lw_g (lw_at lw_ms 0 rfl) rfl
theorem qs1 : (Cond.selects "SumJoin" ⟨"SumJoin", "count", "(II)I"⟩ ⟨"SumJoin", "count", "(II)I"⟩) ∈ lw_all := lw_g (lw_at lw_ms 1 rfl) rfl
theorem qs2 : (Cond.selects "SumJoin" ⟨"SumJoin", "word", "(II)V"⟩ ⟨"SumJoin", "word", "(II)V"⟩) ∈ lw_all := lw_g (lw_at lw_ms 2 rfl) rfl
-- ===== end of PART A; then your names; then what follows =====
end
section
/-! DECODE ROWS BY BYTES: one lemma an opcode; a method's code is cut into short pieces once, and a row reads its own piece alone. -/
set_option maxRecDepth 100000
/-- the code has just these bytes from pc on -/
def DkAt (code : ByteArray) (pc : Nat) (bs : List UInt8) : Prop := ∀ (j : Nat) (b : UInt8), bs[j]? = some b → code.data.toList[pc + j]? = some b
/-- the piece W has the bytes bs from its place j on -/
def dkIn (W : List UInt8) (j : Nat) (bs : List UInt8) : Bool := decide ((W.drop j).take bs.length = bs)
theorem dk_seg {l W T : List UInt8} {o o2 : Nat} (h : l.drop o = W ++ T) (n : Nat) (hn : W.length = n) (ho : o + n = o2) : l.drop o2 = T := by
  subst ho
  rw [← List.drop_drop, h, List.drop_left' hn]
theorem dk_at {code : ByteArray} {W T bs : List UInt8} {o pc : Nat} (h : code.data.toList.drop o = W ++ T) (j : Nat) (hp : o + j = pc) (hw : dkIn W j bs = true) : DkAt code pc bs := by
  subst hp
  intro i b e
  have h1 := of_decide_eq_true hw
  have h2 : i < bs.length := (List.getElem?_eq_some_iff.mp e).1
  have h3 : W[j + i]? = some b := by
    rw [← h1, List.getElem?_take, if_pos h2, List.getElem?_drop] at e
    exact e
  have h4 : j + i < W.length := (List.getElem?_eq_some_iff.mp h3).1
  have h5 : (code.data.toList.drop o)[j + i]? = some b := by
    rw [h, List.getElem?_append_left h4]
    exact h3
  rw [List.getElem?_drop, ← Nat.add_assoc] at h5
  exact h5
theorem dk_u1 {A : ByteArray} {p : Nat} {b : UInt8} (h : A.data.toList[p]? = some b) : (Reader.u1 : Reader DecodeError Nat) A p = .ok (b.toNat, p + 1) := by
  obtain ⟨h1, h2⟩ := List.getElem?_eq_some_iff.mp h
  have h3 : p < A.size := by simpa using h1
  have h4 : A[p]'h3 = b := h2
  have e : (Reader.u1 : Reader DecodeError Nat) A p = (if h : p < A.size then .ok (A[p].toNat, p + 1) else .error (HasTruncated.truncated p)) := by
    show (do if h : p < A.size then do set (p + 1); Pure.pure A[p].toNat else MonadExcept.throw (HasTruncated.truncated p) : Reader DecodeError Nat) A p = _
    by_cases hi : p < A.size
    · rw [dif_pos hi, dif_pos hi]; rfl
    · rw [dif_neg hi, dif_neg hi]; rfl
  rw [e, dif_pos h3, h4]
theorem dk_bind {α β : Type} {r : Reader DecodeError α} {f : α → Reader DecodeError β} {A : ByteArray} {p s : Nat} {a : α} (h : r A p = .ok (a, s)) : (r >>= f) A p = f a A s := by
  show (do let (a, s) ← r A p; f a A s : Except DecodeError (β × Nat)) = _
  rw [h]
  rfl
theorem dk_map {α β : Type} {r : Reader DecodeError α} {g : α → β} {A : ByteArray} {p s : Nat} {a : α} (h : r A p = .ok (a, s)) : (g <$> r) A p = .ok (g a, s) := by
  show (do let (a, s) ← r A p; .ok (g a, s) : Except DecodeError (β × Nat)) = _
  rw [h]
  rfl
theorem dk_u2 {A : ByteArray} {p : Nat} {a b : UInt8} (h : A.data.toList[p]? = some a) (h2 : A.data.toList[p + 1]? = some b) : (Reader.u2 : Reader DecodeError Nat) A p = .ok (a.toNat * 256 + b.toNat, p + 2) := by
  show (Reader.u1 >>= fun hi => Reader.u1 >>= fun lo => Pure.pure (hi * 256 + lo) : Reader DecodeError Nat) A p = _
  rw [dk_bind (dk_u1 h), dk_bind (dk_u1 h2)]
  rfl
theorem dk_of {code : ByteArray} {pc n : Nat} {i : Instr} (h : Decoder.instr pc code pc = .ok (i, pc + n)) : decode code pc = .ok (i, n) := by
  have e : decode code pc = (match Decoder.instr pc code pc with | .error x => .error x | .ok (j, s) => .ok (j, s - pc)) := by
    show (do let (j, s) ← Decoder.instr pc code pc; Pure.pure (j, s - pc) : Except DecodeError (Instr × Nat)) = _
    cases Decoder.instr pc code pc <;> rfl
  rw [e, h]
  show Except.ok (i, pc + n - pc) = _
  rw [Nat.add_sub_cancel_left]
theorem dk_2 {code : ByteArray} {pc : Nat} (h : DkAt code pc [2]) : decode code pc = .ok (.iconst (-1), 1) := dk_of ((dk_bind (dk_u1 (h 0 _ rfl))).trans rfl)
theorem dk_3 {code : ByteArray} {pc : Nat} (h : DkAt code pc [3]) : decode code pc = .ok (.iconst 0, 1) := dk_of ((dk_bind (dk_u1 (h 0 _ rfl))).trans rfl)
theorem dk_4 {code : ByteArray} {pc : Nat} (h : DkAt code pc [4]) : decode code pc = .ok (.iconst 1, 1) := dk_of ((dk_bind (dk_u1 (h 0 _ rfl))).trans rfl)
theorem dk_5 {code : ByteArray} {pc : Nat} (h : DkAt code pc [5]) : decode code pc = .ok (.iconst 2, 1) := dk_of ((dk_bind (dk_u1 (h 0 _ rfl))).trans rfl)
theorem dk_6 {code : ByteArray} {pc : Nat} (h : DkAt code pc [6]) : decode code pc = .ok (.iconst 3, 1) := dk_of ((dk_bind (dk_u1 (h 0 _ rfl))).trans rfl)
theorem dk_7 {code : ByteArray} {pc : Nat} (h : DkAt code pc [7]) : decode code pc = .ok (.iconst 4, 1) := dk_of ((dk_bind (dk_u1 (h 0 _ rfl))).trans rfl)
theorem dk_8 {code : ByteArray} {pc : Nat} (h : DkAt code pc [8]) : decode code pc = .ok (.iconst 5, 1) := dk_of ((dk_bind (dk_u1 (h 0 _ rfl))).trans rfl)
theorem dk_9 {code : ByteArray} {pc : Nat} (h : DkAt code pc [9]) : decode code pc = .ok (.lconst 0, 1) := dk_of ((dk_bind (dk_u1 (h 0 _ rfl))).trans rfl)
theorem dk_10 {code : ByteArray} {pc : Nat} (h : DkAt code pc [10]) : decode code pc = .ok (.lconst 1, 1) := dk_of ((dk_bind (dk_u1 (h 0 _ rfl))).trans rfl)
theorem dk_16 {code : ByteArray} {pc : Nat} (a : UInt8) (h : DkAt code pc [16, a]) : decode code pc = .ok (.bipush (Reader.signed 8 a.toNat), 2) := dk_of ((dk_bind (dk_u1 (h 0 _ rfl))).trans ((dk_bind (dk_map (dk_u1 (h 1 _ rfl)))).trans rfl))
theorem dk_17 {code : ByteArray} {pc : Nat} (a b : UInt8) (h : DkAt code pc [17, a, b]) : decode code pc = .ok (.sipush (Reader.signed 16 (a.toNat * 256 + b.toNat)), 3) := dk_of ((dk_bind (dk_u1 (h 0 _ rfl))).trans ((dk_bind (dk_map (dk_u2 (h 1 _ rfl) (h 2 _ rfl)))).trans rfl))
theorem dk_18 {code : ByteArray} {pc : Nat} (a : UInt8) (h : DkAt code pc [18, a]) : decode code pc = .ok (.ldc a.toNat, 2) := dk_of ((dk_bind (dk_u1 (h 0 _ rfl))).trans ((dk_bind (dk_u1 (h 1 _ rfl))).trans rfl))
theorem dk_20 {code : ByteArray} {pc : Nat} (a b : UInt8) (h : DkAt code pc [20, a, b]) : decode code pc = .ok (.ldc2_w (a.toNat * 256 + b.toNat), 3) := dk_of ((dk_bind (dk_u1 (h 0 _ rfl))).trans ((dk_bind (dk_u2 (h 1 _ rfl) (h 2 _ rfl))).trans rfl))
theorem dk_21 {code : ByteArray} {pc : Nat} (a : UInt8) (h : DkAt code pc [21, a]) : decode code pc = .ok (.iload a.toNat, 2) := dk_of ((dk_bind (dk_u1 (h 0 _ rfl))).trans ((dk_bind (dk_u1 (h 1 _ rfl))).trans rfl))
theorem dk_22 {code : ByteArray} {pc : Nat} (a : UInt8) (h : DkAt code pc [22, a]) : decode code pc = .ok (.lload a.toNat, 2) := dk_of ((dk_bind (dk_u1 (h 0 _ rfl))).trans ((dk_bind (dk_u1 (h 1 _ rfl))).trans rfl))
theorem dk_25 {code : ByteArray} {pc : Nat} (a : UInt8) (h : DkAt code pc [25, a]) : decode code pc = .ok (.aload a.toNat, 2) := dk_of ((dk_bind (dk_u1 (h 0 _ rfl))).trans ((dk_bind (dk_u1 (h 1 _ rfl))).trans rfl))
theorem dk_26 {code : ByteArray} {pc : Nat} (h : DkAt code pc [26]) : decode code pc = .ok (.iload_n 0, 1) := dk_of ((dk_bind (dk_u1 (h 0 _ rfl))).trans rfl)
theorem dk_27 {code : ByteArray} {pc : Nat} (h : DkAt code pc [27]) : decode code pc = .ok (.iload_n 1, 1) := dk_of ((dk_bind (dk_u1 (h 0 _ rfl))).trans rfl)
theorem dk_28 {code : ByteArray} {pc : Nat} (h : DkAt code pc [28]) : decode code pc = .ok (.iload_n 2, 1) := dk_of ((dk_bind (dk_u1 (h 0 _ rfl))).trans rfl)
theorem dk_29 {code : ByteArray} {pc : Nat} (h : DkAt code pc [29]) : decode code pc = .ok (.iload_n 3, 1) := dk_of ((dk_bind (dk_u1 (h 0 _ rfl))).trans rfl)
theorem dk_30 {code : ByteArray} {pc : Nat} (h : DkAt code pc [30]) : decode code pc = .ok (.lload_n 0, 1) := dk_of ((dk_bind (dk_u1 (h 0 _ rfl))).trans rfl)
theorem dk_31 {code : ByteArray} {pc : Nat} (h : DkAt code pc [31]) : decode code pc = .ok (.lload_n 1, 1) := dk_of ((dk_bind (dk_u1 (h 0 _ rfl))).trans rfl)
theorem dk_32 {code : ByteArray} {pc : Nat} (h : DkAt code pc [32]) : decode code pc = .ok (.lload_n 2, 1) := dk_of ((dk_bind (dk_u1 (h 0 _ rfl))).trans rfl)
theorem dk_33 {code : ByteArray} {pc : Nat} (h : DkAt code pc [33]) : decode code pc = .ok (.lload_n 3, 1) := dk_of ((dk_bind (dk_u1 (h 0 _ rfl))).trans rfl)
theorem dk_42 {code : ByteArray} {pc : Nat} (h : DkAt code pc [42]) : decode code pc = .ok (.aload_n 0, 1) := dk_of ((dk_bind (dk_u1 (h 0 _ rfl))).trans rfl)
theorem dk_43 {code : ByteArray} {pc : Nat} (h : DkAt code pc [43]) : decode code pc = .ok (.aload_n 1, 1) := dk_of ((dk_bind (dk_u1 (h 0 _ rfl))).trans rfl)
theorem dk_44 {code : ByteArray} {pc : Nat} (h : DkAt code pc [44]) : decode code pc = .ok (.aload_n 2, 1) := dk_of ((dk_bind (dk_u1 (h 0 _ rfl))).trans rfl)
theorem dk_45 {code : ByteArray} {pc : Nat} (h : DkAt code pc [45]) : decode code pc = .ok (.aload_n 3, 1) := dk_of ((dk_bind (dk_u1 (h 0 _ rfl))).trans rfl)
theorem dk_46 {code : ByteArray} {pc : Nat} (h : DkAt code pc [46]) : decode code pc = .ok (.iaload, 1) := dk_of ((dk_bind (dk_u1 (h 0 _ rfl))).trans rfl)
theorem dk_47 {code : ByteArray} {pc : Nat} (h : DkAt code pc [47]) : decode code pc = .ok (.laload, 1) := dk_of ((dk_bind (dk_u1 (h 0 _ rfl))).trans rfl)
theorem dk_50 {code : ByteArray} {pc : Nat} (h : DkAt code pc [50]) : decode code pc = .ok (.aaload, 1) := dk_of ((dk_bind (dk_u1 (h 0 _ rfl))).trans rfl)
theorem dk_51 {code : ByteArray} {pc : Nat} (h : DkAt code pc [51]) : decode code pc = .ok (.baload, 1) := dk_of ((dk_bind (dk_u1 (h 0 _ rfl))).trans rfl)
theorem dk_54 {code : ByteArray} {pc : Nat} (a : UInt8) (h : DkAt code pc [54, a]) : decode code pc = .ok (.istore a.toNat, 2) := dk_of ((dk_bind (dk_u1 (h 0 _ rfl))).trans ((dk_bind (dk_u1 (h 1 _ rfl))).trans rfl))
theorem dk_55 {code : ByteArray} {pc : Nat} (a : UInt8) (h : DkAt code pc [55, a]) : decode code pc = .ok (.lstore a.toNat, 2) := dk_of ((dk_bind (dk_u1 (h 0 _ rfl))).trans ((dk_bind (dk_u1 (h 1 _ rfl))).trans rfl))
theorem dk_58 {code : ByteArray} {pc : Nat} (a : UInt8) (h : DkAt code pc [58, a]) : decode code pc = .ok (.astore a.toNat, 2) := dk_of ((dk_bind (dk_u1 (h 0 _ rfl))).trans ((dk_bind (dk_u1 (h 1 _ rfl))).trans rfl))
theorem dk_60 {code : ByteArray} {pc : Nat} (h : DkAt code pc [60]) : decode code pc = .ok (.istore_n 1, 1) := dk_of ((dk_bind (dk_u1 (h 0 _ rfl))).trans rfl)
theorem dk_61 {code : ByteArray} {pc : Nat} (h : DkAt code pc [61]) : decode code pc = .ok (.istore_n 2, 1) := dk_of ((dk_bind (dk_u1 (h 0 _ rfl))).trans rfl)
theorem dk_62 {code : ByteArray} {pc : Nat} (h : DkAt code pc [62]) : decode code pc = .ok (.istore_n 3, 1) := dk_of ((dk_bind (dk_u1 (h 0 _ rfl))).trans rfl)
theorem dk_63 {code : ByteArray} {pc : Nat} (h : DkAt code pc [63]) : decode code pc = .ok (.lstore_n 0, 1) := dk_of ((dk_bind (dk_u1 (h 0 _ rfl))).trans rfl)
theorem dk_64 {code : ByteArray} {pc : Nat} (h : DkAt code pc [64]) : decode code pc = .ok (.lstore_n 1, 1) := dk_of ((dk_bind (dk_u1 (h 0 _ rfl))).trans rfl)
theorem dk_66 {code : ByteArray} {pc : Nat} (h : DkAt code pc [66]) : decode code pc = .ok (.lstore_n 3, 1) := dk_of ((dk_bind (dk_u1 (h 0 _ rfl))).trans rfl)
theorem dk_75 {code : ByteArray} {pc : Nat} (h : DkAt code pc [75]) : decode code pc = .ok (.astore_n 0, 1) := dk_of ((dk_bind (dk_u1 (h 0 _ rfl))).trans rfl)
theorem dk_76 {code : ByteArray} {pc : Nat} (h : DkAt code pc [76]) : decode code pc = .ok (.astore_n 1, 1) := dk_of ((dk_bind (dk_u1 (h 0 _ rfl))).trans rfl)
theorem dk_77 {code : ByteArray} {pc : Nat} (h : DkAt code pc [77]) : decode code pc = .ok (.astore_n 2, 1) := dk_of ((dk_bind (dk_u1 (h 0 _ rfl))).trans rfl)
theorem dk_78 {code : ByteArray} {pc : Nat} (h : DkAt code pc [78]) : decode code pc = .ok (.astore_n 3, 1) := dk_of ((dk_bind (dk_u1 (h 0 _ rfl))).trans rfl)
theorem dk_79 {code : ByteArray} {pc : Nat} (h : DkAt code pc [79]) : decode code pc = .ok (.iastore, 1) := dk_of ((dk_bind (dk_u1 (h 0 _ rfl))).trans rfl)
theorem dk_80 {code : ByteArray} {pc : Nat} (h : DkAt code pc [80]) : decode code pc = .ok (.lastore, 1) := dk_of ((dk_bind (dk_u1 (h 0 _ rfl))).trans rfl)
theorem dk_83 {code : ByteArray} {pc : Nat} (h : DkAt code pc [83]) : decode code pc = .ok (.aastore, 1) := dk_of ((dk_bind (dk_u1 (h 0 _ rfl))).trans rfl)
theorem dk_84 {code : ByteArray} {pc : Nat} (h : DkAt code pc [84]) : decode code pc = .ok (.bastore, 1) := dk_of ((dk_bind (dk_u1 (h 0 _ rfl))).trans rfl)
theorem dk_87 {code : ByteArray} {pc : Nat} (h : DkAt code pc [87]) : decode code pc = .ok (.pop, 1) := dk_of ((dk_bind (dk_u1 (h 0 _ rfl))).trans rfl)
theorem dk_89 {code : ByteArray} {pc : Nat} (h : DkAt code pc [89]) : decode code pc = .ok (.dup, 1) := dk_of ((dk_bind (dk_u1 (h 0 _ rfl))).trans rfl)
theorem dk_96 {code : ByteArray} {pc : Nat} (h : DkAt code pc [96]) : decode code pc = .ok (.iadd, 1) := dk_of ((dk_bind (dk_u1 (h 0 _ rfl))).trans rfl)
theorem dk_97 {code : ByteArray} {pc : Nat} (h : DkAt code pc [97]) : decode code pc = .ok (.ladd, 1) := dk_of ((dk_bind (dk_u1 (h 0 _ rfl))).trans rfl)
theorem dk_100 {code : ByteArray} {pc : Nat} (h : DkAt code pc [100]) : decode code pc = .ok (.isub, 1) := dk_of ((dk_bind (dk_u1 (h 0 _ rfl))).trans rfl)
theorem dk_101 {code : ByteArray} {pc : Nat} (h : DkAt code pc [101]) : decode code pc = .ok (.lsub, 1) := dk_of ((dk_bind (dk_u1 (h 0 _ rfl))).trans rfl)
theorem dk_104 {code : ByteArray} {pc : Nat} (h : DkAt code pc [104]) : decode code pc = .ok (.imul, 1) := dk_of ((dk_bind (dk_u1 (h 0 _ rfl))).trans rfl)
theorem dk_105 {code : ByteArray} {pc : Nat} (h : DkAt code pc [105]) : decode code pc = .ok (.lmul, 1) := dk_of ((dk_bind (dk_u1 (h 0 _ rfl))).trans rfl)
theorem dk_108 {code : ByteArray} {pc : Nat} (h : DkAt code pc [108]) : decode code pc = .ok (.idiv, 1) := dk_of ((dk_bind (dk_u1 (h 0 _ rfl))).trans rfl)
theorem dk_112 {code : ByteArray} {pc : Nat} (h : DkAt code pc [112]) : decode code pc = .ok (.irem, 1) := dk_of ((dk_bind (dk_u1 (h 0 _ rfl))).trans rfl)
theorem dk_113 {code : ByteArray} {pc : Nat} (h : DkAt code pc [113]) : decode code pc = .ok (.lrem, 1) := dk_of ((dk_bind (dk_u1 (h 0 _ rfl))).trans rfl)
theorem dk_121 {code : ByteArray} {pc : Nat} (h : DkAt code pc [121]) : decode code pc = .ok (.lshl, 1) := dk_of ((dk_bind (dk_u1 (h 0 _ rfl))).trans rfl)
theorem dk_122 {code : ByteArray} {pc : Nat} (h : DkAt code pc [122]) : decode code pc = .ok (.ishr, 1) := dk_of ((dk_bind (dk_u1 (h 0 _ rfl))).trans rfl)
theorem dk_123 {code : ByteArray} {pc : Nat} (h : DkAt code pc [123]) : decode code pc = .ok (.lshr, 1) := dk_of ((dk_bind (dk_u1 (h 0 _ rfl))).trans rfl)
theorem dk_124 {code : ByteArray} {pc : Nat} (h : DkAt code pc [124]) : decode code pc = .ok (.iushr, 1) := dk_of ((dk_bind (dk_u1 (h 0 _ rfl))).trans rfl)
theorem dk_126 {code : ByteArray} {pc : Nat} (h : DkAt code pc [126]) : decode code pc = .ok (.iand, 1) := dk_of ((dk_bind (dk_u1 (h 0 _ rfl))).trans rfl)
theorem dk_127 {code : ByteArray} {pc : Nat} (h : DkAt code pc [127]) : decode code pc = .ok (.land, 1) := dk_of ((dk_bind (dk_u1 (h 0 _ rfl))).trans rfl)
theorem dk_129 {code : ByteArray} {pc : Nat} (h : DkAt code pc [129]) : decode code pc = .ok (.lor, 1) := dk_of ((dk_bind (dk_u1 (h 0 _ rfl))).trans rfl)
theorem dk_130 {code : ByteArray} {pc : Nat} (h : DkAt code pc [130]) : decode code pc = .ok (.ixor, 1) := dk_of ((dk_bind (dk_u1 (h 0 _ rfl))).trans rfl)
theorem dk_131 {code : ByteArray} {pc : Nat} (h : DkAt code pc [131]) : decode code pc = .ok (.lxor, 1) := dk_of ((dk_bind (dk_u1 (h 0 _ rfl))).trans rfl)
theorem dk_132 {code : ByteArray} {pc : Nat} (a b : UInt8) (h : DkAt code pc [132, a, b]) : decode code pc = .ok (.iinc a.toNat (Reader.signed 8 b.toNat), 3) := dk_of ((dk_bind (dk_u1 (h 0 _ rfl))).trans ((dk_bind (dk_u1 (h 1 _ rfl))).trans ((dk_bind (dk_map (dk_u1 (h 2 _ rfl)))).trans rfl)))
theorem dk_133 {code : ByteArray} {pc : Nat} (h : DkAt code pc [133]) : decode code pc = .ok (.i2l, 1) := dk_of ((dk_bind (dk_u1 (h 0 _ rfl))).trans rfl)
theorem dk_145 {code : ByteArray} {pc : Nat} (h : DkAt code pc [145]) : decode code pc = .ok (.i2b, 1) := dk_of ((dk_bind (dk_u1 (h 0 _ rfl))).trans rfl)
theorem dk_148 {code : ByteArray} {pc : Nat} (h : DkAt code pc [148]) : decode code pc = .ok (.lcmp, 1) := dk_of ((dk_bind (dk_u1 (h 0 _ rfl))).trans rfl)
theorem dk_153 {code : ByteArray} {pc : Nat} (a b : UInt8) (h : DkAt code pc [153, a, b]) : decode code pc = .ok (.ifCond .eq (Reader.signed 16 (a.toNat * 256 + b.toNat)), 3) := dk_of ((dk_bind (dk_u1 (h 0 _ rfl))).trans ((dk_bind (dk_map (dk_u2 (h 1 _ rfl) (h 2 _ rfl)))).trans rfl))
theorem dk_154 {code : ByteArray} {pc : Nat} (a b : UInt8) (h : DkAt code pc [154, a, b]) : decode code pc = .ok (.ifCond .ne (Reader.signed 16 (a.toNat * 256 + b.toNat)), 3) := dk_of ((dk_bind (dk_u1 (h 0 _ rfl))).trans ((dk_bind (dk_map (dk_u2 (h 1 _ rfl) (h 2 _ rfl)))).trans rfl))
theorem dk_155 {code : ByteArray} {pc : Nat} (a b : UInt8) (h : DkAt code pc [155, a, b]) : decode code pc = .ok (.ifCond .lt (Reader.signed 16 (a.toNat * 256 + b.toNat)), 3) := dk_of ((dk_bind (dk_u1 (h 0 _ rfl))).trans ((dk_bind (dk_map (dk_u2 (h 1 _ rfl) (h 2 _ rfl)))).trans rfl))
theorem dk_157 {code : ByteArray} {pc : Nat} (a b : UInt8) (h : DkAt code pc [157, a, b]) : decode code pc = .ok (.ifCond .gt (Reader.signed 16 (a.toNat * 256 + b.toNat)), 3) := dk_of ((dk_bind (dk_u1 (h 0 _ rfl))).trans ((dk_bind (dk_map (dk_u2 (h 1 _ rfl) (h 2 _ rfl)))).trans rfl))
theorem dk_158 {code : ByteArray} {pc : Nat} (a b : UInt8) (h : DkAt code pc [158, a, b]) : decode code pc = .ok (.ifCond .le (Reader.signed 16 (a.toNat * 256 + b.toNat)), 3) := dk_of ((dk_bind (dk_u1 (h 0 _ rfl))).trans ((dk_bind (dk_map (dk_u2 (h 1 _ rfl) (h 2 _ rfl)))).trans rfl))
theorem dk_159 {code : ByteArray} {pc : Nat} (a b : UInt8) (h : DkAt code pc [159, a, b]) : decode code pc = .ok (.if_icmp .eq (Reader.signed 16 (a.toNat * 256 + b.toNat)), 3) := dk_of ((dk_bind (dk_u1 (h 0 _ rfl))).trans ((dk_bind (dk_map (dk_u2 (h 1 _ rfl) (h 2 _ rfl)))).trans rfl))
theorem dk_160 {code : ByteArray} {pc : Nat} (a b : UInt8) (h : DkAt code pc [160, a, b]) : decode code pc = .ok (.if_icmp .ne (Reader.signed 16 (a.toNat * 256 + b.toNat)), 3) := dk_of ((dk_bind (dk_u1 (h 0 _ rfl))).trans ((dk_bind (dk_map (dk_u2 (h 1 _ rfl) (h 2 _ rfl)))).trans rfl))
theorem dk_162 {code : ByteArray} {pc : Nat} (a b : UInt8) (h : DkAt code pc [162, a, b]) : decode code pc = .ok (.if_icmp .ge (Reader.signed 16 (a.toNat * 256 + b.toNat)), 3) := dk_of ((dk_bind (dk_u1 (h 0 _ rfl))).trans ((dk_bind (dk_map (dk_u2 (h 1 _ rfl) (h 2 _ rfl)))).trans rfl))
theorem dk_164 {code : ByteArray} {pc : Nat} (a b : UInt8) (h : DkAt code pc [164, a, b]) : decode code pc = .ok (.if_icmp .le (Reader.signed 16 (a.toNat * 256 + b.toNat)), 3) := dk_of ((dk_bind (dk_u1 (h 0 _ rfl))).trans ((dk_bind (dk_map (dk_u2 (h 1 _ rfl) (h 2 _ rfl)))).trans rfl))
theorem dk_167 {code : ByteArray} {pc : Nat} (a b : UInt8) (h : DkAt code pc [167, a, b]) : decode code pc = .ok (.goto (Reader.signed 16 (a.toNat * 256 + b.toNat)), 3) := dk_of ((dk_bind (dk_u1 (h 0 _ rfl))).trans ((dk_bind (dk_map (dk_u2 (h 1 _ rfl) (h 2 _ rfl)))).trans rfl))
theorem dk_172 {code : ByteArray} {pc : Nat} (h : DkAt code pc [172]) : decode code pc = .ok (.ireturn, 1) := dk_of ((dk_bind (dk_u1 (h 0 _ rfl))).trans rfl)
theorem dk_173 {code : ByteArray} {pc : Nat} (h : DkAt code pc [173]) : decode code pc = .ok (.lreturn, 1) := dk_of ((dk_bind (dk_u1 (h 0 _ rfl))).trans rfl)
theorem dk_176 {code : ByteArray} {pc : Nat} (h : DkAt code pc [176]) : decode code pc = .ok (.areturn, 1) := dk_of ((dk_bind (dk_u1 (h 0 _ rfl))).trans rfl)
theorem dk_177 {code : ByteArray} {pc : Nat} (h : DkAt code pc [177]) : decode code pc = .ok (.return_, 1) := dk_of ((dk_bind (dk_u1 (h 0 _ rfl))).trans rfl)
theorem dk_178 {code : ByteArray} {pc : Nat} (a b : UInt8) (h : DkAt code pc [178, a, b]) : decode code pc = .ok (.getstatic (a.toNat * 256 + b.toNat), 3) := dk_of ((dk_bind (dk_u1 (h 0 _ rfl))).trans ((dk_bind (dk_u2 (h 1 _ rfl) (h 2 _ rfl))).trans rfl))
theorem dk_180 {code : ByteArray} {pc : Nat} (a b : UInt8) (h : DkAt code pc [180, a, b]) : decode code pc = .ok (.getfield (a.toNat * 256 + b.toNat), 3) := dk_of ((dk_bind (dk_u1 (h 0 _ rfl))).trans ((dk_bind (dk_u2 (h 1 _ rfl) (h 2 _ rfl))).trans rfl))
theorem dk_181 {code : ByteArray} {pc : Nat} (a b : UInt8) (h : DkAt code pc [181, a, b]) : decode code pc = .ok (.putfield (a.toNat * 256 + b.toNat), 3) := dk_of ((dk_bind (dk_u1 (h 0 _ rfl))).trans ((dk_bind (dk_u2 (h 1 _ rfl) (h 2 _ rfl))).trans rfl))
theorem dk_182 {code : ByteArray} {pc : Nat} (a b : UInt8) (h : DkAt code pc [182, a, b]) : decode code pc = .ok (.invokevirtual (a.toNat * 256 + b.toNat), 3) := dk_of ((dk_bind (dk_u1 (h 0 _ rfl))).trans ((dk_bind (dk_u2 (h 1 _ rfl) (h 2 _ rfl))).trans rfl))
theorem dk_183 {code : ByteArray} {pc : Nat} (a b : UInt8) (h : DkAt code pc [183, a, b]) : decode code pc = .ok (.invokespecial (a.toNat * 256 + b.toNat), 3) := dk_of ((dk_bind (dk_u1 (h 0 _ rfl))).trans ((dk_bind (dk_u2 (h 1 _ rfl) (h 2 _ rfl))).trans rfl))
theorem dk_184 {code : ByteArray} {pc : Nat} (a b : UInt8) (h : DkAt code pc [184, a, b]) : decode code pc = .ok (.invokestatic (a.toNat * 256 + b.toNat), 3) := dk_of ((dk_bind (dk_u1 (h 0 _ rfl))).trans ((dk_bind (dk_u2 (h 1 _ rfl) (h 2 _ rfl))).trans rfl))
theorem dk_187 {code : ByteArray} {pc : Nat} (a b : UInt8) (h : DkAt code pc [187, a, b]) : decode code pc = .ok (.new (a.toNat * 256 + b.toNat), 3) := dk_of ((dk_bind (dk_u1 (h 0 _ rfl))).trans ((dk_bind (dk_u2 (h 1 _ rfl) (h 2 _ rfl))).trans rfl))
theorem dk_188_8 {code : ByteArray} {pc : Nat} (h : DkAt code pc [188, 8]) : decode code pc = .ok (.newarray .byte, 2) := dk_of ((dk_bind (dk_u1 (h 0 _ rfl))).trans ((dk_bind (dk_u1 (h 1 _ rfl))).trans rfl))
theorem dk_188_10 {code : ByteArray} {pc : Nat} (h : DkAt code pc [188, 10]) : decode code pc = .ok (.newarray .int, 2) := dk_of ((dk_bind (dk_u1 (h 0 _ rfl))).trans ((dk_bind (dk_u1 (h 1 _ rfl))).trans rfl))
theorem dk_188_11 {code : ByteArray} {pc : Nat} (h : DkAt code pc [188, 11]) : decode code pc = .ok (.newarray .long, 2) := dk_of ((dk_bind (dk_u1 (h 0 _ rfl))).trans ((dk_bind (dk_u1 (h 1 _ rfl))).trans rfl))
theorem dk_189 {code : ByteArray} {pc : Nat} (a b : UInt8) (h : DkAt code pc [189, a, b]) : decode code pc = .ok (.anewarray (a.toNat * 256 + b.toNat), 3) := dk_of ((dk_bind (dk_u1 (h 0 _ rfl))).trans ((dk_bind (dk_u2 (h 1 _ rfl) (h 2 _ rfl))).trans rfl))
theorem dk_190 {code : ByteArray} {pc : Nat} (h : DkAt code pc [190]) : decode code pc = .ok (.arraylength, 1) := dk_of ((dk_bind (dk_u1 (h 0 _ rfl))).trans rfl)
/-! java/lang/Object -/
set_option maxRecDepth 100000
def RJ0 : String := "java/lang/Object"
abbrev cJ0_init : ByteArray := object_method_1_code
def yJ0_init : MethodName := ⟨RJ0, "<init>", "()V"⟩
theorem dJ0_init_0 : decode cJ0_init 0 = .ok (.return_, 1) := by decide +kernel
theorem q19 : (Jvm.Cond.instanceMethod ({ cls := "java/lang/Object", name := "<init>", desc := "()V" } : Jvm.MethodName)) ∈ lw_all := lw_g (lw_at lw_m0 16 rfl) rfl
theorem q20 : (Jvm.Cond.code ({ cls := "java/lang/Object", name := "<init>", desc := "()V" } : Jvm.MethodName) object_method_1_code (1 : Nat) (Option.none : Option Jvm.ClassFile.FieldType)) ∈ lw_all := lw_g (lw_at lw_m0 17 rfl) rfl
/-! SumJoin -/
set_option maxRecDepth 100000
def RX1 : String := "SumJoin"
def TX1 : u_T := fun k => match k with
  | 0 => ("SumJoin", "text", "[B", true)
  | _ => ("SumJoin", "size", "I", false)
def tyX1 : Nat → FieldType := fun k => match k with
  | 0 => .array .byte
  | _ => .int
abbrev wsX10 : List Cond := u_ws RX1 TX1 2
theorem nmX1 : ∀ a, a < 2 → ∀ b, b < 2 → a ≠ b → (TX1 a).2.1 ≠ (TX1 b).2.1 := by decide +kernel
theorem tyX1_ok : ∀ k, k < 2 → parseFieldDescriptor (TX1 k).2.2.1 = some (tyX1 k) := by decide +kernel
abbrev cX1_init : ByteArray := prog_3_method_1_code
def yX1_init : MethodName := ⟨RX1, "<init>", "()V"⟩
def dkwX1_init_0 : List UInt8 := [42, 183, 0, 1, 42, 17, 16, 0, 188, 8, 181, 0, 7, 177]
abbrev dktX1_init_0 : List UInt8 := dkwX1_init_0 ++ []
theorem dksX1_init_0 : cX1_init.data.toList.drop 0 = dktX1_init_0 := by decide +kernel
theorem dX1_init_0 : decode cX1_init 0 = .ok (.aload_n 0, 1) := dk_42 (dk_at dksX1_init_0 0 rfl rfl)
theorem dX1_init_1 : decode cX1_init 1 = .ok (.invokespecial 1, 3) := dk_183 0 1 (dk_at dksX1_init_0 1 rfl rfl)
theorem dX1_init_4 : decode cX1_init 4 = .ok (.aload_n 0, 1) := dk_42 (dk_at dksX1_init_0 4 rfl rfl)
theorem dX1_init_5 : decode cX1_init 5 = .ok (.sipush 4096, 3) := dk_17 16 0 (dk_at dksX1_init_0 5 rfl rfl)
theorem dX1_init_8 : decode cX1_init 8 = .ok (.newarray .byte, 2) := dk_188_8 (dk_at dksX1_init_0 8 rfl rfl)
theorem dX1_init_10 : decode cX1_init 10 = .ok (.putfield 7, 3) := dk_181 0 7 (dk_at dksX1_init_0 10 rfl rfl)
theorem dX1_init_13 : decode cX1_init 13 = .ok (.return_, 1) := dk_177 (dk_at dksX1_init_0 13 rfl rfl)
abbrev cX1_crc : ByteArray := prog_3_method_9_code
def yX1_crc : MethodName := ⟨RX1, "crc", "(II)J"⟩
def dkwX1_crc_0 : List UInt8 := [42, 27, 182, 0, 21, 62, 4, 42, 180, 0, 7, 29, 42, 29, 28, 182, 0, 42, 184, 0, 46, 173]
abbrev dktX1_crc_0 : List UInt8 := dkwX1_crc_0 ++ []
theorem dksX1_crc_0 : cX1_crc.data.toList.drop 0 = dktX1_crc_0 := by decide +kernel
theorem dX1_crc_0 : decode cX1_crc 0 = .ok (.aload_n 0, 1) := dk_42 (dk_at dksX1_crc_0 0 rfl rfl)
theorem dX1_crc_1 : decode cX1_crc 1 = .ok (.iload_n 1, 1) := dk_27 (dk_at dksX1_crc_0 1 rfl rfl)
theorem dX1_crc_2 : decode cX1_crc 2 = .ok (.invokevirtual 21, 3) := dk_182 0 21 (dk_at dksX1_crc_0 2 rfl rfl)
theorem dX1_crc_5 : decode cX1_crc 5 = .ok (.istore_n 3, 1) := dk_62 (dk_at dksX1_crc_0 5 rfl rfl)
theorem dX1_crc_6 : decode cX1_crc 6 = .ok (.iconst 1, 1) := dk_4 (dk_at dksX1_crc_0 6 rfl rfl)
theorem dX1_crc_7 : decode cX1_crc 7 = .ok (.aload_n 0, 1) := dk_42 (dk_at dksX1_crc_0 7 rfl rfl)
theorem dX1_crc_8 : decode cX1_crc 8 = .ok (.getfield 7, 3) := dk_180 0 7 (dk_at dksX1_crc_0 8 rfl rfl)
theorem dX1_crc_11 : decode cX1_crc 11 = .ok (.iload_n 3, 1) := dk_29 (dk_at dksX1_crc_0 11 rfl rfl)
theorem dX1_crc_12 : decode cX1_crc 12 = .ok (.aload_n 0, 1) := dk_42 (dk_at dksX1_crc_0 12 rfl rfl)
theorem dX1_crc_13 : decode cX1_crc 13 = .ok (.iload_n 3, 1) := dk_29 (dk_at dksX1_crc_0 13 rfl rfl)
theorem dX1_crc_14 : decode cX1_crc 14 = .ok (.iload_n 2, 1) := dk_28 (dk_at dksX1_crc_0 14 rfl rfl)
theorem dX1_crc_15 : decode cX1_crc 15 = .ok (.invokevirtual 42, 3) := dk_182 0 42 (dk_at dksX1_crc_0 15 rfl rfl)
theorem dX1_crc_18 : decode cX1_crc 18 = .ok (.invokestatic 46, 3) := dk_184 0 46 (dk_at dksX1_crc_0 18 rfl rfl)
theorem dX1_crc_21 : decode cX1_crc 21 = .ok (.lreturn, 1) := dk_173 (dk_at dksX1_crc_0 21 rfl rfl)
abbrev cX1_from : ByteArray := prog_3_method_6_code
def yX1_from : MethodName := ⟨RX1, "from", "(I)I"⟩
def dkwX1_from_0 : List UInt8 := [27, 18, 25, 126, 42, 180, 0, 13, 4, 96, 112, 172]
abbrev dktX1_from_0 : List UInt8 := dkwX1_from_0 ++ []
theorem dksX1_from_0 : cX1_from.data.toList.drop 0 = dktX1_from_0 := by decide +kernel
theorem dX1_from_0 : decode cX1_from 0 = .ok (.iload_n 1, 1) := dk_27 (dk_at dksX1_from_0 0 rfl rfl)
theorem dX1_from_1 : decode cX1_from 1 = .ok (.ldc 25, 2) := dk_18 25 (dk_at dksX1_from_0 1 rfl rfl)
theorem dX1_from_3 : decode cX1_from 3 = .ok (.iand, 1) := dk_126 (dk_at dksX1_from_0 3 rfl rfl)
theorem dX1_from_4 : decode cX1_from 4 = .ok (.aload_n 0, 1) := dk_42 (dk_at dksX1_from_0 4 rfl rfl)
theorem dX1_from_5 : decode cX1_from 5 = .ok (.getfield 13, 3) := dk_180 0 13 (dk_at dksX1_from_0 5 rfl rfl)
theorem dX1_from_8 : decode cX1_from 8 = .ok (.iconst 1, 1) := dk_4 (dk_at dksX1_from_0 8 rfl rfl)
theorem dX1_from_9 : decode cX1_from 9 = .ok (.iadd, 1) := dk_96 (dk_at dksX1_from_0 9 rfl rfl)
theorem dX1_from_10 : decode cX1_from 10 = .ok (.irem, 1) := dk_112 (dk_at dksX1_from_0 10 rfl rfl)
theorem dX1_from_11 : decode cX1_from 11 = .ok (.ireturn, 1) := dk_172 (dk_at dksX1_from_0 11 rfl rfl)
abbrev cX1_count : ByteArray := prog_3_method_7_code
def yX1_count : MethodName := ⟨RX1, "count", "(II)I"⟩
def dkwX1_count_0 : List UInt8 := [28, 18, 25, 126, 42, 180, 0, 13, 27, 100, 4, 96, 112, 172]
abbrev dktX1_count_0 : List UInt8 := dkwX1_count_0 ++ []
theorem dksX1_count_0 : cX1_count.data.toList.drop 0 = dktX1_count_0 := by decide +kernel
theorem dX1_count_0 : decode cX1_count 0 = .ok (.iload_n 2, 1) := dk_28 (dk_at dksX1_count_0 0 rfl rfl)
theorem dX1_count_1 : decode cX1_count 1 = .ok (.ldc 25, 2) := dk_18 25 (dk_at dksX1_count_0 1 rfl rfl)
theorem dX1_count_3 : decode cX1_count 3 = .ok (.iand, 1) := dk_126 (dk_at dksX1_count_0 3 rfl rfl)
theorem dX1_count_4 : decode cX1_count 4 = .ok (.aload_n 0, 1) := dk_42 (dk_at dksX1_count_0 4 rfl rfl)
theorem dX1_count_5 : decode cX1_count 5 = .ok (.getfield 13, 3) := dk_180 0 13 (dk_at dksX1_count_0 5 rfl rfl)
theorem dX1_count_8 : decode cX1_count 8 = .ok (.iload_n 1, 1) := dk_27 (dk_at dksX1_count_0 8 rfl rfl)
theorem dX1_count_9 : decode cX1_count 9 = .ok (.isub, 1) := dk_100 (dk_at dksX1_count_0 9 rfl rfl)
theorem dX1_count_10 : decode cX1_count 10 = .ok (.iconst 1, 1) := dk_4 (dk_at dksX1_count_0 10 rfl rfl)
theorem dX1_count_11 : decode cX1_count 11 = .ok (.iadd, 1) := dk_96 (dk_at dksX1_count_0 11 rfl rfl)
theorem dX1_count_12 : decode cX1_count 12 = .ok (.irem, 1) := dk_112 (dk_at dksX1_count_0 12 rfl rfl)
theorem dX1_count_13 : decode cX1_count 13 = .ok (.ireturn, 1) := dk_172 (dk_at dksX1_count_0 13 rfl rfl)
abbrev cX1_sum : ByteArray := prog_3_method_8_code
def yX1_sum : MethodName := ⟨RX1, "sum", "(Z[BII)J"⟩
def dkwX1_sum_2 : List UInt8 := [182, 0, 41, 173]
abbrev dktX1_sum_2 : List UInt8 := dkwX1_sum_2 ++ []
def dkwX1_sum_1 : List UInt8 := [182, 0, 33, 173, 187, 0, 37, 89, 183, 0, 39, 58, 4, 25, 4, 43, 28, 29, 182, 0, 40, 25, 4]
abbrev dktX1_sum_1 : List UInt8 := dkwX1_sum_1 ++ dktX1_sum_2
def dkwX1_sum_0 : List UInt8 := [26, 153, 0, 26, 187, 0, 26, 89, 183, 0, 28, 58, 4, 25, 4, 43, 28, 29, 182, 0, 29, 25, 4]
abbrev dktX1_sum_0 : List UInt8 := dkwX1_sum_0 ++ dktX1_sum_1
theorem dksX1_sum_0 : cX1_sum.data.toList.drop 0 = dktX1_sum_0 := by decide +kernel
theorem dksX1_sum_1 : cX1_sum.data.toList.drop 23 = dktX1_sum_1 := dk_seg dksX1_sum_0 23 rfl rfl
theorem dksX1_sum_2 : cX1_sum.data.toList.drop 46 = dktX1_sum_2 := dk_seg dksX1_sum_1 23 rfl rfl
theorem dX1_sum_0 : decode cX1_sum 0 = .ok (.iload_n 0, 1) := dk_26 (dk_at dksX1_sum_0 0 rfl rfl)
theorem dX1_sum_1 : decode cX1_sum 1 = .ok (.ifCond .eq 26, 3) := dk_153 0 26 (dk_at dksX1_sum_0 1 rfl rfl)
theorem dX1_sum_4 : decode cX1_sum 4 = .ok (.new 26, 3) := dk_187 0 26 (dk_at dksX1_sum_0 4 rfl rfl)
theorem dX1_sum_7 : decode cX1_sum 7 = .ok (.dup, 1) := dk_89 (dk_at dksX1_sum_0 7 rfl rfl)
theorem dX1_sum_8 : decode cX1_sum 8 = .ok (.invokespecial 28, 3) := dk_183 0 28 (dk_at dksX1_sum_0 8 rfl rfl)
theorem dX1_sum_11 : decode cX1_sum 11 = .ok (.astore 4, 2) := dk_58 4 (dk_at dksX1_sum_0 11 rfl rfl)
theorem dX1_sum_13 : decode cX1_sum 13 = .ok (.aload 4, 2) := dk_25 4 (dk_at dksX1_sum_0 13 rfl rfl)
theorem dX1_sum_15 : decode cX1_sum 15 = .ok (.aload_n 1, 1) := dk_43 (dk_at dksX1_sum_0 15 rfl rfl)
theorem dX1_sum_16 : decode cX1_sum 16 = .ok (.iload_n 2, 1) := dk_28 (dk_at dksX1_sum_0 16 rfl rfl)
theorem dX1_sum_17 : decode cX1_sum 17 = .ok (.iload_n 3, 1) := dk_29 (dk_at dksX1_sum_0 17 rfl rfl)
theorem dX1_sum_18 : decode cX1_sum 18 = .ok (.invokevirtual 29, 3) := dk_182 0 29 (dk_at dksX1_sum_0 18 rfl rfl)
theorem dX1_sum_21 : decode cX1_sum 21 = .ok (.aload 4, 2) := dk_25 4 (dk_at dksX1_sum_0 21 rfl rfl)
theorem dX1_sum_23 : decode cX1_sum 23 = .ok (.invokevirtual 33, 3) := dk_182 0 33 (dk_at dksX1_sum_1 0 rfl rfl)
theorem dX1_sum_26 : decode cX1_sum 26 = .ok (.lreturn, 1) := dk_173 (dk_at dksX1_sum_1 3 rfl rfl)
theorem dX1_sum_27 : decode cX1_sum 27 = .ok (.new 37, 3) := dk_187 0 37 (dk_at dksX1_sum_1 4 rfl rfl)
theorem dX1_sum_30 : decode cX1_sum 30 = .ok (.dup, 1) := dk_89 (dk_at dksX1_sum_1 7 rfl rfl)
theorem dX1_sum_31 : decode cX1_sum 31 = .ok (.invokespecial 39, 3) := dk_183 0 39 (dk_at dksX1_sum_1 8 rfl rfl)
theorem dX1_sum_34 : decode cX1_sum 34 = .ok (.astore 4, 2) := dk_58 4 (dk_at dksX1_sum_1 11 rfl rfl)
theorem dX1_sum_36 : decode cX1_sum 36 = .ok (.aload 4, 2) := dk_25 4 (dk_at dksX1_sum_1 13 rfl rfl)
theorem dX1_sum_38 : decode cX1_sum 38 = .ok (.aload_n 1, 1) := dk_43 (dk_at dksX1_sum_1 15 rfl rfl)
theorem dX1_sum_39 : decode cX1_sum 39 = .ok (.iload_n 2, 1) := dk_28 (dk_at dksX1_sum_1 16 rfl rfl)
theorem dX1_sum_40 : decode cX1_sum 40 = .ok (.iload_n 3, 1) := dk_29 (dk_at dksX1_sum_1 17 rfl rfl)
theorem dX1_sum_41 : decode cX1_sum 41 = .ok (.invokevirtual 40, 3) := dk_182 0 40 (dk_at dksX1_sum_1 18 rfl rfl)
theorem dX1_sum_44 : decode cX1_sum 44 = .ok (.aload 4, 2) := dk_25 4 (dk_at dksX1_sum_1 21 rfl rfl)
theorem dX1_sum_46 : decode cX1_sum 46 = .ok (.invokevirtual 41, 3) := dk_182 0 41 (dk_at dksX1_sum_2 0 rfl rfl)
theorem dX1_sum_49 : decode cX1_sum 49 = .ok (.lreturn, 1) := dk_173 (dk_at dksX1_sum_2 3 rfl rfl)
abbrev cX1_adler : ByteArray := prog_3_method_10_code
def yX1_adler : MethodName := ⟨RX1, "adler", "(II)J"⟩
def dkwX1_adler_0 : List UInt8 := [42, 27, 182, 0, 21, 62, 3, 42, 180, 0, 7, 29, 42, 29, 28, 182, 0, 42, 184, 0, 46, 173]
abbrev dktX1_adler_0 : List UInt8 := dkwX1_adler_0 ++ []
theorem dksX1_adler_0 : cX1_adler.data.toList.drop 0 = dktX1_adler_0 := by decide +kernel
theorem dX1_adler_0 : decode cX1_adler 0 = .ok (.aload_n 0, 1) := dk_42 (dk_at dksX1_adler_0 0 rfl rfl)
theorem dX1_adler_1 : decode cX1_adler 1 = .ok (.iload_n 1, 1) := dk_27 (dk_at dksX1_adler_0 1 rfl rfl)
theorem dX1_adler_2 : decode cX1_adler 2 = .ok (.invokevirtual 21, 3) := dk_182 0 21 (dk_at dksX1_adler_0 2 rfl rfl)
theorem dX1_adler_5 : decode cX1_adler 5 = .ok (.istore_n 3, 1) := dk_62 (dk_at dksX1_adler_0 5 rfl rfl)
theorem dX1_adler_6 : decode cX1_adler 6 = .ok (.iconst 0, 1) := dk_3 (dk_at dksX1_adler_0 6 rfl rfl)
theorem dX1_adler_7 : decode cX1_adler 7 = .ok (.aload_n 0, 1) := dk_42 (dk_at dksX1_adler_0 7 rfl rfl)
theorem dX1_adler_8 : decode cX1_adler 8 = .ok (.getfield 7, 3) := dk_180 0 7 (dk_at dksX1_adler_0 8 rfl rfl)
theorem dX1_adler_11 : decode cX1_adler 11 = .ok (.iload_n 3, 1) := dk_29 (dk_at dksX1_adler_0 11 rfl rfl)
theorem dX1_adler_12 : decode cX1_adler 12 = .ok (.aload_n 0, 1) := dk_42 (dk_at dksX1_adler_0 12 rfl rfl)
theorem dX1_adler_13 : decode cX1_adler 13 = .ok (.iload_n 3, 1) := dk_29 (dk_at dksX1_adler_0 13 rfl rfl)
theorem dX1_adler_14 : decode cX1_adler 14 = .ok (.iload_n 2, 1) := dk_28 (dk_at dksX1_adler_0 14 rfl rfl)
theorem dX1_adler_15 : decode cX1_adler 15 = .ok (.invokevirtual 42, 3) := dk_182 0 42 (dk_at dksX1_adler_0 15 rfl rfl)
theorem dX1_adler_18 : decode cX1_adler 18 = .ok (.invokestatic 46, 3) := dk_184 0 46 (dk_at dksX1_adler_0 18 rfl rfl)
theorem dX1_adler_21 : decode cX1_adler 21 = .ok (.lreturn, 1) := dk_173 (dk_at dksX1_adler_0 21 rfl rfl)
abbrev cX1_put : ByteArray := prog_3_method_2_code
def yX1_put : MethodName := ⟨RX1, "put", "(IIII)Z"⟩
def dkwX1_put_3 : List UInt8 := [181, 0, 13, 4, 172]
abbrev dktX1_put_3 : List UInt8 := dkwX1_put_3 ++ []
def dkwX1_put_2 : List UInt8 := [182, 0, 17, 42, 42, 180, 0, 13, 16, 12, 96, 21, 4, 182, 0, 17, 42, 89, 180, 0, 13, 16, 16, 96]
abbrev dktX1_put_2 : List UInt8 := dkwX1_put_2 ++ dktX1_put_3
def dkwX1_put_1 : List UInt8 := [182, 0, 17, 42, 42, 180, 0, 13, 7, 96, 28, 182, 0, 17, 42, 42, 180, 0, 13, 16, 8, 96, 29]
abbrev dktX1_put_1 : List UInt8 := dkwX1_put_1 ++ dktX1_put_2
def dkwX1_put_0 : List UInt8 := [42, 180, 0, 13, 42, 180, 0, 7, 190, 16, 16, 100, 164, 0, 5, 3, 172, 42, 42, 180, 0, 13, 27]
abbrev dktX1_put_0 : List UInt8 := dkwX1_put_0 ++ dktX1_put_1
theorem dksX1_put_0 : cX1_put.data.toList.drop 0 = dktX1_put_0 := by decide +kernel
theorem dksX1_put_1 : cX1_put.data.toList.drop 23 = dktX1_put_1 := dk_seg dksX1_put_0 23 rfl rfl
theorem dksX1_put_2 : cX1_put.data.toList.drop 46 = dktX1_put_2 := dk_seg dksX1_put_1 23 rfl rfl
theorem dksX1_put_3 : cX1_put.data.toList.drop 70 = dktX1_put_3 := dk_seg dksX1_put_2 24 rfl rfl
theorem dX1_put_0 : decode cX1_put 0 = .ok (.aload_n 0, 1) := dk_42 (dk_at dksX1_put_0 0 rfl rfl)
theorem dX1_put_1 : decode cX1_put 1 = .ok (.getfield 13, 3) := dk_180 0 13 (dk_at dksX1_put_0 1 rfl rfl)
theorem dX1_put_4 : decode cX1_put 4 = .ok (.aload_n 0, 1) := dk_42 (dk_at dksX1_put_0 4 rfl rfl)
theorem dX1_put_5 : decode cX1_put 5 = .ok (.getfield 7, 3) := dk_180 0 7 (dk_at dksX1_put_0 5 rfl rfl)
theorem dX1_put_8 : decode cX1_put 8 = .ok (.arraylength, 1) := dk_190 (dk_at dksX1_put_0 8 rfl rfl)
theorem dX1_put_9 : decode cX1_put 9 = .ok (.bipush 16, 2) := dk_16 16 (dk_at dksX1_put_0 9 rfl rfl)
theorem dX1_put_11 : decode cX1_put 11 = .ok (.isub, 1) := dk_100 (dk_at dksX1_put_0 11 rfl rfl)
theorem dX1_put_12 : decode cX1_put 12 = .ok (.if_icmp .le 5, 3) := dk_164 0 5 (dk_at dksX1_put_0 12 rfl rfl)
theorem dX1_put_15 : decode cX1_put 15 = .ok (.iconst 0, 1) := dk_3 (dk_at dksX1_put_0 15 rfl rfl)
theorem dX1_put_16 : decode cX1_put 16 = .ok (.ireturn, 1) := dk_172 (dk_at dksX1_put_0 16 rfl rfl)
theorem dX1_put_17 : decode cX1_put 17 = .ok (.aload_n 0, 1) := dk_42 (dk_at dksX1_put_0 17 rfl rfl)
theorem dX1_put_18 : decode cX1_put 18 = .ok (.aload_n 0, 1) := dk_42 (dk_at dksX1_put_0 18 rfl rfl)
theorem dX1_put_19 : decode cX1_put 19 = .ok (.getfield 13, 3) := dk_180 0 13 (dk_at dksX1_put_0 19 rfl rfl)
theorem dX1_put_22 : decode cX1_put 22 = .ok (.iload_n 1, 1) := dk_27 (dk_at dksX1_put_0 22 rfl rfl)
theorem dX1_put_23 : decode cX1_put 23 = .ok (.invokevirtual 17, 3) := dk_182 0 17 (dk_at dksX1_put_1 0 rfl rfl)
theorem dX1_put_26 : decode cX1_put 26 = .ok (.aload_n 0, 1) := dk_42 (dk_at dksX1_put_1 3 rfl rfl)
theorem dX1_put_27 : decode cX1_put 27 = .ok (.aload_n 0, 1) := dk_42 (dk_at dksX1_put_1 4 rfl rfl)
theorem dX1_put_28 : decode cX1_put 28 = .ok (.getfield 13, 3) := dk_180 0 13 (dk_at dksX1_put_1 5 rfl rfl)
theorem dX1_put_31 : decode cX1_put 31 = .ok (.iconst 4, 1) := dk_7 (dk_at dksX1_put_1 8 rfl rfl)
theorem dX1_put_32 : decode cX1_put 32 = .ok (.iadd, 1) := dk_96 (dk_at dksX1_put_1 9 rfl rfl)
theorem dX1_put_33 : decode cX1_put 33 = .ok (.iload_n 2, 1) := dk_28 (dk_at dksX1_put_1 10 rfl rfl)
theorem dX1_put_34 : decode cX1_put 34 = .ok (.invokevirtual 17, 3) := dk_182 0 17 (dk_at dksX1_put_1 11 rfl rfl)
theorem dX1_put_37 : decode cX1_put 37 = .ok (.aload_n 0, 1) := dk_42 (dk_at dksX1_put_1 14 rfl rfl)
theorem dX1_put_38 : decode cX1_put 38 = .ok (.aload_n 0, 1) := dk_42 (dk_at dksX1_put_1 15 rfl rfl)
theorem dX1_put_39 : decode cX1_put 39 = .ok (.getfield 13, 3) := dk_180 0 13 (dk_at dksX1_put_1 16 rfl rfl)
theorem dX1_put_42 : decode cX1_put 42 = .ok (.bipush 8, 2) := dk_16 8 (dk_at dksX1_put_1 19 rfl rfl)
theorem dX1_put_44 : decode cX1_put 44 = .ok (.iadd, 1) := dk_96 (dk_at dksX1_put_1 21 rfl rfl)
theorem dX1_put_45 : decode cX1_put 45 = .ok (.iload_n 3, 1) := dk_29 (dk_at dksX1_put_1 22 rfl rfl)
theorem dX1_put_46 : decode cX1_put 46 = .ok (.invokevirtual 17, 3) := dk_182 0 17 (dk_at dksX1_put_2 0 rfl rfl)
theorem dX1_put_49 : decode cX1_put 49 = .ok (.aload_n 0, 1) := dk_42 (dk_at dksX1_put_2 3 rfl rfl)
theorem dX1_put_50 : decode cX1_put 50 = .ok (.aload_n 0, 1) := dk_42 (dk_at dksX1_put_2 4 rfl rfl)
theorem dX1_put_51 : decode cX1_put 51 = .ok (.getfield 13, 3) := dk_180 0 13 (dk_at dksX1_put_2 5 rfl rfl)
theorem dX1_put_54 : decode cX1_put 54 = .ok (.bipush 12, 2) := dk_16 12 (dk_at dksX1_put_2 8 rfl rfl)
theorem dX1_put_56 : decode cX1_put 56 = .ok (.iadd, 1) := dk_96 (dk_at dksX1_put_2 10 rfl rfl)
theorem dX1_put_57 : decode cX1_put 57 = .ok (.iload 4, 2) := dk_21 4 (dk_at dksX1_put_2 11 rfl rfl)
theorem dX1_put_59 : decode cX1_put 59 = .ok (.invokevirtual 17, 3) := dk_182 0 17 (dk_at dksX1_put_2 13 rfl rfl)
theorem dX1_put_62 : decode cX1_put 62 = .ok (.aload_n 0, 1) := dk_42 (dk_at dksX1_put_2 16 rfl rfl)
theorem dX1_put_63 : decode cX1_put 63 = .ok (.dup, 1) := dk_89 (dk_at dksX1_put_2 17 rfl rfl)
theorem dX1_put_64 : decode cX1_put 64 = .ok (.getfield 13, 3) := dk_180 0 13 (dk_at dksX1_put_2 18 rfl rfl)
theorem dX1_put_67 : decode cX1_put 67 = .ok (.bipush 16, 2) := dk_16 16 (dk_at dksX1_put_2 21 rfl rfl)
theorem dX1_put_69 : decode cX1_put 69 = .ok (.iadd, 1) := dk_96 (dk_at dksX1_put_2 23 rfl rfl)
theorem dX1_put_70 : decode cX1_put 70 = .ok (.putfield 13, 3) := dk_181 0 13 (dk_at dksX1_put_3 0 rfl rfl)
theorem dX1_put_73 : decode cX1_put 73 = .ok (.iconst 1, 1) := dk_4 (dk_at dksX1_put_3 3 rfl rfl)
theorem dX1_put_74 : decode cX1_put 74 = .ok (.ireturn, 1) := dk_172 (dk_at dksX1_put_3 4 rfl rfl)
abbrev cX1_word : ByteArray := prog_3_method_3_code
def yX1_word : MethodName := ⟨RX1, "word", "(II)V"⟩
def dkwX1_word_1 : List UInt8 := [42, 180, 0, 7, 27, 5, 96, 28, 16, 8, 122, 145, 84, 42, 180, 0, 7, 27, 6, 96, 28, 145, 84, 177]
abbrev dktX1_word_1 : List UInt8 := dkwX1_word_1 ++ []
def dkwX1_word_0 : List UInt8 := [42, 180, 0, 7, 27, 28, 16, 24, 122, 145, 84, 42, 180, 0, 7, 27, 4, 96, 28, 16, 16, 122, 145, 84]
abbrev dktX1_word_0 : List UInt8 := dkwX1_word_0 ++ dktX1_word_1
theorem dksX1_word_0 : cX1_word.data.toList.drop 0 = dktX1_word_0 := by decide +kernel
theorem dksX1_word_1 : cX1_word.data.toList.drop 24 = dktX1_word_1 := dk_seg dksX1_word_0 24 rfl rfl
theorem dX1_word_0 : decode cX1_word 0 = .ok (.aload_n 0, 1) := dk_42 (dk_at dksX1_word_0 0 rfl rfl)
theorem dX1_word_1 : decode cX1_word 1 = .ok (.getfield 7, 3) := dk_180 0 7 (dk_at dksX1_word_0 1 rfl rfl)
theorem dX1_word_4 : decode cX1_word 4 = .ok (.iload_n 1, 1) := dk_27 (dk_at dksX1_word_0 4 rfl rfl)
theorem dX1_word_5 : decode cX1_word 5 = .ok (.iload_n 2, 1) := dk_28 (dk_at dksX1_word_0 5 rfl rfl)
theorem dX1_word_6 : decode cX1_word 6 = .ok (.bipush 24, 2) := dk_16 24 (dk_at dksX1_word_0 6 rfl rfl)
theorem dX1_word_8 : decode cX1_word 8 = .ok (.ishr, 1) := dk_122 (dk_at dksX1_word_0 8 rfl rfl)
theorem dX1_word_9 : decode cX1_word 9 = .ok (.i2b, 1) := dk_145 (dk_at dksX1_word_0 9 rfl rfl)
theorem dX1_word_10 : decode cX1_word 10 = .ok (.bastore, 1) := dk_84 (dk_at dksX1_word_0 10 rfl rfl)
theorem dX1_word_11 : decode cX1_word 11 = .ok (.aload_n 0, 1) := dk_42 (dk_at dksX1_word_0 11 rfl rfl)
theorem dX1_word_12 : decode cX1_word 12 = .ok (.getfield 7, 3) := dk_180 0 7 (dk_at dksX1_word_0 12 rfl rfl)
theorem dX1_word_15 : decode cX1_word 15 = .ok (.iload_n 1, 1) := dk_27 (dk_at dksX1_word_0 15 rfl rfl)
theorem dX1_word_16 : decode cX1_word 16 = .ok (.iconst 1, 1) := dk_4 (dk_at dksX1_word_0 16 rfl rfl)
theorem dX1_word_17 : decode cX1_word 17 = .ok (.iadd, 1) := dk_96 (dk_at dksX1_word_0 17 rfl rfl)
theorem dX1_word_18 : decode cX1_word 18 = .ok (.iload_n 2, 1) := dk_28 (dk_at dksX1_word_0 18 rfl rfl)
theorem dX1_word_19 : decode cX1_word 19 = .ok (.bipush 16, 2) := dk_16 16 (dk_at dksX1_word_0 19 rfl rfl)
theorem dX1_word_21 : decode cX1_word 21 = .ok (.ishr, 1) := dk_122 (dk_at dksX1_word_0 21 rfl rfl)
theorem dX1_word_22 : decode cX1_word 22 = .ok (.i2b, 1) := dk_145 (dk_at dksX1_word_0 22 rfl rfl)
theorem dX1_word_23 : decode cX1_word 23 = .ok (.bastore, 1) := dk_84 (dk_at dksX1_word_0 23 rfl rfl)
theorem dX1_word_24 : decode cX1_word 24 = .ok (.aload_n 0, 1) := dk_42 (dk_at dksX1_word_1 0 rfl rfl)
theorem dX1_word_25 : decode cX1_word 25 = .ok (.getfield 7, 3) := dk_180 0 7 (dk_at dksX1_word_1 1 rfl rfl)
theorem dX1_word_28 : decode cX1_word 28 = .ok (.iload_n 1, 1) := dk_27 (dk_at dksX1_word_1 4 rfl rfl)
theorem dX1_word_29 : decode cX1_word 29 = .ok (.iconst 2, 1) := dk_5 (dk_at dksX1_word_1 5 rfl rfl)
theorem dX1_word_30 : decode cX1_word 30 = .ok (.iadd, 1) := dk_96 (dk_at dksX1_word_1 6 rfl rfl)
theorem dX1_word_31 : decode cX1_word 31 = .ok (.iload_n 2, 1) := dk_28 (dk_at dksX1_word_1 7 rfl rfl)
theorem dX1_word_32 : decode cX1_word 32 = .ok (.bipush 8, 2) := dk_16 8 (dk_at dksX1_word_1 8 rfl rfl)
theorem dX1_word_34 : decode cX1_word 34 = .ok (.ishr, 1) := dk_122 (dk_at dksX1_word_1 10 rfl rfl)
theorem dX1_word_35 : decode cX1_word 35 = .ok (.i2b, 1) := dk_145 (dk_at dksX1_word_1 11 rfl rfl)
theorem dX1_word_36 : decode cX1_word 36 = .ok (.bastore, 1) := dk_84 (dk_at dksX1_word_1 12 rfl rfl)
theorem dX1_word_37 : decode cX1_word 37 = .ok (.aload_n 0, 1) := dk_42 (dk_at dksX1_word_1 13 rfl rfl)
theorem dX1_word_38 : decode cX1_word 38 = .ok (.getfield 7, 3) := dk_180 0 7 (dk_at dksX1_word_1 14 rfl rfl)
theorem dX1_word_41 : decode cX1_word 41 = .ok (.iload_n 1, 1) := dk_27 (dk_at dksX1_word_1 17 rfl rfl)
theorem dX1_word_42 : decode cX1_word 42 = .ok (.iconst 3, 1) := dk_6 (dk_at dksX1_word_1 18 rfl rfl)
theorem dX1_word_43 : decode cX1_word 43 = .ok (.iadd, 1) := dk_96 (dk_at dksX1_word_1 19 rfl rfl)
theorem dX1_word_44 : decode cX1_word 44 = .ok (.iload_n 2, 1) := dk_28 (dk_at dksX1_word_1 20 rfl rfl)
theorem dX1_word_45 : decode cX1_word 45 = .ok (.i2b, 1) := dk_145 (dk_at dksX1_word_1 21 rfl rfl)
theorem dX1_word_46 : decode cX1_word 46 = .ok (.bastore, 1) := dk_84 (dk_at dksX1_word_1 22 rfl rfl)
theorem dX1_word_47 : decode cX1_word 47 = .ok (.return_, 1) := dk_177 (dk_at dksX1_word_1 23 rfl rfl)
abbrev cX1_trim : ByteArray := prog_3_method_4_code
def yX1_trim : MethodName := ⟨RX1, "trim", "(I)V"⟩
def dkwX1_trim_0 : List UInt8 := [42, 42, 27, 182, 0, 21, 181, 0, 13, 177]
abbrev dktX1_trim_0 : List UInt8 := dkwX1_trim_0 ++ []
theorem dksX1_trim_0 : cX1_trim.data.toList.drop 0 = dktX1_trim_0 := by decide +kernel
theorem dX1_trim_0 : decode cX1_trim 0 = .ok (.aload_n 0, 1) := dk_42 (dk_at dksX1_trim_0 0 rfl rfl)
theorem dX1_trim_1 : decode cX1_trim 1 = .ok (.aload_n 0, 1) := dk_42 (dk_at dksX1_trim_0 1 rfl rfl)
theorem dX1_trim_2 : decode cX1_trim 2 = .ok (.iload_n 1, 1) := dk_27 (dk_at dksX1_trim_0 2 rfl rfl)
theorem dX1_trim_3 : decode cX1_trim 3 = .ok (.invokevirtual 21, 3) := dk_182 0 21 (dk_at dksX1_trim_0 3 rfl rfl)
theorem dX1_trim_6 : decode cX1_trim 6 = .ok (.putfield 13, 3) := dk_181 0 13 (dk_at dksX1_trim_0 6 rfl rfl)
theorem dX1_trim_9 : decode cX1_trim 9 = .ok (.return_, 1) := dk_177 (dk_at dksX1_trim_0 9 rfl rfl)
abbrev cX1_joinAdler : ByteArray := prog_3_method_12_code
def yX1_joinAdler : MethodName := ⟨RX1, "joinAdler", "(III)J"⟩
def dkwX1_joinAdler_2 : List UInt8 := [96, 21, 5, 21, 6, 100, 184, 0, 46, 21, 5, 21, 6, 100, 133, 184, 0, 54, 173]
abbrev dktX1_joinAdler_2 : List UInt8 := dkwX1_joinAdler_2 ++ []
def dkwX1_joinAdler_1 : List UInt8 := [112, 54, 6, 3, 42, 180, 0, 7, 21, 4, 21, 6, 184, 0, 46, 3, 42, 180, 0, 7, 21, 4, 21, 6]
abbrev dktX1_joinAdler_1 : List UInt8 := dkwX1_joinAdler_1 ++ dktX1_joinAdler_2
def dkwX1_joinAdler_0 : List UInt8 := [42, 27, 182, 0, 21, 54, 4, 42, 21, 4, 28, 182, 0, 42, 54, 5, 29, 18, 25, 126, 21, 5, 4, 96]
abbrev dktX1_joinAdler_0 : List UInt8 := dkwX1_joinAdler_0 ++ dktX1_joinAdler_1
theorem dksX1_joinAdler_0 : cX1_joinAdler.data.toList.drop 0 = dktX1_joinAdler_0 := by decide +kernel
theorem dksX1_joinAdler_1 : cX1_joinAdler.data.toList.drop 24 = dktX1_joinAdler_1 := dk_seg dksX1_joinAdler_0 24 rfl rfl
theorem dksX1_joinAdler_2 : cX1_joinAdler.data.toList.drop 48 = dktX1_joinAdler_2 := dk_seg dksX1_joinAdler_1 24 rfl rfl
theorem dX1_joinAdler_0 : decode cX1_joinAdler 0 = .ok (.aload_n 0, 1) := dk_42 (dk_at dksX1_joinAdler_0 0 rfl rfl)
theorem dX1_joinAdler_1 : decode cX1_joinAdler 1 = .ok (.iload_n 1, 1) := dk_27 (dk_at dksX1_joinAdler_0 1 rfl rfl)
theorem dX1_joinAdler_2 : decode cX1_joinAdler 2 = .ok (.invokevirtual 21, 3) := dk_182 0 21 (dk_at dksX1_joinAdler_0 2 rfl rfl)
theorem dX1_joinAdler_5 : decode cX1_joinAdler 5 = .ok (.istore 4, 2) := dk_54 4 (dk_at dksX1_joinAdler_0 5 rfl rfl)
theorem dX1_joinAdler_7 : decode cX1_joinAdler 7 = .ok (.aload_n 0, 1) := dk_42 (dk_at dksX1_joinAdler_0 7 rfl rfl)
theorem dX1_joinAdler_8 : decode cX1_joinAdler 8 = .ok (.iload 4, 2) := dk_21 4 (dk_at dksX1_joinAdler_0 8 rfl rfl)
theorem dX1_joinAdler_10 : decode cX1_joinAdler 10 = .ok (.iload_n 2, 1) := dk_28 (dk_at dksX1_joinAdler_0 10 rfl rfl)
theorem dX1_joinAdler_11 : decode cX1_joinAdler 11 = .ok (.invokevirtual 42, 3) := dk_182 0 42 (dk_at dksX1_joinAdler_0 11 rfl rfl)
theorem dX1_joinAdler_14 : decode cX1_joinAdler 14 = .ok (.istore 5, 2) := dk_54 5 (dk_at dksX1_joinAdler_0 14 rfl rfl)
theorem dX1_joinAdler_16 : decode cX1_joinAdler 16 = .ok (.iload_n 3, 1) := dk_29 (dk_at dksX1_joinAdler_0 16 rfl rfl)
theorem dX1_joinAdler_17 : decode cX1_joinAdler 17 = .ok (.ldc 25, 2) := dk_18 25 (dk_at dksX1_joinAdler_0 17 rfl rfl)
theorem dX1_joinAdler_19 : decode cX1_joinAdler 19 = .ok (.iand, 1) := dk_126 (dk_at dksX1_joinAdler_0 19 rfl rfl)
theorem dX1_joinAdler_20 : decode cX1_joinAdler 20 = .ok (.iload 5, 2) := dk_21 5 (dk_at dksX1_joinAdler_0 20 rfl rfl)
theorem dX1_joinAdler_22 : decode cX1_joinAdler 22 = .ok (.iconst 1, 1) := dk_4 (dk_at dksX1_joinAdler_0 22 rfl rfl)
theorem dX1_joinAdler_23 : decode cX1_joinAdler 23 = .ok (.iadd, 1) := dk_96 (dk_at dksX1_joinAdler_0 23 rfl rfl)
theorem dX1_joinAdler_24 : decode cX1_joinAdler 24 = .ok (.irem, 1) := dk_112 (dk_at dksX1_joinAdler_1 0 rfl rfl)
theorem dX1_joinAdler_25 : decode cX1_joinAdler 25 = .ok (.istore 6, 2) := dk_54 6 (dk_at dksX1_joinAdler_1 1 rfl rfl)
theorem dX1_joinAdler_27 : decode cX1_joinAdler 27 = .ok (.iconst 0, 1) := dk_3 (dk_at dksX1_joinAdler_1 3 rfl rfl)
theorem dX1_joinAdler_28 : decode cX1_joinAdler 28 = .ok (.aload_n 0, 1) := dk_42 (dk_at dksX1_joinAdler_1 4 rfl rfl)
theorem dX1_joinAdler_29 : decode cX1_joinAdler 29 = .ok (.getfield 7, 3) := dk_180 0 7 (dk_at dksX1_joinAdler_1 5 rfl rfl)
theorem dX1_joinAdler_32 : decode cX1_joinAdler 32 = .ok (.iload 4, 2) := dk_21 4 (dk_at dksX1_joinAdler_1 8 rfl rfl)
theorem dX1_joinAdler_34 : decode cX1_joinAdler 34 = .ok (.iload 6, 2) := dk_21 6 (dk_at dksX1_joinAdler_1 10 rfl rfl)
theorem dX1_joinAdler_36 : decode cX1_joinAdler 36 = .ok (.invokestatic 46, 3) := dk_184 0 46 (dk_at dksX1_joinAdler_1 12 rfl rfl)
theorem dX1_joinAdler_39 : decode cX1_joinAdler 39 = .ok (.iconst 0, 1) := dk_3 (dk_at dksX1_joinAdler_1 15 rfl rfl)
theorem dX1_joinAdler_40 : decode cX1_joinAdler 40 = .ok (.aload_n 0, 1) := dk_42 (dk_at dksX1_joinAdler_1 16 rfl rfl)
theorem dX1_joinAdler_41 : decode cX1_joinAdler 41 = .ok (.getfield 7, 3) := dk_180 0 7 (dk_at dksX1_joinAdler_1 17 rfl rfl)
theorem dX1_joinAdler_44 : decode cX1_joinAdler 44 = .ok (.iload 4, 2) := dk_21 4 (dk_at dksX1_joinAdler_1 20 rfl rfl)
theorem dX1_joinAdler_46 : decode cX1_joinAdler 46 = .ok (.iload 6, 2) := dk_21 6 (dk_at dksX1_joinAdler_1 22 rfl rfl)
theorem dX1_joinAdler_48 : decode cX1_joinAdler 48 = .ok (.iadd, 1) := dk_96 (dk_at dksX1_joinAdler_2 0 rfl rfl)
theorem dX1_joinAdler_49 : decode cX1_joinAdler 49 = .ok (.iload 5, 2) := dk_21 5 (dk_at dksX1_joinAdler_2 1 rfl rfl)
theorem dX1_joinAdler_51 : decode cX1_joinAdler 51 = .ok (.iload 6, 2) := dk_21 6 (dk_at dksX1_joinAdler_2 3 rfl rfl)
theorem dX1_joinAdler_53 : decode cX1_joinAdler 53 = .ok (.isub, 1) := dk_100 (dk_at dksX1_joinAdler_2 5 rfl rfl)
theorem dX1_joinAdler_54 : decode cX1_joinAdler 54 = .ok (.invokestatic 46, 3) := dk_184 0 46 (dk_at dksX1_joinAdler_2 6 rfl rfl)
theorem dX1_joinAdler_57 : decode cX1_joinAdler 57 = .ok (.iload 5, 2) := dk_21 5 (dk_at dksX1_joinAdler_2 9 rfl rfl)
theorem dX1_joinAdler_59 : decode cX1_joinAdler 59 = .ok (.iload 6, 2) := dk_21 6 (dk_at dksX1_joinAdler_2 11 rfl rfl)
theorem dX1_joinAdler_61 : decode cX1_joinAdler 61 = .ok (.isub, 1) := dk_100 (dk_at dksX1_joinAdler_2 13 rfl rfl)
theorem dX1_joinAdler_62 : decode cX1_joinAdler 62 = .ok (.i2l, 1) := dk_133 (dk_at dksX1_joinAdler_2 14 rfl rfl)
theorem dX1_joinAdler_63 : decode cX1_joinAdler 63 = .ok (.invokestatic 54, 3) := dk_184 0 54 (dk_at dksX1_joinAdler_2 15 rfl rfl)
theorem dX1_joinAdler_66 : decode cX1_joinAdler 66 = .ok (.lreturn, 1) := dk_173 (dk_at dksX1_joinAdler_2 18 rfl rfl)
abbrev cX1_size : ByteArray := prog_3_method_5_code
def yX1_size : MethodName := ⟨RX1, "size", "()I"⟩
theorem dX1_size_0 : decode cX1_size 0 = .ok (.aload_n 0, 1) := by decide +kernel
theorem dX1_size_1 : decode cX1_size 1 = .ok (.getfield 13, 3) := by decide +kernel
theorem dX1_size_4 : decode cX1_size 4 = .ok (.ireturn, 1) := by decide +kernel
abbrev cX1_joinCrc : ByteArray := prog_3_method_11_code
def yX1_joinCrc : MethodName := ⟨RX1, "joinCrc", "(III)J"⟩
def dkwX1_joinCrc_2 : List UInt8 := [96, 21, 5, 21, 6, 100, 184, 0, 46, 21, 5, 21, 6, 100, 133, 184, 0, 50, 173]
abbrev dktX1_joinCrc_2 : List UInt8 := dkwX1_joinCrc_2 ++ []
def dkwX1_joinCrc_1 : List UInt8 := [112, 54, 6, 4, 42, 180, 0, 7, 21, 4, 21, 6, 184, 0, 46, 4, 42, 180, 0, 7, 21, 4, 21, 6]
abbrev dktX1_joinCrc_1 : List UInt8 := dkwX1_joinCrc_1 ++ dktX1_joinCrc_2
def dkwX1_joinCrc_0 : List UInt8 := [42, 27, 182, 0, 21, 54, 4, 42, 21, 4, 28, 182, 0, 42, 54, 5, 29, 18, 25, 126, 21, 5, 4, 96]
abbrev dktX1_joinCrc_0 : List UInt8 := dkwX1_joinCrc_0 ++ dktX1_joinCrc_1
theorem dksX1_joinCrc_0 : cX1_joinCrc.data.toList.drop 0 = dktX1_joinCrc_0 := by decide +kernel
theorem dksX1_joinCrc_1 : cX1_joinCrc.data.toList.drop 24 = dktX1_joinCrc_1 := dk_seg dksX1_joinCrc_0 24 rfl rfl
theorem dksX1_joinCrc_2 : cX1_joinCrc.data.toList.drop 48 = dktX1_joinCrc_2 := dk_seg dksX1_joinCrc_1 24 rfl rfl
theorem dX1_joinCrc_0 : decode cX1_joinCrc 0 = .ok (.aload_n 0, 1) := dk_42 (dk_at dksX1_joinCrc_0 0 rfl rfl)
theorem dX1_joinCrc_1 : decode cX1_joinCrc 1 = .ok (.iload_n 1, 1) := dk_27 (dk_at dksX1_joinCrc_0 1 rfl rfl)
theorem dX1_joinCrc_2 : decode cX1_joinCrc 2 = .ok (.invokevirtual 21, 3) := dk_182 0 21 (dk_at dksX1_joinCrc_0 2 rfl rfl)
theorem dX1_joinCrc_5 : decode cX1_joinCrc 5 = .ok (.istore 4, 2) := dk_54 4 (dk_at dksX1_joinCrc_0 5 rfl rfl)
theorem dX1_joinCrc_7 : decode cX1_joinCrc 7 = .ok (.aload_n 0, 1) := dk_42 (dk_at dksX1_joinCrc_0 7 rfl rfl)
theorem dX1_joinCrc_8 : decode cX1_joinCrc 8 = .ok (.iload 4, 2) := dk_21 4 (dk_at dksX1_joinCrc_0 8 rfl rfl)
theorem dX1_joinCrc_10 : decode cX1_joinCrc 10 = .ok (.iload_n 2, 1) := dk_28 (dk_at dksX1_joinCrc_0 10 rfl rfl)
theorem dX1_joinCrc_11 : decode cX1_joinCrc 11 = .ok (.invokevirtual 42, 3) := dk_182 0 42 (dk_at dksX1_joinCrc_0 11 rfl rfl)
theorem dX1_joinCrc_14 : decode cX1_joinCrc 14 = .ok (.istore 5, 2) := dk_54 5 (dk_at dksX1_joinCrc_0 14 rfl rfl)
theorem dX1_joinCrc_16 : decode cX1_joinCrc 16 = .ok (.iload_n 3, 1) := dk_29 (dk_at dksX1_joinCrc_0 16 rfl rfl)
theorem dX1_joinCrc_17 : decode cX1_joinCrc 17 = .ok (.ldc 25, 2) := dk_18 25 (dk_at dksX1_joinCrc_0 17 rfl rfl)
theorem dX1_joinCrc_19 : decode cX1_joinCrc 19 = .ok (.iand, 1) := dk_126 (dk_at dksX1_joinCrc_0 19 rfl rfl)
theorem dX1_joinCrc_20 : decode cX1_joinCrc 20 = .ok (.iload 5, 2) := dk_21 5 (dk_at dksX1_joinCrc_0 20 rfl rfl)
theorem dX1_joinCrc_22 : decode cX1_joinCrc 22 = .ok (.iconst 1, 1) := dk_4 (dk_at dksX1_joinCrc_0 22 rfl rfl)
theorem dX1_joinCrc_23 : decode cX1_joinCrc 23 = .ok (.iadd, 1) := dk_96 (dk_at dksX1_joinCrc_0 23 rfl rfl)
theorem dX1_joinCrc_24 : decode cX1_joinCrc 24 = .ok (.irem, 1) := dk_112 (dk_at dksX1_joinCrc_1 0 rfl rfl)
theorem dX1_joinCrc_25 : decode cX1_joinCrc 25 = .ok (.istore 6, 2) := dk_54 6 (dk_at dksX1_joinCrc_1 1 rfl rfl)
theorem dX1_joinCrc_27 : decode cX1_joinCrc 27 = .ok (.iconst 1, 1) := dk_4 (dk_at dksX1_joinCrc_1 3 rfl rfl)
theorem dX1_joinCrc_28 : decode cX1_joinCrc 28 = .ok (.aload_n 0, 1) := dk_42 (dk_at dksX1_joinCrc_1 4 rfl rfl)
theorem dX1_joinCrc_29 : decode cX1_joinCrc 29 = .ok (.getfield 7, 3) := dk_180 0 7 (dk_at dksX1_joinCrc_1 5 rfl rfl)
theorem dX1_joinCrc_32 : decode cX1_joinCrc 32 = .ok (.iload 4, 2) := dk_21 4 (dk_at dksX1_joinCrc_1 8 rfl rfl)
theorem dX1_joinCrc_34 : decode cX1_joinCrc 34 = .ok (.iload 6, 2) := dk_21 6 (dk_at dksX1_joinCrc_1 10 rfl rfl)
theorem dX1_joinCrc_36 : decode cX1_joinCrc 36 = .ok (.invokestatic 46, 3) := dk_184 0 46 (dk_at dksX1_joinCrc_1 12 rfl rfl)
theorem dX1_joinCrc_39 : decode cX1_joinCrc 39 = .ok (.iconst 1, 1) := dk_4 (dk_at dksX1_joinCrc_1 15 rfl rfl)
theorem dX1_joinCrc_40 : decode cX1_joinCrc 40 = .ok (.aload_n 0, 1) := dk_42 (dk_at dksX1_joinCrc_1 16 rfl rfl)
theorem dX1_joinCrc_41 : decode cX1_joinCrc 41 = .ok (.getfield 7, 3) := dk_180 0 7 (dk_at dksX1_joinCrc_1 17 rfl rfl)
theorem dX1_joinCrc_44 : decode cX1_joinCrc 44 = .ok (.iload 4, 2) := dk_21 4 (dk_at dksX1_joinCrc_1 20 rfl rfl)
theorem dX1_joinCrc_46 : decode cX1_joinCrc 46 = .ok (.iload 6, 2) := dk_21 6 (dk_at dksX1_joinCrc_1 22 rfl rfl)
theorem dX1_joinCrc_48 : decode cX1_joinCrc 48 = .ok (.iadd, 1) := dk_96 (dk_at dksX1_joinCrc_2 0 rfl rfl)
theorem dX1_joinCrc_49 : decode cX1_joinCrc 49 = .ok (.iload 5, 2) := dk_21 5 (dk_at dksX1_joinCrc_2 1 rfl rfl)
theorem dX1_joinCrc_51 : decode cX1_joinCrc 51 = .ok (.iload 6, 2) := dk_21 6 (dk_at dksX1_joinCrc_2 3 rfl rfl)
theorem dX1_joinCrc_53 : decode cX1_joinCrc 53 = .ok (.isub, 1) := dk_100 (dk_at dksX1_joinCrc_2 5 rfl rfl)
theorem dX1_joinCrc_54 : decode cX1_joinCrc 54 = .ok (.invokestatic 46, 3) := dk_184 0 46 (dk_at dksX1_joinCrc_2 6 rfl rfl)
theorem dX1_joinCrc_57 : decode cX1_joinCrc 57 = .ok (.iload 5, 2) := dk_21 5 (dk_at dksX1_joinCrc_2 9 rfl rfl)
theorem dX1_joinCrc_59 : decode cX1_joinCrc 59 = .ok (.iload 6, 2) := dk_21 6 (dk_at dksX1_joinCrc_2 11 rfl rfl)
theorem dX1_joinCrc_61 : decode cX1_joinCrc 61 = .ok (.isub, 1) := dk_100 (dk_at dksX1_joinCrc_2 13 rfl rfl)
theorem dX1_joinCrc_62 : decode cX1_joinCrc 62 = .ok (.i2l, 1) := dk_133 (dk_at dksX1_joinCrc_2 14 rfl rfl)
theorem dX1_joinCrc_63 : decode cX1_joinCrc 63 = .ok (.invokestatic 50, 3) := dk_184 0 50 (dk_at dksX1_joinCrc_2 15 rfl rfl)
theorem dX1_joinCrc_66 : decode cX1_joinCrc 66 = .ok (.lreturn, 1) := dk_173 (dk_at dksX1_joinCrc_2 18 rfl rfl)
theorem q4 : (Jvm.Cond.initialized "SumJoin") ∈ lw_all := lw_g (lw_at lw_m0 1 rfl) rfl
theorem q14 : (Jvm.Cond.instantiable "SumJoin" (2 : Nat)) ∈ lw_all := lw_g (lw_at lw_m0 11 rfl) rfl
theorem q16 : (Jvm.Cond.instanceMethod ({ cls := "SumJoin", name := "<init>", desc := "()V" } : Jvm.MethodName)) ∈ lw_all := lw_g (lw_at lw_m0 13 rfl) rfl
theorem q17 : (Jvm.Cond.code ({ cls := "SumJoin", name := "<init>", desc := "()V" } : Jvm.MethodName) prog_3_method_1_code (1 : Nat) (Option.none : Option Jvm.ClassFile.FieldType)) ∈ lw_all := lw_g (lw_at lw_m0 14 rfl) rfl
theorem q18 : (Jvm.Cond.methodLink "SumJoin" (1 : Nat) ({ cls := "java/lang/Object", name := "<init>", desc := "()V" } : Jvm.MethodName)) ∈ lw_all := lw_g (lw_at lw_m0 15 rfl) rfl
theorem q21 : (Jvm.Cond.fieldLink "SumJoin" (7 : Nat) "SumJoin" "text" "[B") ∈ lw_all := lw_g (lw_at lw_m0 18 rfl) rfl
theorem q22 : (Jvm.Cond.fieldLink "SumJoin" (13 : Nat) "SumJoin" "size" "I") ∈ lw_all := lw_g (lw_at lw_m0 19 rfl) rfl
theorem q23 : (Jvm.Cond.laysFinal "SumJoin" "SumJoin" "text" "[B") ∈ lw_all := lw_g (lw_at lw_m0 20 rfl) rfl
theorem q24 : (Jvm.Cond.soleField "SumJoin" "text") ∈ lw_all := lw_g (lw_at lw_m0 21 rfl) rfl
theorem q25 : (Jvm.Cond.lays "SumJoin" "SumJoin" "size" "I") ∈ lw_all := lw_g (lw_at lw_m0 22 rfl) rfl
theorem q26 : (Jvm.Cond.soleField "SumJoin" "size") ∈ lw_all := lw_g (lw_at lw_m0 23 rfl) rfl
theorem q27 : (Jvm.Cond.superclass "SumJoin" "java/lang/Object") ∈ lw_all := lw_g (lw_at lw_m0 24 rfl) rfl
theorem q30 : (Jvm.Cond.instanceMethod ({ cls := "SumJoin", name := "crc", desc := "(II)J" } : Jvm.MethodName)) ∈ lw_all := lw_g (lw_at lw_m0 27 rfl) rfl
theorem q31 : (Jvm.Cond.selects "SumJoin" ({ cls := "SumJoin", name := "crc", desc := "(II)J" } : Jvm.MethodName) ({ cls := "SumJoin", name := "crc", desc := "(II)J" } : Jvm.MethodName)) ∈ lw_all := lw_g (lw_at lw_m0 28 rfl) rfl
theorem q32 : (Jvm.Cond.code ({ cls := "SumJoin", name := "crc", desc := "(II)J" } : Jvm.MethodName) prog_3_method_9_code (4 : Nat) (Option.some Jvm.ClassFile.FieldType.long)) ∈ lw_all := lw_g (lw_at lw_m0 29 rfl) rfl
theorem q33 : (Jvm.Cond.methodLink "SumJoin" (21 : Nat) ({ cls := "SumJoin", name := "from", desc := "(I)I" } : Jvm.MethodName)) ∈ lw_all := lw_g (lw_at lw_m0 30 rfl) rfl
theorem q34 : (Jvm.Cond.privateMethod ({ cls := "SumJoin", name := "from", desc := "(I)I" } : Jvm.MethodName)) ∈ lw_tbl := lw_at lw_m0 31 rfl
theorem q35 : (Jvm.Cond.instanceMethod ({ cls := "SumJoin", name := "from", desc := "(I)I" } : Jvm.MethodName)) ∈ lw_all := lw_g (lw_at lw_m0 32 rfl) rfl
theorem q36 : (Jvm.Cond.code ({ cls := "SumJoin", name := "from", desc := "(I)I" } : Jvm.MethodName) prog_3_method_6_code (2 : Nat) (Option.some Jvm.ClassFile.FieldType.int)) ∈ lw_all := lw_g (lw_at lw_m0 33 rfl) rfl
theorem q37 : (Jvm.Cond.constant "SumJoin" (25 : Nat) (2147483647 : Int32)) ∈ lw_all := lw_g (lw_at lw_m0 34 rfl) rfl
theorem q38 : (Jvm.Cond.methodLink "SumJoin" (42 : Nat) ({ cls := "SumJoin", name := "count", desc := "(II)I" } : Jvm.MethodName)) ∈ lw_all := lw_g (lw_at lw_m0 35 rfl) rfl
theorem q39 : (Jvm.Cond.privateMethod ({ cls := "SumJoin", name := "count", desc := "(II)I" } : Jvm.MethodName)) ∈ lw_tbl := lw_at lw_m0 36 rfl
theorem q40 : (Jvm.Cond.instanceMethod ({ cls := "SumJoin", name := "count", desc := "(II)I" } : Jvm.MethodName)) ∈ lw_all := lw_g (lw_at lw_m0 37 rfl) rfl
theorem q41 : (Jvm.Cond.code ({ cls := "SumJoin", name := "count", desc := "(II)I" } : Jvm.MethodName) prog_3_method_7_code (3 : Nat) (Option.some Jvm.ClassFile.FieldType.int)) ∈ lw_all := lw_g (lw_at lw_m0 38 rfl) rfl
theorem q42 : (Jvm.Cond.methodLink "SumJoin" (46 : Nat) ({ cls := "SumJoin", name := "sum", desc := "(Z[BII)J" } : Jvm.MethodName)) ∈ lw_all := lw_g (lw_at lw_m0 39 rfl) rfl
theorem q43 : (Jvm.Cond.static ({ cls := "SumJoin", name := "sum", desc := "(Z[BII)J" } : Jvm.MethodName)) ∈ lw_all := lw_g (lw_at lw_m0 40 rfl) rfl
theorem q44 : (Jvm.Cond.code ({ cls := "SumJoin", name := "sum", desc := "(Z[BII)J" } : Jvm.MethodName) prog_3_method_8_code (5 : Nat) (Option.some Jvm.ClassFile.FieldType.long)) ∈ lw_all := lw_g (lw_at lw_m0 41 rfl) rfl
theorem q45 : (Jvm.Cond.classLink "SumJoin" (26 : Nat) "CRC32") ∈ lw_all := lw_g (lw_at lw_m0 42 rfl) rfl
theorem q47 : (Jvm.Cond.methodLink "SumJoin" (28 : Nat) ({ cls := "CRC32", name := "<init>", desc := "()V" } : Jvm.MethodName)) ∈ lw_all := lw_g (lw_at lw_m0 44 rfl) rfl
theorem q55 : (Jvm.Cond.methodLink "SumJoin" (29 : Nat) ({ cls := "CRC32", name := "update", desc := "([BII)V" } : Jvm.MethodName)) ∈ lw_all := lw_g (lw_at lw_m0 52 rfl) rfl
theorem q61 : (Jvm.Cond.methodLink "SumJoin" (33 : Nat) ({ cls := "CRC32", name := "getValue", desc := "()J" } : Jvm.MethodName)) ∈ lw_all := lw_g (lw_at lw_m0 58 rfl) rfl
theorem q66 : (Jvm.Cond.classLink "SumJoin" (37 : Nat) "Adler32") ∈ lw_all := lw_g (lw_at lw_m0 63 rfl) rfl
theorem q68 : (Jvm.Cond.methodLink "SumJoin" (39 : Nat) ({ cls := "Adler32", name := "<init>", desc := "()V" } : Jvm.MethodName)) ∈ lw_all := lw_g (lw_at lw_m0 65 rfl) rfl
theorem q79 : (Jvm.Cond.methodLink "SumJoin" (40 : Nat) ({ cls := "Adler32", name := "update", desc := "([BII)V" } : Jvm.MethodName)) ∈ lw_all := lw_g (lw_at lw_m0 76 rfl) rfl
theorem q84 : (Jvm.Cond.methodLink "SumJoin" (41 : Nat) ({ cls := "Adler32", name := "getValue", desc := "()J" } : Jvm.MethodName)) ∈ lw_all := lw_g (lw_at lw_m0 81 rfl) rfl
theorem q89 : (Jvm.Cond.instanceMethod ({ cls := "SumJoin", name := "adler", desc := "(II)J" } : Jvm.MethodName)) ∈ lw_all := lw_g (lw_at lw_m0 86 rfl) rfl
theorem q90 : (Jvm.Cond.selects "SumJoin" ({ cls := "SumJoin", name := "adler", desc := "(II)J" } : Jvm.MethodName) ({ cls := "SumJoin", name := "adler", desc := "(II)J" } : Jvm.MethodName)) ∈ lw_all := lw_g (lw_at lw_m0 87 rfl) rfl
theorem q91 : (Jvm.Cond.code ({ cls := "SumJoin", name := "adler", desc := "(II)J" } : Jvm.MethodName) prog_3_method_10_code (4 : Nat) (Option.some Jvm.ClassFile.FieldType.long)) ∈ lw_all := lw_g (lw_at lw_m0 88 rfl) rfl
theorem q96 : (Jvm.Cond.instanceMethod ({ cls := "SumJoin", name := "put", desc := "(IIII)Z" } : Jvm.MethodName)) ∈ lw_all := lw_g (lw_at lw_m0 93 rfl) rfl
theorem q97 : (Jvm.Cond.selects "SumJoin" ({ cls := "SumJoin", name := "put", desc := "(IIII)Z" } : Jvm.MethodName) ({ cls := "SumJoin", name := "put", desc := "(IIII)Z" } : Jvm.MethodName)) ∈ lw_all := lw_g (lw_at lw_m0 94 rfl) rfl
theorem q98 : (Jvm.Cond.code ({ cls := "SumJoin", name := "put", desc := "(IIII)Z" } : Jvm.MethodName) prog_3_method_2_code (5 : Nat) (Option.some Jvm.ClassFile.FieldType.boolean)) ∈ lw_all := lw_g (lw_at lw_m0 95 rfl) rfl
theorem q99 : (Jvm.Cond.methodLink "SumJoin" (17 : Nat) ({ cls := "SumJoin", name := "word", desc := "(II)V" } : Jvm.MethodName)) ∈ lw_all := lw_g (lw_at lw_m0 96 rfl) rfl
theorem q100 : (Jvm.Cond.privateMethod ({ cls := "SumJoin", name := "word", desc := "(II)V" } : Jvm.MethodName)) ∈ lw_tbl := lw_at lw_m0 97 rfl
theorem q101 : (Jvm.Cond.instanceMethod ({ cls := "SumJoin", name := "word", desc := "(II)V" } : Jvm.MethodName)) ∈ lw_all := lw_g (lw_at lw_m0 98 rfl) rfl
theorem q102 : (Jvm.Cond.code ({ cls := "SumJoin", name := "word", desc := "(II)V" } : Jvm.MethodName) prog_3_method_3_code (3 : Nat) (Option.none : Option Jvm.ClassFile.FieldType)) ∈ lw_all := lw_g (lw_at lw_m0 99 rfl) rfl
theorem q104 : (Jvm.Cond.instanceMethod ({ cls := "SumJoin", name := "trim", desc := "(I)V" } : Jvm.MethodName)) ∈ lw_all := lw_g (lw_at lw_m0 101 rfl) rfl
theorem q105 : (Jvm.Cond.selects "SumJoin" ({ cls := "SumJoin", name := "trim", desc := "(I)V" } : Jvm.MethodName) ({ cls := "SumJoin", name := "trim", desc := "(I)V" } : Jvm.MethodName)) ∈ lw_all := lw_g (lw_at lw_m0 102 rfl) rfl
theorem q106 : (Jvm.Cond.code ({ cls := "SumJoin", name := "trim", desc := "(I)V" } : Jvm.MethodName) prog_3_method_4_code (2 : Nat) (Option.none : Option Jvm.ClassFile.FieldType)) ∈ lw_all := lw_g (lw_at lw_m0 103 rfl) rfl
theorem q114 : (Jvm.Cond.instanceMethod ({ cls := "SumJoin", name := "joinAdler", desc := "(III)J" } : Jvm.MethodName)) ∈ lw_all := lw_g (lw_at lw_m0 111 rfl) rfl
theorem q115 : (Jvm.Cond.selects "SumJoin" ({ cls := "SumJoin", name := "joinAdler", desc := "(III)J" } : Jvm.MethodName) ({ cls := "SumJoin", name := "joinAdler", desc := "(III)J" } : Jvm.MethodName)) ∈ lw_all := lw_g (lw_at lw_m0 112 rfl) rfl
theorem q116 : (Jvm.Cond.code ({ cls := "SumJoin", name := "joinAdler", desc := "(III)J" } : Jvm.MethodName) prog_3_method_12_code (7 : Nat) (Option.some Jvm.ClassFile.FieldType.long)) ∈ lw_all := lw_g (lw_at lw_m0 113 rfl) rfl
theorem q117 : (Jvm.Cond.methodLink "SumJoin" (54 : Nat) ({ cls := "Adler32", name := "combine", desc := "(JJJ)J" } : Jvm.MethodName)) ∈ lw_all := lw_g (lw_at lw_m0 114 rfl) rfl
theorem q125 : (Jvm.Cond.instanceMethod ({ cls := "SumJoin", name := "size", desc := "()I" } : Jvm.MethodName)) ∈ lw_all := lw_g (lw_at lw_m0 122 rfl) rfl
theorem q126 : (Jvm.Cond.selects "SumJoin" ({ cls := "SumJoin", name := "size", desc := "()I" } : Jvm.MethodName) ({ cls := "SumJoin", name := "size", desc := "()I" } : Jvm.MethodName)) ∈ lw_all := lw_g (lw_at lw_m0 123 rfl) rfl
theorem q127 : (Jvm.Cond.code ({ cls := "SumJoin", name := "size", desc := "()I" } : Jvm.MethodName) prog_3_method_5_code (1 : Nat) (Option.some Jvm.ClassFile.FieldType.int)) ∈ lw_all := lw_g (lw_at lw_m0 124 rfl) rfl
theorem q136 : (Jvm.Cond.instanceMethod ({ cls := "SumJoin", name := "joinCrc", desc := "(III)J" } : Jvm.MethodName)) ∈ lw_all := lw_g (lw_at lw_m0 133 rfl) rfl
theorem q137 : (Jvm.Cond.selects "SumJoin" ({ cls := "SumJoin", name := "joinCrc", desc := "(III)J" } : Jvm.MethodName) ({ cls := "SumJoin", name := "joinCrc", desc := "(III)J" } : Jvm.MethodName)) ∈ lw_all := lw_g (lw_at lw_m0 134 rfl) rfl
theorem q138 : (Jvm.Cond.code ({ cls := "SumJoin", name := "joinCrc", desc := "(III)J" } : Jvm.MethodName) prog_3_method_11_code (7 : Nat) (Option.some Jvm.ClassFile.FieldType.long)) ∈ lw_all := lw_g (lw_at lw_m0 135 rfl) rfl
theorem q139 : (Jvm.Cond.methodLink "SumJoin" (50 : Nat) ({ cls := "CRC32", name := "combine", desc := "(JJJ)J" } : Jvm.MethodName)) ∈ lw_all := lw_g (lw_at lw_m0 136 rfl) rfl
theorem in_X1 : ∀ w ∈ wsX10, w ∈ lw_all := lw_in wsX10 [23, 25] (by decide +kernel) (by decide +kernel)
/-! CRC32 -/
set_option maxRecDepth 100000
def RX2 : String := "CRC32"
def TX2 : u_T := fun k => match k with
  | _ => ("CRC32", "v", "I", false)
def tyX2 : Nat → FieldType := fun k => match k with
  | _ => .int
abbrev wsX20 : List Cond := u_ws RX2 TX2 1
theorem nmX2 : ∀ a, a < 1 → ∀ b, b < 1 → a ≠ b → (TX2 a).2.1 ≠ (TX2 b).2.1 := by decide +kernel
theorem tyX2_ok : ∀ k, k < 1 → parseFieldDescriptor (TX2 k).2.2.1 = some (tyX2 k) := by decide +kernel
abbrev cX2_init : ByteArray := prog_2_method_1_code
def yX2_init : MethodName := ⟨RX2, "<init>", "()V"⟩
def dkwX2_init_0 : List UInt8 := [42, 183, 0, 1, 42, 3, 181, 0, 7, 177]
abbrev dktX2_init_0 : List UInt8 := dkwX2_init_0 ++ []
theorem dksX2_init_0 : cX2_init.data.toList.drop 0 = dktX2_init_0 := by decide +kernel
theorem dX2_init_0 : decode cX2_init 0 = .ok (.aload_n 0, 1) := dk_42 (dk_at dksX2_init_0 0 rfl rfl)
theorem dX2_init_1 : decode cX2_init 1 = .ok (.invokespecial 1, 3) := dk_183 0 1 (dk_at dksX2_init_0 1 rfl rfl)
theorem dX2_init_4 : decode cX2_init 4 = .ok (.aload_n 0, 1) := dk_42 (dk_at dksX2_init_0 4 rfl rfl)
theorem dX2_init_5 : decode cX2_init 5 = .ok (.iconst 0, 1) := dk_3 (dk_at dksX2_init_0 5 rfl rfl)
theorem dX2_init_6 : decode cX2_init 6 = .ok (.putfield 7, 3) := dk_181 0 7 (dk_at dksX2_init_0 6 rfl rfl)
theorem dX2_init_9 : decode cX2_init 9 = .ok (.return_, 1) := dk_177 (dk_at dksX2_init_0 9 rfl rfl)
abbrev cX2_update : ByteArray := prog_2_method_2_code
def yX2_update : MethodName := ⟨RX2, "update", "([BII)V"⟩
def dkwX2_update_2 : List UInt8 := [2, 130, 181, 0, 7, 177]
abbrev dktX2_update_2 : List UInt8 := dkwX2_update_2 ++ []
def dkwX2_update_1 : List UInt8 := [132, 2, 1, 51, 130, 17, 0, 255, 126, 46, 21, 4, 16, 8, 124, 130, 54, 4, 167, 255, 224, 42, 21, 4]
abbrev dktX2_update_1 : List UInt8 := dkwX2_update_1 ++ dktX2_update_2
def dkwX2_update_0 : List UInt8 := [42, 180, 0, 7, 2, 130, 54, 4, 132, 3, 255, 29, 155, 0, 31, 178, 0, 13, 21, 4, 43, 28]
abbrev dktX2_update_0 : List UInt8 := dkwX2_update_0 ++ dktX2_update_1
theorem dksX2_update_0 : cX2_update.data.toList.drop 0 = dktX2_update_0 := by decide +kernel
theorem dksX2_update_1 : cX2_update.data.toList.drop 22 = dktX2_update_1 := dk_seg dksX2_update_0 22 rfl rfl
theorem dksX2_update_2 : cX2_update.data.toList.drop 46 = dktX2_update_2 := dk_seg dksX2_update_1 24 rfl rfl
theorem dX2_update_0 : decode cX2_update 0 = .ok (.aload_n 0, 1) := dk_42 (dk_at dksX2_update_0 0 rfl rfl)
theorem dX2_update_1 : decode cX2_update 1 = .ok (.getfield 7, 3) := dk_180 0 7 (dk_at dksX2_update_0 1 rfl rfl)
theorem dX2_update_4 : decode cX2_update 4 = .ok (.iconst (-1), 1) := dk_2 (dk_at dksX2_update_0 4 rfl rfl)
theorem dX2_update_5 : decode cX2_update 5 = .ok (.ixor, 1) := dk_130 (dk_at dksX2_update_0 5 rfl rfl)
theorem dX2_update_6 : decode cX2_update 6 = .ok (.istore 4, 2) := dk_54 4 (dk_at dksX2_update_0 6 rfl rfl)
theorem dX2_update_8 : decode cX2_update 8 = .ok (.iinc 3 (-1), 3) := dk_132 3 255 (dk_at dksX2_update_0 8 rfl rfl)
theorem dX2_update_11 : decode cX2_update 11 = .ok (.iload_n 3, 1) := dk_29 (dk_at dksX2_update_0 11 rfl rfl)
theorem dX2_update_12 : decode cX2_update 12 = .ok (.ifCond .lt 31, 3) := dk_155 0 31 (dk_at dksX2_update_0 12 rfl rfl)
theorem dX2_update_15 : decode cX2_update 15 = .ok (.getstatic 13, 3) := dk_178 0 13 (dk_at dksX2_update_0 15 rfl rfl)
theorem dX2_update_18 : decode cX2_update 18 = .ok (.iload 4, 2) := dk_21 4 (dk_at dksX2_update_0 18 rfl rfl)
theorem dX2_update_20 : decode cX2_update 20 = .ok (.aload_n 1, 1) := dk_43 (dk_at dksX2_update_0 20 rfl rfl)
theorem dX2_update_21 : decode cX2_update 21 = .ok (.iload_n 2, 1) := dk_28 (dk_at dksX2_update_0 21 rfl rfl)
theorem dX2_update_22 : decode cX2_update 22 = .ok (.iinc 2 1, 3) := dk_132 2 1 (dk_at dksX2_update_1 0 rfl rfl)
theorem dX2_update_25 : decode cX2_update 25 = .ok (.baload, 1) := dk_51 (dk_at dksX2_update_1 3 rfl rfl)
theorem dX2_update_26 : decode cX2_update 26 = .ok (.ixor, 1) := dk_130 (dk_at dksX2_update_1 4 rfl rfl)
theorem dX2_update_27 : decode cX2_update 27 = .ok (.sipush 255, 3) := dk_17 0 255 (dk_at dksX2_update_1 5 rfl rfl)
theorem dX2_update_30 : decode cX2_update 30 = .ok (.iand, 1) := dk_126 (dk_at dksX2_update_1 8 rfl rfl)
theorem dX2_update_31 : decode cX2_update 31 = .ok (.iaload, 1) := dk_46 (dk_at dksX2_update_1 9 rfl rfl)
theorem dX2_update_32 : decode cX2_update 32 = .ok (.iload 4, 2) := dk_21 4 (dk_at dksX2_update_1 10 rfl rfl)
theorem dX2_update_34 : decode cX2_update 34 = .ok (.bipush 8, 2) := dk_16 8 (dk_at dksX2_update_1 12 rfl rfl)
theorem dX2_update_36 : decode cX2_update 36 = .ok (.iushr, 1) := dk_124 (dk_at dksX2_update_1 14 rfl rfl)
theorem dX2_update_37 : decode cX2_update 37 = .ok (.ixor, 1) := dk_130 (dk_at dksX2_update_1 15 rfl rfl)
theorem dX2_update_38 : decode cX2_update 38 = .ok (.istore 4, 2) := dk_54 4 (dk_at dksX2_update_1 16 rfl rfl)
theorem dX2_update_40 : decode cX2_update 40 = .ok (.goto (-32), 3) := dk_167 255 224 (dk_at dksX2_update_1 18 rfl rfl)
theorem dX2_update_43 : decode cX2_update 43 = .ok (.aload_n 0, 1) := dk_42 (dk_at dksX2_update_1 21 rfl rfl)
theorem dX2_update_44 : decode cX2_update 44 = .ok (.iload 4, 2) := dk_21 4 (dk_at dksX2_update_1 22 rfl rfl)
theorem dX2_update_46 : decode cX2_update 46 = .ok (.iconst (-1), 1) := dk_2 (dk_at dksX2_update_2 0 rfl rfl)
theorem dX2_update_47 : decode cX2_update 47 = .ok (.ixor, 1) := dk_130 (dk_at dksX2_update_2 1 rfl rfl)
theorem dX2_update_48 : decode cX2_update 48 = .ok (.putfield 7, 3) := dk_181 0 7 (dk_at dksX2_update_2 2 rfl rfl)
theorem dX2_update_51 : decode cX2_update 51 = .ok (.return_, 1) := dk_177 (dk_at dksX2_update_2 5 rfl rfl)
abbrev cX2_getValue : ByteArray := prog_2_method_3_code
def yX2_getValue : MethodName := ⟨RX2, "getValue", "()J"⟩
def dkwX2_getValue_0 : List UInt8 := [42, 180, 0, 7, 133, 20, 0, 17, 127, 173]
abbrev dktX2_getValue_0 : List UInt8 := dkwX2_getValue_0 ++ []
theorem dksX2_getValue_0 : cX2_getValue.data.toList.drop 0 = dktX2_getValue_0 := by decide +kernel
theorem dX2_getValue_0 : decode cX2_getValue 0 = .ok (.aload_n 0, 1) := dk_42 (dk_at dksX2_getValue_0 0 rfl rfl)
theorem dX2_getValue_1 : decode cX2_getValue 1 = .ok (.getfield 7, 3) := dk_180 0 7 (dk_at dksX2_getValue_0 1 rfl rfl)
theorem dX2_getValue_4 : decode cX2_getValue 4 = .ok (.i2l, 1) := dk_133 (dk_at dksX2_getValue_0 4 rfl rfl)
theorem dX2_getValue_5 : decode cX2_getValue 5 = .ok (.ldc2_w 17, 3) := dk_20 0 17 (dk_at dksX2_getValue_0 5 rfl rfl)
theorem dX2_getValue_8 : decode cX2_getValue 8 = .ok (.land, 1) := dk_127 (dk_at dksX2_getValue_0 8 rfl rfl)
theorem dX2_getValue_9 : decode cX2_getValue 9 = .ok (.lreturn, 1) := dk_173 (dk_at dksX2_getValue_0 9 rfl rfl)
abbrev cX2_combine : ByteArray := prog_2_method_4_code
def yX2_combine : MethodName := ⟨RX2, "combine", "(JJJ)J"⟩
def dkwX2_combine_6 : List UInt8 := [55, 4, 22, 4, 9, 148, 154, 255, 184, 30, 32, 131, 63, 30, 173]
abbrev dktX2_combine_6 : List UInt8 := dkwX2_combine_6 ++ []
def dkwX2_combine_5 : List UInt8 := [184, 0, 21, 22, 4, 10, 127, 9, 148, 153, 0, 10, 25, 9, 30, 184, 0, 25, 63, 22, 4, 4, 123]
abbrev dktX2_combine_5 : List UInt8 := dkwX2_combine_5 ++ dktX2_combine_6
def dkwX2_combine_4 : List UInt8 := [184, 0, 25, 63, 22, 4, 4, 123, 55, 4, 22, 4, 9, 148, 154, 0, 6, 167, 0, 39, 25, 9, 25, 8]
abbrev dktX2_combine_4 : List UInt8 := dkwX2_combine_4 ++ dktX2_combine_5
def dkwX2_combine_3 : List UInt8 := [184, 0, 21, 25, 8, 25, 9, 184, 0, 21, 22, 4, 10, 127, 9, 148, 153, 0, 10, 25, 8, 30]
abbrev dktX2_combine_3 : List UInt8 := dkwX2_combine_3 ++ dktX2_combine_4
def dkwX2_combine_2 : List UInt8 := [22, 6, 4, 121, 55, 6, 132, 10, 1, 167, 255, 233, 25, 8, 25, 9, 184, 0, 21, 25, 9, 25, 8]
abbrev dktX2_combine_2 : List UInt8 := dkwX2_combine_2 ++ dktX2_combine_3
def dkwX2_combine_1 : List UInt8 := [20, 0, 19, 80, 10, 55, 6, 4, 54, 10, 21, 10, 16, 32, 162, 0, 22, 25, 9, 21, 10, 22, 6, 80]
abbrev dktX2_combine_1 : List UInt8 := dkwX2_combine_1 ++ dktX2_combine_2
def dkwX2_combine_0 : List UInt8 := [16, 32, 188, 11, 58, 8, 16, 32, 188, 11, 58, 9, 22, 4, 9, 148, 157, 0, 5, 30, 173, 25, 9, 3]
abbrev dktX2_combine_0 : List UInt8 := dkwX2_combine_0 ++ dktX2_combine_1
theorem dksX2_combine_0 : cX2_combine.data.toList.drop 0 = dktX2_combine_0 := by decide +kernel
theorem dksX2_combine_1 : cX2_combine.data.toList.drop 24 = dktX2_combine_1 := dk_seg dksX2_combine_0 24 rfl rfl
theorem dksX2_combine_2 : cX2_combine.data.toList.drop 48 = dktX2_combine_2 := dk_seg dksX2_combine_1 24 rfl rfl
theorem dksX2_combine_3 : cX2_combine.data.toList.drop 71 = dktX2_combine_3 := dk_seg dksX2_combine_2 23 rfl rfl
theorem dksX2_combine_4 : cX2_combine.data.toList.drop 93 = dktX2_combine_4 := dk_seg dksX2_combine_3 22 rfl rfl
theorem dksX2_combine_5 : cX2_combine.data.toList.drop 117 = dktX2_combine_5 := dk_seg dksX2_combine_4 24 rfl rfl
theorem dksX2_combine_6 : cX2_combine.data.toList.drop 140 = dktX2_combine_6 := dk_seg dksX2_combine_5 23 rfl rfl
theorem dX2_combine_0 : decode cX2_combine 0 = .ok (.bipush 32, 2) := dk_16 32 (dk_at dksX2_combine_0 0 rfl rfl)
theorem dX2_combine_2 : decode cX2_combine 2 = .ok (.newarray .long, 2) := dk_188_11 (dk_at dksX2_combine_0 2 rfl rfl)
theorem dX2_combine_4 : decode cX2_combine 4 = .ok (.astore 8, 2) := dk_58 8 (dk_at dksX2_combine_0 4 rfl rfl)
theorem dX2_combine_6 : decode cX2_combine 6 = .ok (.bipush 32, 2) := dk_16 32 (dk_at dksX2_combine_0 6 rfl rfl)
theorem dX2_combine_8 : decode cX2_combine 8 = .ok (.newarray .long, 2) := dk_188_11 (dk_at dksX2_combine_0 8 rfl rfl)
theorem dX2_combine_10 : decode cX2_combine 10 = .ok (.astore 9, 2) := dk_58 9 (dk_at dksX2_combine_0 10 rfl rfl)
theorem dX2_combine_12 : decode cX2_combine 12 = .ok (.lload 4, 2) := dk_22 4 (dk_at dksX2_combine_0 12 rfl rfl)
theorem dX2_combine_14 : decode cX2_combine 14 = .ok (.lconst 0, 1) := dk_9 (dk_at dksX2_combine_0 14 rfl rfl)
theorem dX2_combine_15 : decode cX2_combine 15 = .ok (.lcmp, 1) := dk_148 (dk_at dksX2_combine_0 15 rfl rfl)
theorem dX2_combine_16 : decode cX2_combine 16 = .ok (.ifCond .gt 5, 3) := dk_157 0 5 (dk_at dksX2_combine_0 16 rfl rfl)
theorem dX2_combine_19 : decode cX2_combine 19 = .ok (.lload_n 0, 1) := dk_30 (dk_at dksX2_combine_0 19 rfl rfl)
theorem dX2_combine_20 : decode cX2_combine 20 = .ok (.lreturn, 1) := dk_173 (dk_at dksX2_combine_0 20 rfl rfl)
theorem dX2_combine_21 : decode cX2_combine 21 = .ok (.aload 9, 2) := dk_25 9 (dk_at dksX2_combine_0 21 rfl rfl)
theorem dX2_combine_23 : decode cX2_combine 23 = .ok (.iconst 0, 1) := dk_3 (dk_at dksX2_combine_0 23 rfl rfl)
theorem dX2_combine_24 : decode cX2_combine 24 = .ok (.ldc2_w 19, 3) := dk_20 0 19 (dk_at dksX2_combine_1 0 rfl rfl)
theorem dX2_combine_27 : decode cX2_combine 27 = .ok (.lastore, 1) := dk_80 (dk_at dksX2_combine_1 3 rfl rfl)
theorem dX2_combine_28 : decode cX2_combine 28 = .ok (.lconst 1, 1) := dk_10 (dk_at dksX2_combine_1 4 rfl rfl)
theorem dX2_combine_29 : decode cX2_combine 29 = .ok (.lstore 6, 2) := dk_55 6 (dk_at dksX2_combine_1 5 rfl rfl)
theorem dX2_combine_31 : decode cX2_combine 31 = .ok (.iconst 1, 1) := dk_4 (dk_at dksX2_combine_1 7 rfl rfl)
theorem dX2_combine_32 : decode cX2_combine 32 = .ok (.istore 10, 2) := dk_54 10 (dk_at dksX2_combine_1 8 rfl rfl)
theorem dX2_combine_34 : decode cX2_combine 34 = .ok (.iload 10, 2) := dk_21 10 (dk_at dksX2_combine_1 10 rfl rfl)
theorem dX2_combine_36 : decode cX2_combine 36 = .ok (.bipush 32, 2) := dk_16 32 (dk_at dksX2_combine_1 12 rfl rfl)
theorem dX2_combine_38 : decode cX2_combine 38 = .ok (.if_icmp .ge 22, 3) := dk_162 0 22 (dk_at dksX2_combine_1 14 rfl rfl)
theorem dX2_combine_41 : decode cX2_combine 41 = .ok (.aload 9, 2) := dk_25 9 (dk_at dksX2_combine_1 17 rfl rfl)
theorem dX2_combine_43 : decode cX2_combine 43 = .ok (.iload 10, 2) := dk_21 10 (dk_at dksX2_combine_1 19 rfl rfl)
theorem dX2_combine_45 : decode cX2_combine 45 = .ok (.lload 6, 2) := dk_22 6 (dk_at dksX2_combine_1 21 rfl rfl)
theorem dX2_combine_47 : decode cX2_combine 47 = .ok (.lastore, 1) := dk_80 (dk_at dksX2_combine_1 23 rfl rfl)
theorem dX2_combine_48 : decode cX2_combine 48 = .ok (.lload 6, 2) := dk_22 6 (dk_at dksX2_combine_2 0 rfl rfl)
theorem dX2_combine_50 : decode cX2_combine 50 = .ok (.iconst 1, 1) := dk_4 (dk_at dksX2_combine_2 2 rfl rfl)
theorem dX2_combine_51 : decode cX2_combine 51 = .ok (.lshl, 1) := dk_121 (dk_at dksX2_combine_2 3 rfl rfl)
theorem dX2_combine_52 : decode cX2_combine 52 = .ok (.lstore 6, 2) := dk_55 6 (dk_at dksX2_combine_2 4 rfl rfl)
theorem dX2_combine_54 : decode cX2_combine 54 = .ok (.iinc 10 1, 3) := dk_132 10 1 (dk_at dksX2_combine_2 6 rfl rfl)
theorem dX2_combine_57 : decode cX2_combine 57 = .ok (.goto (-23), 3) := dk_167 255 233 (dk_at dksX2_combine_2 9 rfl rfl)
theorem dX2_combine_60 : decode cX2_combine 60 = .ok (.aload 8, 2) := dk_25 8 (dk_at dksX2_combine_2 12 rfl rfl)
theorem dX2_combine_62 : decode cX2_combine 62 = .ok (.aload 9, 2) := dk_25 9 (dk_at dksX2_combine_2 14 rfl rfl)
theorem dX2_combine_64 : decode cX2_combine 64 = .ok (.invokestatic 21, 3) := dk_184 0 21 (dk_at dksX2_combine_2 16 rfl rfl)
theorem dX2_combine_67 : decode cX2_combine 67 = .ok (.aload 9, 2) := dk_25 9 (dk_at dksX2_combine_2 19 rfl rfl)
theorem dX2_combine_69 : decode cX2_combine 69 = .ok (.aload 8, 2) := dk_25 8 (dk_at dksX2_combine_2 21 rfl rfl)
theorem dX2_combine_71 : decode cX2_combine 71 = .ok (.invokestatic 21, 3) := dk_184 0 21 (dk_at dksX2_combine_3 0 rfl rfl)
theorem dX2_combine_74 : decode cX2_combine 74 = .ok (.aload 8, 2) := dk_25 8 (dk_at dksX2_combine_3 3 rfl rfl)
theorem dX2_combine_76 : decode cX2_combine 76 = .ok (.aload 9, 2) := dk_25 9 (dk_at dksX2_combine_3 5 rfl rfl)
theorem dX2_combine_78 : decode cX2_combine 78 = .ok (.invokestatic 21, 3) := dk_184 0 21 (dk_at dksX2_combine_3 7 rfl rfl)
theorem dX2_combine_81 : decode cX2_combine 81 = .ok (.lload 4, 2) := dk_22 4 (dk_at dksX2_combine_3 10 rfl rfl)
theorem dX2_combine_83 : decode cX2_combine 83 = .ok (.lconst 1, 1) := dk_10 (dk_at dksX2_combine_3 12 rfl rfl)
theorem dX2_combine_84 : decode cX2_combine 84 = .ok (.land, 1) := dk_127 (dk_at dksX2_combine_3 13 rfl rfl)
theorem dX2_combine_85 : decode cX2_combine 85 = .ok (.lconst 0, 1) := dk_9 (dk_at dksX2_combine_3 14 rfl rfl)
theorem dX2_combine_86 : decode cX2_combine 86 = .ok (.lcmp, 1) := dk_148 (dk_at dksX2_combine_3 15 rfl rfl)
theorem dX2_combine_87 : decode cX2_combine 87 = .ok (.ifCond .eq 10, 3) := dk_153 0 10 (dk_at dksX2_combine_3 16 rfl rfl)
theorem dX2_combine_90 : decode cX2_combine 90 = .ok (.aload 8, 2) := dk_25 8 (dk_at dksX2_combine_3 19 rfl rfl)
theorem dX2_combine_92 : decode cX2_combine 92 = .ok (.lload_n 0, 1) := dk_30 (dk_at dksX2_combine_3 21 rfl rfl)
theorem dX2_combine_93 : decode cX2_combine 93 = .ok (.invokestatic 25, 3) := dk_184 0 25 (dk_at dksX2_combine_4 0 rfl rfl)
theorem dX2_combine_96 : decode cX2_combine 96 = .ok (.lstore_n 0, 1) := dk_63 (dk_at dksX2_combine_4 3 rfl rfl)
theorem dX2_combine_97 : decode cX2_combine 97 = .ok (.lload 4, 2) := dk_22 4 (dk_at dksX2_combine_4 4 rfl rfl)
theorem dX2_combine_99 : decode cX2_combine 99 = .ok (.iconst 1, 1) := dk_4 (dk_at dksX2_combine_4 6 rfl rfl)
theorem dX2_combine_100 : decode cX2_combine 100 = .ok (.lshr, 1) := dk_123 (dk_at dksX2_combine_4 7 rfl rfl)
theorem dX2_combine_101 : decode cX2_combine 101 = .ok (.lstore 4, 2) := dk_55 4 (dk_at dksX2_combine_4 8 rfl rfl)
theorem dX2_combine_103 : decode cX2_combine 103 = .ok (.lload 4, 2) := dk_22 4 (dk_at dksX2_combine_4 10 rfl rfl)
theorem dX2_combine_105 : decode cX2_combine 105 = .ok (.lconst 0, 1) := dk_9 (dk_at dksX2_combine_4 12 rfl rfl)
theorem dX2_combine_106 : decode cX2_combine 106 = .ok (.lcmp, 1) := dk_148 (dk_at dksX2_combine_4 13 rfl rfl)
theorem dX2_combine_107 : decode cX2_combine 107 = .ok (.ifCond .ne 6, 3) := dk_154 0 6 (dk_at dksX2_combine_4 14 rfl rfl)
theorem dX2_combine_110 : decode cX2_combine 110 = .ok (.goto 39, 3) := dk_167 0 39 (dk_at dksX2_combine_4 17 rfl rfl)
theorem dX2_combine_113 : decode cX2_combine 113 = .ok (.aload 9, 2) := dk_25 9 (dk_at dksX2_combine_4 20 rfl rfl)
theorem dX2_combine_115 : decode cX2_combine 115 = .ok (.aload 8, 2) := dk_25 8 (dk_at dksX2_combine_4 22 rfl rfl)
theorem dX2_combine_117 : decode cX2_combine 117 = .ok (.invokestatic 21, 3) := dk_184 0 21 (dk_at dksX2_combine_5 0 rfl rfl)
theorem dX2_combine_120 : decode cX2_combine 120 = .ok (.lload 4, 2) := dk_22 4 (dk_at dksX2_combine_5 3 rfl rfl)
theorem dX2_combine_122 : decode cX2_combine 122 = .ok (.lconst 1, 1) := dk_10 (dk_at dksX2_combine_5 5 rfl rfl)
theorem dX2_combine_123 : decode cX2_combine 123 = .ok (.land, 1) := dk_127 (dk_at dksX2_combine_5 6 rfl rfl)
theorem dX2_combine_124 : decode cX2_combine 124 = .ok (.lconst 0, 1) := dk_9 (dk_at dksX2_combine_5 7 rfl rfl)
theorem dX2_combine_125 : decode cX2_combine 125 = .ok (.lcmp, 1) := dk_148 (dk_at dksX2_combine_5 8 rfl rfl)
theorem dX2_combine_126 : decode cX2_combine 126 = .ok (.ifCond .eq 10, 3) := dk_153 0 10 (dk_at dksX2_combine_5 9 rfl rfl)
theorem dX2_combine_129 : decode cX2_combine 129 = .ok (.aload 9, 2) := dk_25 9 (dk_at dksX2_combine_5 12 rfl rfl)
theorem dX2_combine_131 : decode cX2_combine 131 = .ok (.lload_n 0, 1) := dk_30 (dk_at dksX2_combine_5 14 rfl rfl)
theorem dX2_combine_132 : decode cX2_combine 132 = .ok (.invokestatic 25, 3) := dk_184 0 25 (dk_at dksX2_combine_5 15 rfl rfl)
theorem dX2_combine_135 : decode cX2_combine 135 = .ok (.lstore_n 0, 1) := dk_63 (dk_at dksX2_combine_5 18 rfl rfl)
theorem dX2_combine_136 : decode cX2_combine 136 = .ok (.lload 4, 2) := dk_22 4 (dk_at dksX2_combine_5 19 rfl rfl)
theorem dX2_combine_138 : decode cX2_combine 138 = .ok (.iconst 1, 1) := dk_4 (dk_at dksX2_combine_5 21 rfl rfl)
theorem dX2_combine_139 : decode cX2_combine 139 = .ok (.lshr, 1) := dk_123 (dk_at dksX2_combine_5 22 rfl rfl)
theorem dX2_combine_140 : decode cX2_combine 140 = .ok (.lstore 4, 2) := dk_55 4 (dk_at dksX2_combine_6 0 rfl rfl)
theorem dX2_combine_142 : decode cX2_combine 142 = .ok (.lload 4, 2) := dk_22 4 (dk_at dksX2_combine_6 2 rfl rfl)
theorem dX2_combine_144 : decode cX2_combine 144 = .ok (.lconst 0, 1) := dk_9 (dk_at dksX2_combine_6 4 rfl rfl)
theorem dX2_combine_145 : decode cX2_combine 145 = .ok (.lcmp, 1) := dk_148 (dk_at dksX2_combine_6 5 rfl rfl)
theorem dX2_combine_146 : decode cX2_combine 146 = .ok (.ifCond .ne (-72), 3) := dk_154 255 184 (dk_at dksX2_combine_6 6 rfl rfl)
theorem dX2_combine_149 : decode cX2_combine 149 = .ok (.lload_n 0, 1) := dk_30 (dk_at dksX2_combine_6 9 rfl rfl)
theorem dX2_combine_150 : decode cX2_combine 150 = .ok (.lload_n 2, 1) := dk_32 (dk_at dksX2_combine_6 10 rfl rfl)
theorem dX2_combine_151 : decode cX2_combine 151 = .ok (.lxor, 1) := dk_131 (dk_at dksX2_combine_6 11 rfl rfl)
theorem dX2_combine_152 : decode cX2_combine 152 = .ok (.lstore_n 0, 1) := dk_63 (dk_at dksX2_combine_6 12 rfl rfl)
theorem dX2_combine_153 : decode cX2_combine 153 = .ok (.lload_n 0, 1) := dk_30 (dk_at dksX2_combine_6 13 rfl rfl)
theorem dX2_combine_154 : decode cX2_combine 154 = .ok (.lreturn, 1) := dk_173 (dk_at dksX2_combine_6 14 rfl rfl)
abbrev cX2_gf2_matrix_square : ByteArray := prog_2_method_6_code
def yX2_gf2_matrix_square : MethodName := ⟨RX2, "gf2_matrix_square", "([J[J)V"⟩
def dkwX2_gf2_matrix_square_1 : List UInt8 := [177]
abbrev dktX2_gf2_matrix_square_1 : List UInt8 := dkwX2_gf2_matrix_square_1 ++ []
def dkwX2_gf2_matrix_square_0 : List UInt8 := [3, 61, 28, 16, 32, 162, 0, 19, 42, 28, 43, 43, 28, 47, 184, 0, 25, 80, 132, 2, 1, 167, 255, 237]
abbrev dktX2_gf2_matrix_square_0 : List UInt8 := dkwX2_gf2_matrix_square_0 ++ dktX2_gf2_matrix_square_1
theorem dksX2_gf2_matrix_square_0 : cX2_gf2_matrix_square.data.toList.drop 0 = dktX2_gf2_matrix_square_0 := by decide +kernel
theorem dksX2_gf2_matrix_square_1 : cX2_gf2_matrix_square.data.toList.drop 24 = dktX2_gf2_matrix_square_1 := dk_seg dksX2_gf2_matrix_square_0 24 rfl rfl
theorem dX2_gf2_matrix_square_0 : decode cX2_gf2_matrix_square 0 = .ok (.iconst 0, 1) := dk_3 (dk_at dksX2_gf2_matrix_square_0 0 rfl rfl)
theorem dX2_gf2_matrix_square_1 : decode cX2_gf2_matrix_square 1 = .ok (.istore_n 2, 1) := dk_61 (dk_at dksX2_gf2_matrix_square_0 1 rfl rfl)
theorem dX2_gf2_matrix_square_2 : decode cX2_gf2_matrix_square 2 = .ok (.iload_n 2, 1) := dk_28 (dk_at dksX2_gf2_matrix_square_0 2 rfl rfl)
theorem dX2_gf2_matrix_square_3 : decode cX2_gf2_matrix_square 3 = .ok (.bipush 32, 2) := dk_16 32 (dk_at dksX2_gf2_matrix_square_0 3 rfl rfl)
theorem dX2_gf2_matrix_square_5 : decode cX2_gf2_matrix_square 5 = .ok (.if_icmp .ge 19, 3) := dk_162 0 19 (dk_at dksX2_gf2_matrix_square_0 5 rfl rfl)
theorem dX2_gf2_matrix_square_8 : decode cX2_gf2_matrix_square 8 = .ok (.aload_n 0, 1) := dk_42 (dk_at dksX2_gf2_matrix_square_0 8 rfl rfl)
theorem dX2_gf2_matrix_square_9 : decode cX2_gf2_matrix_square 9 = .ok (.iload_n 2, 1) := dk_28 (dk_at dksX2_gf2_matrix_square_0 9 rfl rfl)
theorem dX2_gf2_matrix_square_10 : decode cX2_gf2_matrix_square 10 = .ok (.aload_n 1, 1) := dk_43 (dk_at dksX2_gf2_matrix_square_0 10 rfl rfl)
theorem dX2_gf2_matrix_square_11 : decode cX2_gf2_matrix_square 11 = .ok (.aload_n 1, 1) := dk_43 (dk_at dksX2_gf2_matrix_square_0 11 rfl rfl)
theorem dX2_gf2_matrix_square_12 : decode cX2_gf2_matrix_square 12 = .ok (.iload_n 2, 1) := dk_28 (dk_at dksX2_gf2_matrix_square_0 12 rfl rfl)
theorem dX2_gf2_matrix_square_13 : decode cX2_gf2_matrix_square 13 = .ok (.laload, 1) := dk_47 (dk_at dksX2_gf2_matrix_square_0 13 rfl rfl)
theorem dX2_gf2_matrix_square_14 : decode cX2_gf2_matrix_square 14 = .ok (.invokestatic 25, 3) := dk_184 0 25 (dk_at dksX2_gf2_matrix_square_0 14 rfl rfl)
theorem dX2_gf2_matrix_square_17 : decode cX2_gf2_matrix_square 17 = .ok (.lastore, 1) := dk_80 (dk_at dksX2_gf2_matrix_square_0 17 rfl rfl)
theorem dX2_gf2_matrix_square_18 : decode cX2_gf2_matrix_square 18 = .ok (.iinc 2 1, 3) := dk_132 2 1 (dk_at dksX2_gf2_matrix_square_0 18 rfl rfl)
theorem dX2_gf2_matrix_square_21 : decode cX2_gf2_matrix_square 21 = .ok (.goto (-19), 3) := dk_167 255 237 (dk_at dksX2_gf2_matrix_square_0 21 rfl rfl)
theorem dX2_gf2_matrix_square_24 : decode cX2_gf2_matrix_square 24 = .ok (.return_, 1) := dk_177 (dk_at dksX2_gf2_matrix_square_1 0 rfl rfl)
abbrev cX2_gf2_matrix_times : ByteArray := prog_2_method_5_code
def yX2_gf2_matrix_times : MethodName := ⟨RX2, "gf2_matrix_times", "([JJ)J"⟩
def dkwX2_gf2_matrix_times_1 : List UInt8 := [131, 66, 31, 4, 123, 64, 132, 5, 1, 167, 255, 228, 33, 173]
abbrev dktX2_gf2_matrix_times_1 : List UInt8 := dkwX2_gf2_matrix_times_1 ++ []
def dkwX2_gf2_matrix_times_0 : List UInt8 := [9, 66, 3, 54, 5, 31, 9, 148, 153, 0, 28, 31, 10, 127, 9, 148, 153, 0, 10, 33, 42, 21, 5, 47]
abbrev dktX2_gf2_matrix_times_0 : List UInt8 := dkwX2_gf2_matrix_times_0 ++ dktX2_gf2_matrix_times_1
theorem dksX2_gf2_matrix_times_0 : cX2_gf2_matrix_times.data.toList.drop 0 = dktX2_gf2_matrix_times_0 := by decide +kernel
theorem dksX2_gf2_matrix_times_1 : cX2_gf2_matrix_times.data.toList.drop 24 = dktX2_gf2_matrix_times_1 := dk_seg dksX2_gf2_matrix_times_0 24 rfl rfl
theorem dX2_gf2_matrix_times_0 : decode cX2_gf2_matrix_times 0 = .ok (.lconst 0, 1) := dk_9 (dk_at dksX2_gf2_matrix_times_0 0 rfl rfl)
theorem dX2_gf2_matrix_times_1 : decode cX2_gf2_matrix_times 1 = .ok (.lstore_n 3, 1) := dk_66 (dk_at dksX2_gf2_matrix_times_0 1 rfl rfl)
theorem dX2_gf2_matrix_times_2 : decode cX2_gf2_matrix_times 2 = .ok (.iconst 0, 1) := dk_3 (dk_at dksX2_gf2_matrix_times_0 2 rfl rfl)
theorem dX2_gf2_matrix_times_3 : decode cX2_gf2_matrix_times 3 = .ok (.istore 5, 2) := dk_54 5 (dk_at dksX2_gf2_matrix_times_0 3 rfl rfl)
theorem dX2_gf2_matrix_times_5 : decode cX2_gf2_matrix_times 5 = .ok (.lload_n 1, 1) := dk_31 (dk_at dksX2_gf2_matrix_times_0 5 rfl rfl)
theorem dX2_gf2_matrix_times_6 : decode cX2_gf2_matrix_times 6 = .ok (.lconst 0, 1) := dk_9 (dk_at dksX2_gf2_matrix_times_0 6 rfl rfl)
theorem dX2_gf2_matrix_times_7 : decode cX2_gf2_matrix_times 7 = .ok (.lcmp, 1) := dk_148 (dk_at dksX2_gf2_matrix_times_0 7 rfl rfl)
theorem dX2_gf2_matrix_times_8 : decode cX2_gf2_matrix_times 8 = .ok (.ifCond .eq 28, 3) := dk_153 0 28 (dk_at dksX2_gf2_matrix_times_0 8 rfl rfl)
theorem dX2_gf2_matrix_times_11 : decode cX2_gf2_matrix_times 11 = .ok (.lload_n 1, 1) := dk_31 (dk_at dksX2_gf2_matrix_times_0 11 rfl rfl)
theorem dX2_gf2_matrix_times_12 : decode cX2_gf2_matrix_times 12 = .ok (.lconst 1, 1) := dk_10 (dk_at dksX2_gf2_matrix_times_0 12 rfl rfl)
theorem dX2_gf2_matrix_times_13 : decode cX2_gf2_matrix_times 13 = .ok (.land, 1) := dk_127 (dk_at dksX2_gf2_matrix_times_0 13 rfl rfl)
theorem dX2_gf2_matrix_times_14 : decode cX2_gf2_matrix_times 14 = .ok (.lconst 0, 1) := dk_9 (dk_at dksX2_gf2_matrix_times_0 14 rfl rfl)
theorem dX2_gf2_matrix_times_15 : decode cX2_gf2_matrix_times 15 = .ok (.lcmp, 1) := dk_148 (dk_at dksX2_gf2_matrix_times_0 15 rfl rfl)
theorem dX2_gf2_matrix_times_16 : decode cX2_gf2_matrix_times 16 = .ok (.ifCond .eq 10, 3) := dk_153 0 10 (dk_at dksX2_gf2_matrix_times_0 16 rfl rfl)
theorem dX2_gf2_matrix_times_19 : decode cX2_gf2_matrix_times 19 = .ok (.lload_n 3, 1) := dk_33 (dk_at dksX2_gf2_matrix_times_0 19 rfl rfl)
theorem dX2_gf2_matrix_times_20 : decode cX2_gf2_matrix_times 20 = .ok (.aload_n 0, 1) := dk_42 (dk_at dksX2_gf2_matrix_times_0 20 rfl rfl)
theorem dX2_gf2_matrix_times_21 : decode cX2_gf2_matrix_times 21 = .ok (.iload 5, 2) := dk_21 5 (dk_at dksX2_gf2_matrix_times_0 21 rfl rfl)
theorem dX2_gf2_matrix_times_23 : decode cX2_gf2_matrix_times 23 = .ok (.laload, 1) := dk_47 (dk_at dksX2_gf2_matrix_times_0 23 rfl rfl)
theorem dX2_gf2_matrix_times_24 : decode cX2_gf2_matrix_times 24 = .ok (.lxor, 1) := dk_131 (dk_at dksX2_gf2_matrix_times_1 0 rfl rfl)
theorem dX2_gf2_matrix_times_25 : decode cX2_gf2_matrix_times 25 = .ok (.lstore_n 3, 1) := dk_66 (dk_at dksX2_gf2_matrix_times_1 1 rfl rfl)
theorem dX2_gf2_matrix_times_26 : decode cX2_gf2_matrix_times 26 = .ok (.lload_n 1, 1) := dk_31 (dk_at dksX2_gf2_matrix_times_1 2 rfl rfl)
theorem dX2_gf2_matrix_times_27 : decode cX2_gf2_matrix_times 27 = .ok (.iconst 1, 1) := dk_4 (dk_at dksX2_gf2_matrix_times_1 3 rfl rfl)
theorem dX2_gf2_matrix_times_28 : decode cX2_gf2_matrix_times 28 = .ok (.lshr, 1) := dk_123 (dk_at dksX2_gf2_matrix_times_1 4 rfl rfl)
theorem dX2_gf2_matrix_times_29 : decode cX2_gf2_matrix_times 29 = .ok (.lstore_n 1, 1) := dk_64 (dk_at dksX2_gf2_matrix_times_1 5 rfl rfl)
theorem dX2_gf2_matrix_times_30 : decode cX2_gf2_matrix_times 30 = .ok (.iinc 5 1, 3) := dk_132 5 1 (dk_at dksX2_gf2_matrix_times_1 6 rfl rfl)
theorem dX2_gf2_matrix_times_33 : decode cX2_gf2_matrix_times 33 = .ok (.goto (-28), 3) := dk_167 255 228 (dk_at dksX2_gf2_matrix_times_1 9 rfl rfl)
theorem dX2_gf2_matrix_times_36 : decode cX2_gf2_matrix_times 36 = .ok (.lload_n 3, 1) := dk_33 (dk_at dksX2_gf2_matrix_times_1 12 rfl rfl)
theorem dX2_gf2_matrix_times_37 : decode cX2_gf2_matrix_times 37 = .ok (.lreturn, 1) := dk_173 (dk_at dksX2_gf2_matrix_times_1 13 rfl rfl)
theorem q5 : (Jvm.Cond.initialized "CRC32") ∈ lw_all := lw_g (lw_at lw_m0 2 rfl) rfl
theorem q46 : (Jvm.Cond.instantiable "CRC32" (1 : Nat)) ∈ lw_all := lw_g (lw_at lw_m0 43 rfl) rfl
theorem q48 : (Jvm.Cond.instanceMethod ({ cls := "CRC32", name := "<init>", desc := "()V" } : Jvm.MethodName)) ∈ lw_all := lw_g (lw_at lw_m0 45 rfl) rfl
theorem q49 : (Jvm.Cond.code ({ cls := "CRC32", name := "<init>", desc := "()V" } : Jvm.MethodName) prog_2_method_1_code (1 : Nat) (Option.none : Option Jvm.ClassFile.FieldType)) ∈ lw_all := lw_g (lw_at lw_m0 46 rfl) rfl
theorem q50 : (Jvm.Cond.methodLink "CRC32" (1 : Nat) ({ cls := "java/lang/Object", name := "<init>", desc := "()V" } : Jvm.MethodName)) ∈ lw_all := lw_g (lw_at lw_m0 47 rfl) rfl
theorem q51 : (Jvm.Cond.fieldLink "CRC32" (7 : Nat) "CRC32" "v" "I") ∈ lw_all := lw_g (lw_at lw_m0 48 rfl) rfl
theorem q52 : (Jvm.Cond.lays "CRC32" "CRC32" "v" "I") ∈ lw_all := lw_g (lw_at lw_m0 49 rfl) rfl
theorem q53 : (Jvm.Cond.soleField "CRC32" "v") ∈ lw_all := lw_g (lw_at lw_m0 50 rfl) rfl
theorem q54 : (Jvm.Cond.superclass "CRC32" "java/lang/Object") ∈ lw_all := lw_g (lw_at lw_m0 51 rfl) rfl
theorem q56 : (Jvm.Cond.instanceMethod ({ cls := "CRC32", name := "update", desc := "([BII)V" } : Jvm.MethodName)) ∈ lw_all := lw_g (lw_at lw_m0 53 rfl) rfl
theorem q57 : (Jvm.Cond.selects "CRC32" ({ cls := "CRC32", name := "update", desc := "([BII)V" } : Jvm.MethodName) ({ cls := "CRC32", name := "update", desc := "([BII)V" } : Jvm.MethodName)) ∈ lw_all := lw_g (lw_at lw_m0 54 rfl) rfl
theorem q58 : (Jvm.Cond.code ({ cls := "CRC32", name := "update", desc := "([BII)V" } : Jvm.MethodName) prog_2_method_2_code (5 : Nat) (Option.none : Option Jvm.ClassFile.FieldType)) ∈ lw_all := lw_g (lw_at lw_m0 55 rfl) rfl
theorem q59 : (Jvm.Cond.fieldLink "CRC32" (13 : Nat) "CRC32" "crc_table" "[I") ∈ lw_all := lw_g (lw_at lw_m0 56 rfl) rfl
theorem q60 : (Jvm.Cond.laysStatic "CRC32" "crc_table" "[I") ∈ lw_tbl := lw_at lw_m0 57 rfl
theorem q62 : (Jvm.Cond.instanceMethod ({ cls := "CRC32", name := "getValue", desc := "()J" } : Jvm.MethodName)) ∈ lw_all := lw_g (lw_at lw_m0 59 rfl) rfl
theorem q63 : (Jvm.Cond.selects "CRC32" ({ cls := "CRC32", name := "getValue", desc := "()J" } : Jvm.MethodName) ({ cls := "CRC32", name := "getValue", desc := "()J" } : Jvm.MethodName)) ∈ lw_all := lw_g (lw_at lw_m0 60 rfl) rfl
theorem q64 : (Jvm.Cond.code ({ cls := "CRC32", name := "getValue", desc := "()J" } : Jvm.MethodName) prog_2_method_3_code (1 : Nat) (Option.some Jvm.ClassFile.FieldType.long)) ∈ lw_all := lw_g (lw_at lw_m0 61 rfl) rfl
theorem q65 : (Jvm.Cond.constantLong "CRC32" (17 : Nat) (4294967295 : Int64)) ∈ lw_all := lw_g (lw_at lw_m0 62 rfl) rfl
theorem q140 : (Jvm.Cond.static ({ cls := "CRC32", name := "combine", desc := "(JJJ)J" } : Jvm.MethodName)) ∈ lw_all := lw_g (lw_at lw_m0 137 rfl) rfl
theorem q141 : (Jvm.Cond.code ({ cls := "CRC32", name := "combine", desc := "(JJJ)J" } : Jvm.MethodName) prog_2_method_4_code (11 : Nat) (Option.some Jvm.ClassFile.FieldType.long)) ∈ lw_all := lw_g (lw_at lw_m0 138 rfl) rfl
theorem q142 : (Jvm.Cond.constantLong "CRC32" (19 : Nat) (3988292384 : Int64)) ∈ lw_all := lw_g (lw_at lw_m0 139 rfl) rfl
theorem q143 : (Jvm.Cond.methodLink "CRC32" (21 : Nat) ({ cls := "CRC32", name := "gf2_matrix_square", desc := "([J[J)V" } : Jvm.MethodName)) ∈ lw_all := lw_g (lw_at lw_m0 140 rfl) rfl
theorem q144 : (Jvm.Cond.static ({ cls := "CRC32", name := "gf2_matrix_square", desc := "([J[J)V" } : Jvm.MethodName)) ∈ lw_all := lw_g (lw_at lw_m0 141 rfl) rfl
theorem q145 : (Jvm.Cond.code ({ cls := "CRC32", name := "gf2_matrix_square", desc := "([J[J)V" } : Jvm.MethodName) prog_2_method_6_code (3 : Nat) (Option.none : Option Jvm.ClassFile.FieldType)) ∈ lw_all := lw_g (lw_at lw_m0 142 rfl) rfl
theorem q146 : (Jvm.Cond.methodLink "CRC32" (25 : Nat) ({ cls := "CRC32", name := "gf2_matrix_times", desc := "([JJ)J" } : Jvm.MethodName)) ∈ lw_all := lw_g (lw_at lw_m0 143 rfl) rfl
theorem q147 : (Jvm.Cond.static ({ cls := "CRC32", name := "gf2_matrix_times", desc := "([JJ)J" } : Jvm.MethodName)) ∈ lw_all := lw_g (lw_at lw_m0 144 rfl) rfl
theorem q148 : (Jvm.Cond.code ({ cls := "CRC32", name := "gf2_matrix_times", desc := "([JJ)J" } : Jvm.MethodName) prog_2_method_5_code (6 : Nat) (Option.some Jvm.ClassFile.FieldType.long)) ∈ lw_all := lw_g (lw_at lw_m0 145 rfl) rfl
theorem in_X2 : ∀ w ∈ wsX20, w ∈ lw_all := lw_in wsX20 [52] (by decide +kernel) (by decide +kernel)
/-! Adler32 -/
set_option maxRecDepth 100000
def RX3 : String := "Adler32"
def TX3 : u_T := fun k => match k with
  | 0 => ("Adler32", "s1", "J", false)
  | _ => ("Adler32", "s2", "J", false)
def tyX3 : Nat → FieldType := fun k => match k with
  | 0 => .long
  | _ => .long
abbrev wsX30 : List Cond := u_ws RX3 TX3 2
theorem nmX3 : ∀ a, a < 2 → ∀ b, b < 2 → a ≠ b → (TX3 a).2.1 ≠ (TX3 b).2.1 := by decide +kernel
theorem tyX3_ok : ∀ k, k < 2 → parseFieldDescriptor (TX3 k).2.2.1 = some (tyX3 k) := by decide +kernel
abbrev cX3_init : ByteArray := prog_1_method_1_code
def yX3_init : MethodName := ⟨RX3, "<init>", "()V"⟩
def dkwX3_init_0 : List UInt8 := [42, 183, 0, 1, 42, 10, 181, 0, 7, 42, 9, 181, 0, 13, 177]
abbrev dktX3_init_0 : List UInt8 := dkwX3_init_0 ++ []
theorem dksX3_init_0 : cX3_init.data.toList.drop 0 = dktX3_init_0 := by decide +kernel
theorem dX3_init_0 : decode cX3_init 0 = .ok (.aload_n 0, 1) := dk_42 (dk_at dksX3_init_0 0 rfl rfl)
theorem dX3_init_1 : decode cX3_init 1 = .ok (.invokespecial 1, 3) := dk_183 0 1 (dk_at dksX3_init_0 1 rfl rfl)
theorem dX3_init_4 : decode cX3_init 4 = .ok (.aload_n 0, 1) := dk_42 (dk_at dksX3_init_0 4 rfl rfl)
theorem dX3_init_5 : decode cX3_init 5 = .ok (.lconst 1, 1) := dk_10 (dk_at dksX3_init_0 5 rfl rfl)
theorem dX3_init_6 : decode cX3_init 6 = .ok (.putfield 7, 3) := dk_181 0 7 (dk_at dksX3_init_0 6 rfl rfl)
theorem dX3_init_9 : decode cX3_init 9 = .ok (.aload_n 0, 1) := dk_42 (dk_at dksX3_init_0 9 rfl rfl)
theorem dX3_init_10 : decode cX3_init 10 = .ok (.lconst 0, 1) := dk_9 (dk_at dksX3_init_0 10 rfl rfl)
theorem dX3_init_11 : decode cX3_init 11 = .ok (.putfield 13, 3) := dk_181 0 13 (dk_at dksX3_init_0 11 rfl rfl)
theorem dX3_init_14 : decode cX3_init 14 = .ok (.return_, 1) := dk_177 (dk_at dksX3_init_0 14 rfl rfl)
abbrev cX3_update : ByteArray := prog_1_method_3_code
def yX3_update : MethodName := ⟨RX3, "update", "([BII)V"⟩
def dkwX3_update_10 : List UInt8 := [180, 0, 13, 20, 0, 16, 113, 181, 0, 13, 177]
abbrev dktX3_update_10 : List UInt8 := dkwX3_update_10 ++ []
def dkwX3_update_9 : List UInt8 := [180, 0, 7, 97, 181, 0, 13, 167, 255, 215, 42, 89, 180, 0, 7, 20, 0, 16, 113, 181, 0, 7, 42, 89]
abbrev dktX3_update_9 : List UInt8 := dkwX3_update_9 ++ dktX3_update_10
def dkwX3_update_8 : List UInt8 := [180, 0, 7, 43, 28, 132, 2, 1, 51, 17, 0, 255, 126, 133, 97, 181, 0, 7, 42, 89, 180, 0, 13, 42]
abbrev dktX3_update_8 : List UInt8 := dkwX3_update_8 ++ dktX3_update_9
def dkwX3_update_7 : List UInt8 := [167, 255, 170, 21, 5, 54, 6, 29, 21, 6, 100, 62, 21, 6, 132, 6, 255, 158, 0, 39, 42, 89]
abbrev dktX3_update_7 : List UInt8 := dkwX3_update_7 ++ dktX3_update_8
def dkwX3_update_6 : List UInt8 := [180, 0, 7, 20, 0, 16, 113, 181, 0, 7, 42, 89, 180, 0, 13, 20, 0, 16, 113, 181, 0, 13]
abbrev dktX3_update_6 : List UInt8 := dkwX3_update_6 ++ dktX3_update_7
def dkwX3_update_5 : List UInt8 := [133, 97, 181, 0, 7, 42, 89, 180, 0, 13, 42, 180, 0, 7, 97, 181, 0, 13, 167, 255, 215, 42, 89]
abbrev dktX3_update_5 : List UInt8 := dkwX3_update_5 ++ dktX3_update_6
def dkwX3_update_4 : List UInt8 := [62, 21, 6, 132, 6, 255, 158, 0, 39, 42, 89, 180, 0, 7, 43, 28, 132, 2, 1, 51, 17, 0, 255, 126]
abbrev dktX3_update_4 : List UInt8 := dkwX3_update_4 ++ dktX3_update_5
def dkwX3_update_3 : List UInt8 := [29, 17, 21, 176, 112, 54, 5, 21, 4, 132, 4, 255, 158, 0, 84, 17, 21, 176, 54, 6, 29, 21, 6, 100]
abbrev dktX3_update_3 : List UInt8 := dkwX3_update_3 ++ dktX3_update_4
def dkwX3_update_2 : List UInt8 := [113, 181, 0, 7, 42, 89, 180, 0, 13, 20, 0, 16, 113, 181, 0, 13, 177, 29, 17, 21, 176, 108, 54, 4]
abbrev dktX3_update_2 : List UInt8 := dkwX3_update_2 ++ dktX3_update_3
def dkwX3_update_1 : List UInt8 := [181, 0, 7, 42, 89, 180, 0, 13, 42, 180, 0, 7, 97, 181, 0, 13, 42, 89, 180, 0, 7, 20, 0, 16]
abbrev dktX3_update_1 : List UInt8 := dkwX3_update_1 ++ dktX3_update_2
def dkwX3_update_0 : List UInt8 := [29, 4, 160, 0, 61, 42, 89, 180, 0, 7, 43, 28, 132, 2, 1, 51, 17, 0, 255, 126, 133, 97]
abbrev dktX3_update_0 : List UInt8 := dkwX3_update_0 ++ dktX3_update_1
theorem dksX3_update_0 : cX3_update.data.toList.drop 0 = dktX3_update_0 := by decide +kernel
theorem dksX3_update_1 : cX3_update.data.toList.drop 22 = dktX3_update_1 := dk_seg dksX3_update_0 22 rfl rfl
theorem dksX3_update_2 : cX3_update.data.toList.drop 46 = dktX3_update_2 := dk_seg dksX3_update_1 24 rfl rfl
theorem dksX3_update_3 : cX3_update.data.toList.drop 70 = dktX3_update_3 := dk_seg dksX3_update_2 24 rfl rfl
theorem dksX3_update_4 : cX3_update.data.toList.drop 94 = dktX3_update_4 := dk_seg dksX3_update_3 24 rfl rfl
theorem dksX3_update_5 : cX3_update.data.toList.drop 118 = dktX3_update_5 := dk_seg dksX3_update_4 24 rfl rfl
theorem dksX3_update_6 : cX3_update.data.toList.drop 141 = dktX3_update_6 := dk_seg dksX3_update_5 23 rfl rfl
theorem dksX3_update_7 : cX3_update.data.toList.drop 163 = dktX3_update_7 := dk_seg dksX3_update_6 22 rfl rfl
theorem dksX3_update_8 : cX3_update.data.toList.drop 185 = dktX3_update_8 := dk_seg dksX3_update_7 22 rfl rfl
theorem dksX3_update_9 : cX3_update.data.toList.drop 209 = dktX3_update_9 := dk_seg dksX3_update_8 24 rfl rfl
theorem dksX3_update_10 : cX3_update.data.toList.drop 233 = dktX3_update_10 := dk_seg dksX3_update_9 24 rfl rfl
theorem dX3_update_0 : decode cX3_update 0 = .ok (.iload_n 3, 1) := dk_29 (dk_at dksX3_update_0 0 rfl rfl)
theorem dX3_update_1 : decode cX3_update 1 = .ok (.iconst 1, 1) := dk_4 (dk_at dksX3_update_0 1 rfl rfl)
theorem dX3_update_2 : decode cX3_update 2 = .ok (.if_icmp .ne 61, 3) := dk_160 0 61 (dk_at dksX3_update_0 2 rfl rfl)
theorem dX3_update_5 : decode cX3_update 5 = .ok (.aload_n 0, 1) := dk_42 (dk_at dksX3_update_0 5 rfl rfl)
theorem dX3_update_6 : decode cX3_update 6 = .ok (.dup, 1) := dk_89 (dk_at dksX3_update_0 6 rfl rfl)
theorem dX3_update_7 : decode cX3_update 7 = .ok (.getfield 7, 3) := dk_180 0 7 (dk_at dksX3_update_0 7 rfl rfl)
theorem dX3_update_10 : decode cX3_update 10 = .ok (.aload_n 1, 1) := dk_43 (dk_at dksX3_update_0 10 rfl rfl)
theorem dX3_update_11 : decode cX3_update 11 = .ok (.iload_n 2, 1) := dk_28 (dk_at dksX3_update_0 11 rfl rfl)
theorem dX3_update_12 : decode cX3_update 12 = .ok (.iinc 2 1, 3) := dk_132 2 1 (dk_at dksX3_update_0 12 rfl rfl)
theorem dX3_update_15 : decode cX3_update 15 = .ok (.baload, 1) := dk_51 (dk_at dksX3_update_0 15 rfl rfl)
theorem dX3_update_16 : decode cX3_update 16 = .ok (.sipush 255, 3) := dk_17 0 255 (dk_at dksX3_update_0 16 rfl rfl)
theorem dX3_update_19 : decode cX3_update 19 = .ok (.iand, 1) := dk_126 (dk_at dksX3_update_0 19 rfl rfl)
theorem dX3_update_20 : decode cX3_update 20 = .ok (.i2l, 1) := dk_133 (dk_at dksX3_update_0 20 rfl rfl)
theorem dX3_update_21 : decode cX3_update 21 = .ok (.ladd, 1) := dk_97 (dk_at dksX3_update_0 21 rfl rfl)
theorem dX3_update_22 : decode cX3_update 22 = .ok (.putfield 7, 3) := dk_181 0 7 (dk_at dksX3_update_1 0 rfl rfl)
theorem dX3_update_25 : decode cX3_update 25 = .ok (.aload_n 0, 1) := dk_42 (dk_at dksX3_update_1 3 rfl rfl)
theorem dX3_update_26 : decode cX3_update 26 = .ok (.dup, 1) := dk_89 (dk_at dksX3_update_1 4 rfl rfl)
theorem dX3_update_27 : decode cX3_update 27 = .ok (.getfield 13, 3) := dk_180 0 13 (dk_at dksX3_update_1 5 rfl rfl)
theorem dX3_update_30 : decode cX3_update 30 = .ok (.aload_n 0, 1) := dk_42 (dk_at dksX3_update_1 8 rfl rfl)
theorem dX3_update_31 : decode cX3_update 31 = .ok (.getfield 7, 3) := dk_180 0 7 (dk_at dksX3_update_1 9 rfl rfl)
theorem dX3_update_34 : decode cX3_update 34 = .ok (.ladd, 1) := dk_97 (dk_at dksX3_update_1 12 rfl rfl)
theorem dX3_update_35 : decode cX3_update 35 = .ok (.putfield 13, 3) := dk_181 0 13 (dk_at dksX3_update_1 13 rfl rfl)
theorem dX3_update_38 : decode cX3_update 38 = .ok (.aload_n 0, 1) := dk_42 (dk_at dksX3_update_1 16 rfl rfl)
theorem dX3_update_39 : decode cX3_update 39 = .ok (.dup, 1) := dk_89 (dk_at dksX3_update_1 17 rfl rfl)
theorem dX3_update_40 : decode cX3_update 40 = .ok (.getfield 7, 3) := dk_180 0 7 (dk_at dksX3_update_1 18 rfl rfl)
theorem dX3_update_43 : decode cX3_update 43 = .ok (.ldc2_w 16, 3) := dk_20 0 16 (dk_at dksX3_update_1 21 rfl rfl)
theorem dX3_update_46 : decode cX3_update 46 = .ok (.lrem, 1) := dk_113 (dk_at dksX3_update_2 0 rfl rfl)
theorem dX3_update_47 : decode cX3_update 47 = .ok (.putfield 7, 3) := dk_181 0 7 (dk_at dksX3_update_2 1 rfl rfl)
theorem dX3_update_50 : decode cX3_update 50 = .ok (.aload_n 0, 1) := dk_42 (dk_at dksX3_update_2 4 rfl rfl)
theorem dX3_update_51 : decode cX3_update 51 = .ok (.dup, 1) := dk_89 (dk_at dksX3_update_2 5 rfl rfl)
theorem dX3_update_52 : decode cX3_update 52 = .ok (.getfield 13, 3) := dk_180 0 13 (dk_at dksX3_update_2 6 rfl rfl)
theorem dX3_update_55 : decode cX3_update 55 = .ok (.ldc2_w 16, 3) := dk_20 0 16 (dk_at dksX3_update_2 9 rfl rfl)
theorem dX3_update_58 : decode cX3_update 58 = .ok (.lrem, 1) := dk_113 (dk_at dksX3_update_2 12 rfl rfl)
theorem dX3_update_59 : decode cX3_update 59 = .ok (.putfield 13, 3) := dk_181 0 13 (dk_at dksX3_update_2 13 rfl rfl)
theorem dX3_update_62 : decode cX3_update 62 = .ok (.return_, 1) := dk_177 (dk_at dksX3_update_2 16 rfl rfl)
theorem dX3_update_63 : decode cX3_update 63 = .ok (.iload_n 3, 1) := dk_29 (dk_at dksX3_update_2 17 rfl rfl)
theorem dX3_update_64 : decode cX3_update 64 = .ok (.sipush 5552, 3) := dk_17 21 176 (dk_at dksX3_update_2 18 rfl rfl)
theorem dX3_update_67 : decode cX3_update 67 = .ok (.idiv, 1) := dk_108 (dk_at dksX3_update_2 21 rfl rfl)
theorem dX3_update_68 : decode cX3_update 68 = .ok (.istore 4, 2) := dk_54 4 (dk_at dksX3_update_2 22 rfl rfl)
theorem dX3_update_70 : decode cX3_update 70 = .ok (.iload_n 3, 1) := dk_29 (dk_at dksX3_update_3 0 rfl rfl)
theorem dX3_update_71 : decode cX3_update 71 = .ok (.sipush 5552, 3) := dk_17 21 176 (dk_at dksX3_update_3 1 rfl rfl)
theorem dX3_update_74 : decode cX3_update 74 = .ok (.irem, 1) := dk_112 (dk_at dksX3_update_3 4 rfl rfl)
theorem dX3_update_75 : decode cX3_update 75 = .ok (.istore 5, 2) := dk_54 5 (dk_at dksX3_update_3 5 rfl rfl)
theorem dX3_update_77 : decode cX3_update 77 = .ok (.iload 4, 2) := dk_21 4 (dk_at dksX3_update_3 7 rfl rfl)
theorem dX3_update_79 : decode cX3_update 79 = .ok (.iinc 4 (-1), 3) := dk_132 4 255 (dk_at dksX3_update_3 9 rfl rfl)
theorem dX3_update_82 : decode cX3_update 82 = .ok (.ifCond .le 84, 3) := dk_158 0 84 (dk_at dksX3_update_3 12 rfl rfl)
theorem dX3_update_85 : decode cX3_update 85 = .ok (.sipush 5552, 3) := dk_17 21 176 (dk_at dksX3_update_3 15 rfl rfl)
theorem dX3_update_88 : decode cX3_update 88 = .ok (.istore 6, 2) := dk_54 6 (dk_at dksX3_update_3 18 rfl rfl)
theorem dX3_update_90 : decode cX3_update 90 = .ok (.iload_n 3, 1) := dk_29 (dk_at dksX3_update_3 20 rfl rfl)
theorem dX3_update_91 : decode cX3_update 91 = .ok (.iload 6, 2) := dk_21 6 (dk_at dksX3_update_3 21 rfl rfl)
theorem dX3_update_93 : decode cX3_update 93 = .ok (.isub, 1) := dk_100 (dk_at dksX3_update_3 23 rfl rfl)
theorem dX3_update_94 : decode cX3_update 94 = .ok (.istore_n 3, 1) := dk_62 (dk_at dksX3_update_4 0 rfl rfl)
theorem dX3_update_95 : decode cX3_update 95 = .ok (.iload 6, 2) := dk_21 6 (dk_at dksX3_update_4 1 rfl rfl)
theorem dX3_update_97 : decode cX3_update 97 = .ok (.iinc 6 (-1), 3) := dk_132 6 255 (dk_at dksX3_update_4 3 rfl rfl)
theorem dX3_update_100 : decode cX3_update 100 = .ok (.ifCond .le 39, 3) := dk_158 0 39 (dk_at dksX3_update_4 6 rfl rfl)
theorem dX3_update_103 : decode cX3_update 103 = .ok (.aload_n 0, 1) := dk_42 (dk_at dksX3_update_4 9 rfl rfl)
theorem dX3_update_104 : decode cX3_update 104 = .ok (.dup, 1) := dk_89 (dk_at dksX3_update_4 10 rfl rfl)
theorem dX3_update_105 : decode cX3_update 105 = .ok (.getfield 7, 3) := dk_180 0 7 (dk_at dksX3_update_4 11 rfl rfl)
theorem dX3_update_108 : decode cX3_update 108 = .ok (.aload_n 1, 1) := dk_43 (dk_at dksX3_update_4 14 rfl rfl)
theorem dX3_update_109 : decode cX3_update 109 = .ok (.iload_n 2, 1) := dk_28 (dk_at dksX3_update_4 15 rfl rfl)
theorem dX3_update_110 : decode cX3_update 110 = .ok (.iinc 2 1, 3) := dk_132 2 1 (dk_at dksX3_update_4 16 rfl rfl)
theorem dX3_update_113 : decode cX3_update 113 = .ok (.baload, 1) := dk_51 (dk_at dksX3_update_4 19 rfl rfl)
theorem dX3_update_114 : decode cX3_update 114 = .ok (.sipush 255, 3) := dk_17 0 255 (dk_at dksX3_update_4 20 rfl rfl)
theorem dX3_update_117 : decode cX3_update 117 = .ok (.iand, 1) := dk_126 (dk_at dksX3_update_4 23 rfl rfl)
theorem dX3_update_118 : decode cX3_update 118 = .ok (.i2l, 1) := dk_133 (dk_at dksX3_update_5 0 rfl rfl)
theorem dX3_update_119 : decode cX3_update 119 = .ok (.ladd, 1) := dk_97 (dk_at dksX3_update_5 1 rfl rfl)
theorem dX3_update_120 : decode cX3_update 120 = .ok (.putfield 7, 3) := dk_181 0 7 (dk_at dksX3_update_5 2 rfl rfl)
theorem dX3_update_123 : decode cX3_update 123 = .ok (.aload_n 0, 1) := dk_42 (dk_at dksX3_update_5 5 rfl rfl)
theorem dX3_update_124 : decode cX3_update 124 = .ok (.dup, 1) := dk_89 (dk_at dksX3_update_5 6 rfl rfl)
theorem dX3_update_125 : decode cX3_update 125 = .ok (.getfield 13, 3) := dk_180 0 13 (dk_at dksX3_update_5 7 rfl rfl)
theorem dX3_update_128 : decode cX3_update 128 = .ok (.aload_n 0, 1) := dk_42 (dk_at dksX3_update_5 10 rfl rfl)
theorem dX3_update_129 : decode cX3_update 129 = .ok (.getfield 7, 3) := dk_180 0 7 (dk_at dksX3_update_5 11 rfl rfl)
theorem dX3_update_132 : decode cX3_update 132 = .ok (.ladd, 1) := dk_97 (dk_at dksX3_update_5 14 rfl rfl)
theorem dX3_update_133 : decode cX3_update 133 = .ok (.putfield 13, 3) := dk_181 0 13 (dk_at dksX3_update_5 15 rfl rfl)
theorem dX3_update_136 : decode cX3_update 136 = .ok (.goto (-41), 3) := dk_167 255 215 (dk_at dksX3_update_5 18 rfl rfl)
theorem dX3_update_139 : decode cX3_update 139 = .ok (.aload_n 0, 1) := dk_42 (dk_at dksX3_update_5 21 rfl rfl)
theorem dX3_update_140 : decode cX3_update 140 = .ok (.dup, 1) := dk_89 (dk_at dksX3_update_5 22 rfl rfl)
theorem dX3_update_141 : decode cX3_update 141 = .ok (.getfield 7, 3) := dk_180 0 7 (dk_at dksX3_update_6 0 rfl rfl)
theorem dX3_update_144 : decode cX3_update 144 = .ok (.ldc2_w 16, 3) := dk_20 0 16 (dk_at dksX3_update_6 3 rfl rfl)
theorem dX3_update_147 : decode cX3_update 147 = .ok (.lrem, 1) := dk_113 (dk_at dksX3_update_6 6 rfl rfl)
theorem dX3_update_148 : decode cX3_update 148 = .ok (.putfield 7, 3) := dk_181 0 7 (dk_at dksX3_update_6 7 rfl rfl)
theorem dX3_update_151 : decode cX3_update 151 = .ok (.aload_n 0, 1) := dk_42 (dk_at dksX3_update_6 10 rfl rfl)
theorem dX3_update_152 : decode cX3_update 152 = .ok (.dup, 1) := dk_89 (dk_at dksX3_update_6 11 rfl rfl)
theorem dX3_update_153 : decode cX3_update 153 = .ok (.getfield 13, 3) := dk_180 0 13 (dk_at dksX3_update_6 12 rfl rfl)
theorem dX3_update_156 : decode cX3_update 156 = .ok (.ldc2_w 16, 3) := dk_20 0 16 (dk_at dksX3_update_6 15 rfl rfl)
theorem dX3_update_159 : decode cX3_update 159 = .ok (.lrem, 1) := dk_113 (dk_at dksX3_update_6 18 rfl rfl)
theorem dX3_update_160 : decode cX3_update 160 = .ok (.putfield 13, 3) := dk_181 0 13 (dk_at dksX3_update_6 19 rfl rfl)
theorem dX3_update_163 : decode cX3_update 163 = .ok (.goto (-86), 3) := dk_167 255 170 (dk_at dksX3_update_7 0 rfl rfl)
theorem dX3_update_166 : decode cX3_update 166 = .ok (.iload 5, 2) := dk_21 5 (dk_at dksX3_update_7 3 rfl rfl)
theorem dX3_update_168 : decode cX3_update 168 = .ok (.istore 6, 2) := dk_54 6 (dk_at dksX3_update_7 5 rfl rfl)
theorem dX3_update_170 : decode cX3_update 170 = .ok (.iload_n 3, 1) := dk_29 (dk_at dksX3_update_7 7 rfl rfl)
theorem dX3_update_171 : decode cX3_update 171 = .ok (.iload 6, 2) := dk_21 6 (dk_at dksX3_update_7 8 rfl rfl)
theorem dX3_update_173 : decode cX3_update 173 = .ok (.isub, 1) := dk_100 (dk_at dksX3_update_7 10 rfl rfl)
theorem dX3_update_174 : decode cX3_update 174 = .ok (.istore_n 3, 1) := dk_62 (dk_at dksX3_update_7 11 rfl rfl)
theorem dX3_update_175 : decode cX3_update 175 = .ok (.iload 6, 2) := dk_21 6 (dk_at dksX3_update_7 12 rfl rfl)
theorem dX3_update_177 : decode cX3_update 177 = .ok (.iinc 6 (-1), 3) := dk_132 6 255 (dk_at dksX3_update_7 14 rfl rfl)
theorem dX3_update_180 : decode cX3_update 180 = .ok (.ifCond .le 39, 3) := dk_158 0 39 (dk_at dksX3_update_7 17 rfl rfl)
theorem dX3_update_183 : decode cX3_update 183 = .ok (.aload_n 0, 1) := dk_42 (dk_at dksX3_update_7 20 rfl rfl)
theorem dX3_update_184 : decode cX3_update 184 = .ok (.dup, 1) := dk_89 (dk_at dksX3_update_7 21 rfl rfl)
theorem dX3_update_185 : decode cX3_update 185 = .ok (.getfield 7, 3) := dk_180 0 7 (dk_at dksX3_update_8 0 rfl rfl)
theorem dX3_update_188 : decode cX3_update 188 = .ok (.aload_n 1, 1) := dk_43 (dk_at dksX3_update_8 3 rfl rfl)
theorem dX3_update_189 : decode cX3_update 189 = .ok (.iload_n 2, 1) := dk_28 (dk_at dksX3_update_8 4 rfl rfl)
theorem dX3_update_190 : decode cX3_update 190 = .ok (.iinc 2 1, 3) := dk_132 2 1 (dk_at dksX3_update_8 5 rfl rfl)
theorem dX3_update_193 : decode cX3_update 193 = .ok (.baload, 1) := dk_51 (dk_at dksX3_update_8 8 rfl rfl)
theorem dX3_update_194 : decode cX3_update 194 = .ok (.sipush 255, 3) := dk_17 0 255 (dk_at dksX3_update_8 9 rfl rfl)
theorem dX3_update_197 : decode cX3_update 197 = .ok (.iand, 1) := dk_126 (dk_at dksX3_update_8 12 rfl rfl)
theorem dX3_update_198 : decode cX3_update 198 = .ok (.i2l, 1) := dk_133 (dk_at dksX3_update_8 13 rfl rfl)
theorem dX3_update_199 : decode cX3_update 199 = .ok (.ladd, 1) := dk_97 (dk_at dksX3_update_8 14 rfl rfl)
theorem dX3_update_200 : decode cX3_update 200 = .ok (.putfield 7, 3) := dk_181 0 7 (dk_at dksX3_update_8 15 rfl rfl)
theorem dX3_update_203 : decode cX3_update 203 = .ok (.aload_n 0, 1) := dk_42 (dk_at dksX3_update_8 18 rfl rfl)
theorem dX3_update_204 : decode cX3_update 204 = .ok (.dup, 1) := dk_89 (dk_at dksX3_update_8 19 rfl rfl)
theorem dX3_update_205 : decode cX3_update 205 = .ok (.getfield 13, 3) := dk_180 0 13 (dk_at dksX3_update_8 20 rfl rfl)
theorem dX3_update_208 : decode cX3_update 208 = .ok (.aload_n 0, 1) := dk_42 (dk_at dksX3_update_8 23 rfl rfl)
theorem dX3_update_209 : decode cX3_update 209 = .ok (.getfield 7, 3) := dk_180 0 7 (dk_at dksX3_update_9 0 rfl rfl)
theorem dX3_update_212 : decode cX3_update 212 = .ok (.ladd, 1) := dk_97 (dk_at dksX3_update_9 3 rfl rfl)
theorem dX3_update_213 : decode cX3_update 213 = .ok (.putfield 13, 3) := dk_181 0 13 (dk_at dksX3_update_9 4 rfl rfl)
theorem dX3_update_216 : decode cX3_update 216 = .ok (.goto (-41), 3) := dk_167 255 215 (dk_at dksX3_update_9 7 rfl rfl)
theorem dX3_update_219 : decode cX3_update 219 = .ok (.aload_n 0, 1) := dk_42 (dk_at dksX3_update_9 10 rfl rfl)
theorem dX3_update_220 : decode cX3_update 220 = .ok (.dup, 1) := dk_89 (dk_at dksX3_update_9 11 rfl rfl)
theorem dX3_update_221 : decode cX3_update 221 = .ok (.getfield 7, 3) := dk_180 0 7 (dk_at dksX3_update_9 12 rfl rfl)
theorem dX3_update_224 : decode cX3_update 224 = .ok (.ldc2_w 16, 3) := dk_20 0 16 (dk_at dksX3_update_9 15 rfl rfl)
theorem dX3_update_227 : decode cX3_update 227 = .ok (.lrem, 1) := dk_113 (dk_at dksX3_update_9 18 rfl rfl)
theorem dX3_update_228 : decode cX3_update 228 = .ok (.putfield 7, 3) := dk_181 0 7 (dk_at dksX3_update_9 19 rfl rfl)
theorem dX3_update_231 : decode cX3_update 231 = .ok (.aload_n 0, 1) := dk_42 (dk_at dksX3_update_9 22 rfl rfl)
theorem dX3_update_232 : decode cX3_update 232 = .ok (.dup, 1) := dk_89 (dk_at dksX3_update_9 23 rfl rfl)
theorem dX3_update_233 : decode cX3_update 233 = .ok (.getfield 13, 3) := dk_180 0 13 (dk_at dksX3_update_10 0 rfl rfl)
theorem dX3_update_236 : decode cX3_update 236 = .ok (.ldc2_w 16, 3) := dk_20 0 16 (dk_at dksX3_update_10 3 rfl rfl)
theorem dX3_update_239 : decode cX3_update 239 = .ok (.lrem, 1) := dk_113 (dk_at dksX3_update_10 6 rfl rfl)
theorem dX3_update_240 : decode cX3_update 240 = .ok (.putfield 13, 3) := dk_181 0 13 (dk_at dksX3_update_10 7 rfl rfl)
theorem dX3_update_243 : decode cX3_update 243 = .ok (.return_, 1) := dk_177 (dk_at dksX3_update_10 10 rfl rfl)
abbrev cX3_getValue : ByteArray := prog_1_method_2_code
def yX3_getValue : MethodName := ⟨RX3, "getValue", "()J"⟩
def dkwX3_getValue_0 : List UInt8 := [42, 180, 0, 13, 16, 16, 121, 42, 180, 0, 7, 129, 173]
abbrev dktX3_getValue_0 : List UInt8 := dkwX3_getValue_0 ++ []
theorem dksX3_getValue_0 : cX3_getValue.data.toList.drop 0 = dktX3_getValue_0 := by decide +kernel
theorem dX3_getValue_0 : decode cX3_getValue 0 = .ok (.aload_n 0, 1) := dk_42 (dk_at dksX3_getValue_0 0 rfl rfl)
theorem dX3_getValue_1 : decode cX3_getValue 1 = .ok (.getfield 13, 3) := dk_180 0 13 (dk_at dksX3_getValue_0 1 rfl rfl)
theorem dX3_getValue_4 : decode cX3_getValue 4 = .ok (.bipush 16, 2) := dk_16 16 (dk_at dksX3_getValue_0 4 rfl rfl)
theorem dX3_getValue_6 : decode cX3_getValue 6 = .ok (.lshl, 1) := dk_121 (dk_at dksX3_getValue_0 6 rfl rfl)
theorem dX3_getValue_7 : decode cX3_getValue 7 = .ok (.aload_n 0, 1) := dk_42 (dk_at dksX3_getValue_0 7 rfl rfl)
theorem dX3_getValue_8 : decode cX3_getValue 8 = .ok (.getfield 7, 3) := dk_180 0 7 (dk_at dksX3_getValue_0 8 rfl rfl)
theorem dX3_getValue_11 : decode cX3_getValue 11 = .ok (.lor, 1) := dk_129 (dk_at dksX3_getValue_0 11 rfl rfl)
theorem dX3_getValue_12 : decode cX3_getValue 12 = .ok (.lreturn, 1) := dk_173 (dk_at dksX3_getValue_0 12 rfl rfl)
abbrev cX3_combine : ByteArray := prog_1_method_4_code
def yX3_combine : MethodName := ⟨RX3, "combine", "(JJJ)J"⟩
def dkwX3_combine_6 : List UInt8 := [16, 16, 121, 129, 173]
abbrev dktX3_combine_6 : List UInt8 := dkwX3_combine_6 ++ []
def dkwX3_combine_5 : List UInt8 := [4, 121, 101, 55, 10, 22, 10, 22, 6, 148, 155, 0, 10, 22, 10, 22, 6, 101, 55, 10, 22, 8, 22, 10]
abbrev dktX3_combine_5 : List UInt8 := dkwX3_combine_5 ++ dktX3_combine_6
def dkwX3_combine_4 : List UInt8 := [155, 0, 10, 22, 8, 22, 6, 101, 55, 8, 22, 10, 22, 6, 4, 121, 148, 155, 0, 12, 22, 10, 22, 6]
abbrev dktX3_combine_4 : List UInt8 := dkwX3_combine_4 ++ dktX3_combine_5
def dkwX3_combine_3 : List UInt8 := [101, 97, 55, 10, 22, 8, 22, 6, 148, 155, 0, 10, 22, 8, 22, 6, 101, 55, 8, 22, 8, 22, 6, 148]
abbrev dktX3_combine_3 : List UInt8 := dkwX3_combine_3 ++ dktX3_combine_4
def dkwX3_combine_2 : List UInt8 := [22, 10, 30, 16, 16, 123, 20, 0, 18, 127, 32, 16, 16, 123, 20, 0, 18, 127, 97, 22, 6, 97, 22, 12]
abbrev dktX3_combine_2 : List UInt8 := dkwX3_combine_2 ++ dktX3_combine_3
def dkwX3_combine_1 : List UInt8 := [55, 10, 22, 10, 22, 6, 113, 55, 10, 22, 8, 32, 20, 0, 18, 127, 22, 6, 97, 10, 101, 97, 55, 8]
abbrev dktX3_combine_1 : List UInt8 := dkwX3_combine_1 ++ dktX3_combine_2
def dkwX3_combine_0 : List UInt8 := [20, 0, 16, 55, 6, 22, 4, 22, 6, 113, 55, 12, 30, 20, 0, 18, 127, 55, 8, 22, 12, 22, 8, 105]
abbrev dktX3_combine_0 : List UInt8 := dkwX3_combine_0 ++ dktX3_combine_1
theorem dksX3_combine_0 : cX3_combine.data.toList.drop 0 = dktX3_combine_0 := by decide +kernel
theorem dksX3_combine_1 : cX3_combine.data.toList.drop 24 = dktX3_combine_1 := dk_seg dksX3_combine_0 24 rfl rfl
theorem dksX3_combine_2 : cX3_combine.data.toList.drop 48 = dktX3_combine_2 := dk_seg dksX3_combine_1 24 rfl rfl
theorem dksX3_combine_3 : cX3_combine.data.toList.drop 72 = dktX3_combine_3 := dk_seg dksX3_combine_2 24 rfl rfl
theorem dksX3_combine_4 : cX3_combine.data.toList.drop 96 = dktX3_combine_4 := dk_seg dksX3_combine_3 24 rfl rfl
theorem dksX3_combine_5 : cX3_combine.data.toList.drop 120 = dktX3_combine_5 := dk_seg dksX3_combine_4 24 rfl rfl
theorem dksX3_combine_6 : cX3_combine.data.toList.drop 144 = dktX3_combine_6 := dk_seg dksX3_combine_5 24 rfl rfl
theorem dX3_combine_0 : decode cX3_combine 0 = .ok (.ldc2_w 16, 3) := dk_20 0 16 (dk_at dksX3_combine_0 0 rfl rfl)
theorem dX3_combine_3 : decode cX3_combine 3 = .ok (.lstore 6, 2) := dk_55 6 (dk_at dksX3_combine_0 3 rfl rfl)
theorem dX3_combine_5 : decode cX3_combine 5 = .ok (.lload 4, 2) := dk_22 4 (dk_at dksX3_combine_0 5 rfl rfl)
theorem dX3_combine_7 : decode cX3_combine 7 = .ok (.lload 6, 2) := dk_22 6 (dk_at dksX3_combine_0 7 rfl rfl)
theorem dX3_combine_9 : decode cX3_combine 9 = .ok (.lrem, 1) := dk_113 (dk_at dksX3_combine_0 9 rfl rfl)
theorem dX3_combine_10 : decode cX3_combine 10 = .ok (.lstore 12, 2) := dk_55 12 (dk_at dksX3_combine_0 10 rfl rfl)
theorem dX3_combine_12 : decode cX3_combine 12 = .ok (.lload_n 0, 1) := dk_30 (dk_at dksX3_combine_0 12 rfl rfl)
theorem dX3_combine_13 : decode cX3_combine 13 = .ok (.ldc2_w 18, 3) := dk_20 0 18 (dk_at dksX3_combine_0 13 rfl rfl)
theorem dX3_combine_16 : decode cX3_combine 16 = .ok (.land, 1) := dk_127 (dk_at dksX3_combine_0 16 rfl rfl)
theorem dX3_combine_17 : decode cX3_combine 17 = .ok (.lstore 8, 2) := dk_55 8 (dk_at dksX3_combine_0 17 rfl rfl)
theorem dX3_combine_19 : decode cX3_combine 19 = .ok (.lload 12, 2) := dk_22 12 (dk_at dksX3_combine_0 19 rfl rfl)
theorem dX3_combine_21 : decode cX3_combine 21 = .ok (.lload 8, 2) := dk_22 8 (dk_at dksX3_combine_0 21 rfl rfl)
theorem dX3_combine_23 : decode cX3_combine 23 = .ok (.lmul, 1) := dk_105 (dk_at dksX3_combine_0 23 rfl rfl)
theorem dX3_combine_24 : decode cX3_combine 24 = .ok (.lstore 10, 2) := dk_55 10 (dk_at dksX3_combine_1 0 rfl rfl)
theorem dX3_combine_26 : decode cX3_combine 26 = .ok (.lload 10, 2) := dk_22 10 (dk_at dksX3_combine_1 2 rfl rfl)
theorem dX3_combine_28 : decode cX3_combine 28 = .ok (.lload 6, 2) := dk_22 6 (dk_at dksX3_combine_1 4 rfl rfl)
theorem dX3_combine_30 : decode cX3_combine 30 = .ok (.lrem, 1) := dk_113 (dk_at dksX3_combine_1 6 rfl rfl)
theorem dX3_combine_31 : decode cX3_combine 31 = .ok (.lstore 10, 2) := dk_55 10 (dk_at dksX3_combine_1 7 rfl rfl)
theorem dX3_combine_33 : decode cX3_combine 33 = .ok (.lload 8, 2) := dk_22 8 (dk_at dksX3_combine_1 9 rfl rfl)
theorem dX3_combine_35 : decode cX3_combine 35 = .ok (.lload_n 2, 1) := dk_32 (dk_at dksX3_combine_1 11 rfl rfl)
theorem dX3_combine_36 : decode cX3_combine 36 = .ok (.ldc2_w 18, 3) := dk_20 0 18 (dk_at dksX3_combine_1 12 rfl rfl)
theorem dX3_combine_39 : decode cX3_combine 39 = .ok (.land, 1) := dk_127 (dk_at dksX3_combine_1 15 rfl rfl)
theorem dX3_combine_40 : decode cX3_combine 40 = .ok (.lload 6, 2) := dk_22 6 (dk_at dksX3_combine_1 16 rfl rfl)
theorem dX3_combine_42 : decode cX3_combine 42 = .ok (.ladd, 1) := dk_97 (dk_at dksX3_combine_1 18 rfl rfl)
theorem dX3_combine_43 : decode cX3_combine 43 = .ok (.lconst 1, 1) := dk_10 (dk_at dksX3_combine_1 19 rfl rfl)
theorem dX3_combine_44 : decode cX3_combine 44 = .ok (.lsub, 1) := dk_101 (dk_at dksX3_combine_1 20 rfl rfl)
theorem dX3_combine_45 : decode cX3_combine 45 = .ok (.ladd, 1) := dk_97 (dk_at dksX3_combine_1 21 rfl rfl)
theorem dX3_combine_46 : decode cX3_combine 46 = .ok (.lstore 8, 2) := dk_55 8 (dk_at dksX3_combine_1 22 rfl rfl)
theorem dX3_combine_48 : decode cX3_combine 48 = .ok (.lload 10, 2) := dk_22 10 (dk_at dksX3_combine_2 0 rfl rfl)
theorem dX3_combine_50 : decode cX3_combine 50 = .ok (.lload_n 0, 1) := dk_30 (dk_at dksX3_combine_2 2 rfl rfl)
theorem dX3_combine_51 : decode cX3_combine 51 = .ok (.bipush 16, 2) := dk_16 16 (dk_at dksX3_combine_2 3 rfl rfl)
theorem dX3_combine_53 : decode cX3_combine 53 = .ok (.lshr, 1) := dk_123 (dk_at dksX3_combine_2 5 rfl rfl)
theorem dX3_combine_54 : decode cX3_combine 54 = .ok (.ldc2_w 18, 3) := dk_20 0 18 (dk_at dksX3_combine_2 6 rfl rfl)
theorem dX3_combine_57 : decode cX3_combine 57 = .ok (.land, 1) := dk_127 (dk_at dksX3_combine_2 9 rfl rfl)
theorem dX3_combine_58 : decode cX3_combine 58 = .ok (.lload_n 2, 1) := dk_32 (dk_at dksX3_combine_2 10 rfl rfl)
theorem dX3_combine_59 : decode cX3_combine 59 = .ok (.bipush 16, 2) := dk_16 16 (dk_at dksX3_combine_2 11 rfl rfl)
theorem dX3_combine_61 : decode cX3_combine 61 = .ok (.lshr, 1) := dk_123 (dk_at dksX3_combine_2 13 rfl rfl)
theorem dX3_combine_62 : decode cX3_combine 62 = .ok (.ldc2_w 18, 3) := dk_20 0 18 (dk_at dksX3_combine_2 14 rfl rfl)
theorem dX3_combine_65 : decode cX3_combine 65 = .ok (.land, 1) := dk_127 (dk_at dksX3_combine_2 17 rfl rfl)
theorem dX3_combine_66 : decode cX3_combine 66 = .ok (.ladd, 1) := dk_97 (dk_at dksX3_combine_2 18 rfl rfl)
theorem dX3_combine_67 : decode cX3_combine 67 = .ok (.lload 6, 2) := dk_22 6 (dk_at dksX3_combine_2 19 rfl rfl)
theorem dX3_combine_69 : decode cX3_combine 69 = .ok (.ladd, 1) := dk_97 (dk_at dksX3_combine_2 21 rfl rfl)
theorem dX3_combine_70 : decode cX3_combine 70 = .ok (.lload 12, 2) := dk_22 12 (dk_at dksX3_combine_2 22 rfl rfl)
theorem dX3_combine_72 : decode cX3_combine 72 = .ok (.lsub, 1) := dk_101 (dk_at dksX3_combine_3 0 rfl rfl)
theorem dX3_combine_73 : decode cX3_combine 73 = .ok (.ladd, 1) := dk_97 (dk_at dksX3_combine_3 1 rfl rfl)
theorem dX3_combine_74 : decode cX3_combine 74 = .ok (.lstore 10, 2) := dk_55 10 (dk_at dksX3_combine_3 2 rfl rfl)
theorem dX3_combine_76 : decode cX3_combine 76 = .ok (.lload 8, 2) := dk_22 8 (dk_at dksX3_combine_3 4 rfl rfl)
theorem dX3_combine_78 : decode cX3_combine 78 = .ok (.lload 6, 2) := dk_22 6 (dk_at dksX3_combine_3 6 rfl rfl)
theorem dX3_combine_80 : decode cX3_combine 80 = .ok (.lcmp, 1) := dk_148 (dk_at dksX3_combine_3 8 rfl rfl)
theorem dX3_combine_81 : decode cX3_combine 81 = .ok (.ifCond .lt 10, 3) := dk_155 0 10 (dk_at dksX3_combine_3 9 rfl rfl)
theorem dX3_combine_84 : decode cX3_combine 84 = .ok (.lload 8, 2) := dk_22 8 (dk_at dksX3_combine_3 12 rfl rfl)
theorem dX3_combine_86 : decode cX3_combine 86 = .ok (.lload 6, 2) := dk_22 6 (dk_at dksX3_combine_3 14 rfl rfl)
theorem dX3_combine_88 : decode cX3_combine 88 = .ok (.lsub, 1) := dk_101 (dk_at dksX3_combine_3 16 rfl rfl)
theorem dX3_combine_89 : decode cX3_combine 89 = .ok (.lstore 8, 2) := dk_55 8 (dk_at dksX3_combine_3 17 rfl rfl)
theorem dX3_combine_91 : decode cX3_combine 91 = .ok (.lload 8, 2) := dk_22 8 (dk_at dksX3_combine_3 19 rfl rfl)
theorem dX3_combine_93 : decode cX3_combine 93 = .ok (.lload 6, 2) := dk_22 6 (dk_at dksX3_combine_3 21 rfl rfl)
theorem dX3_combine_95 : decode cX3_combine 95 = .ok (.lcmp, 1) := dk_148 (dk_at dksX3_combine_3 23 rfl rfl)
theorem dX3_combine_96 : decode cX3_combine 96 = .ok (.ifCond .lt 10, 3) := dk_155 0 10 (dk_at dksX3_combine_4 0 rfl rfl)
theorem dX3_combine_99 : decode cX3_combine 99 = .ok (.lload 8, 2) := dk_22 8 (dk_at dksX3_combine_4 3 rfl rfl)
theorem dX3_combine_101 : decode cX3_combine 101 = .ok (.lload 6, 2) := dk_22 6 (dk_at dksX3_combine_4 5 rfl rfl)
theorem dX3_combine_103 : decode cX3_combine 103 = .ok (.lsub, 1) := dk_101 (dk_at dksX3_combine_4 7 rfl rfl)
theorem dX3_combine_104 : decode cX3_combine 104 = .ok (.lstore 8, 2) := dk_55 8 (dk_at dksX3_combine_4 8 rfl rfl)
theorem dX3_combine_106 : decode cX3_combine 106 = .ok (.lload 10, 2) := dk_22 10 (dk_at dksX3_combine_4 10 rfl rfl)
theorem dX3_combine_108 : decode cX3_combine 108 = .ok (.lload 6, 2) := dk_22 6 (dk_at dksX3_combine_4 12 rfl rfl)
theorem dX3_combine_110 : decode cX3_combine 110 = .ok (.iconst 1, 1) := dk_4 (dk_at dksX3_combine_4 14 rfl rfl)
theorem dX3_combine_111 : decode cX3_combine 111 = .ok (.lshl, 1) := dk_121 (dk_at dksX3_combine_4 15 rfl rfl)
theorem dX3_combine_112 : decode cX3_combine 112 = .ok (.lcmp, 1) := dk_148 (dk_at dksX3_combine_4 16 rfl rfl)
theorem dX3_combine_113 : decode cX3_combine 113 = .ok (.ifCond .lt 12, 3) := dk_155 0 12 (dk_at dksX3_combine_4 17 rfl rfl)
theorem dX3_combine_116 : decode cX3_combine 116 = .ok (.lload 10, 2) := dk_22 10 (dk_at dksX3_combine_4 20 rfl rfl)
theorem dX3_combine_118 : decode cX3_combine 118 = .ok (.lload 6, 2) := dk_22 6 (dk_at dksX3_combine_4 22 rfl rfl)
theorem dX3_combine_120 : decode cX3_combine 120 = .ok (.iconst 1, 1) := dk_4 (dk_at dksX3_combine_5 0 rfl rfl)
theorem dX3_combine_121 : decode cX3_combine 121 = .ok (.lshl, 1) := dk_121 (dk_at dksX3_combine_5 1 rfl rfl)
theorem dX3_combine_122 : decode cX3_combine 122 = .ok (.lsub, 1) := dk_101 (dk_at dksX3_combine_5 2 rfl rfl)
theorem dX3_combine_123 : decode cX3_combine 123 = .ok (.lstore 10, 2) := dk_55 10 (dk_at dksX3_combine_5 3 rfl rfl)
theorem dX3_combine_125 : decode cX3_combine 125 = .ok (.lload 10, 2) := dk_22 10 (dk_at dksX3_combine_5 5 rfl rfl)
theorem dX3_combine_127 : decode cX3_combine 127 = .ok (.lload 6, 2) := dk_22 6 (dk_at dksX3_combine_5 7 rfl rfl)
theorem dX3_combine_129 : decode cX3_combine 129 = .ok (.lcmp, 1) := dk_148 (dk_at dksX3_combine_5 9 rfl rfl)
theorem dX3_combine_130 : decode cX3_combine 130 = .ok (.ifCond .lt 10, 3) := dk_155 0 10 (dk_at dksX3_combine_5 10 rfl rfl)
theorem dX3_combine_133 : decode cX3_combine 133 = .ok (.lload 10, 2) := dk_22 10 (dk_at dksX3_combine_5 13 rfl rfl)
theorem dX3_combine_135 : decode cX3_combine 135 = .ok (.lload 6, 2) := dk_22 6 (dk_at dksX3_combine_5 15 rfl rfl)
theorem dX3_combine_137 : decode cX3_combine 137 = .ok (.lsub, 1) := dk_101 (dk_at dksX3_combine_5 17 rfl rfl)
theorem dX3_combine_138 : decode cX3_combine 138 = .ok (.lstore 10, 2) := dk_55 10 (dk_at dksX3_combine_5 18 rfl rfl)
theorem dX3_combine_140 : decode cX3_combine 140 = .ok (.lload 8, 2) := dk_22 8 (dk_at dksX3_combine_5 20 rfl rfl)
theorem dX3_combine_142 : decode cX3_combine 142 = .ok (.lload 10, 2) := dk_22 10 (dk_at dksX3_combine_5 22 rfl rfl)
theorem dX3_combine_144 : decode cX3_combine 144 = .ok (.bipush 16, 2) := dk_16 16 (dk_at dksX3_combine_6 0 rfl rfl)
theorem dX3_combine_146 : decode cX3_combine 146 = .ok (.lshl, 1) := dk_121 (dk_at dksX3_combine_6 2 rfl rfl)
theorem dX3_combine_147 : decode cX3_combine 147 = .ok (.lor, 1) := dk_129 (dk_at dksX3_combine_6 3 rfl rfl)
theorem dX3_combine_148 : decode cX3_combine 148 = .ok (.lreturn, 1) := dk_173 (dk_at dksX3_combine_6 4 rfl rfl)
theorem q6 : (Jvm.Cond.initialized "Adler32") ∈ lw_all := lw_g (lw_at lw_m0 3 rfl) rfl
theorem q67 : (Jvm.Cond.instantiable "Adler32" (2 : Nat)) ∈ lw_all := lw_g (lw_at lw_m0 64 rfl) rfl
theorem q69 : (Jvm.Cond.instanceMethod ({ cls := "Adler32", name := "<init>", desc := "()V" } : Jvm.MethodName)) ∈ lw_all := lw_g (lw_at lw_m0 66 rfl) rfl
theorem q70 : (Jvm.Cond.code ({ cls := "Adler32", name := "<init>", desc := "()V" } : Jvm.MethodName) prog_1_method_1_code (1 : Nat) (Option.none : Option Jvm.ClassFile.FieldType)) ∈ lw_all := lw_g (lw_at lw_m0 67 rfl) rfl
theorem q71 : (Jvm.Cond.methodLink "Adler32" (1 : Nat) ({ cls := "java/lang/Object", name := "<init>", desc := "()V" } : Jvm.MethodName)) ∈ lw_all := lw_g (lw_at lw_m0 68 rfl) rfl
theorem q72 : (Jvm.Cond.fieldLink "Adler32" (7 : Nat) "Adler32" "s1" "J") ∈ lw_all := lw_g (lw_at lw_m0 69 rfl) rfl
theorem q73 : (Jvm.Cond.fieldLink "Adler32" (13 : Nat) "Adler32" "s2" "J") ∈ lw_all := lw_g (lw_at lw_m0 70 rfl) rfl
theorem q74 : (Jvm.Cond.lays "Adler32" "Adler32" "s1" "J") ∈ lw_all := lw_g (lw_at lw_m0 71 rfl) rfl
theorem q75 : (Jvm.Cond.soleField "Adler32" "s1") ∈ lw_all := lw_g (lw_at lw_m0 72 rfl) rfl
theorem q76 : (Jvm.Cond.lays "Adler32" "Adler32" "s2" "J") ∈ lw_all := lw_g (lw_at lw_m0 73 rfl) rfl
theorem q77 : (Jvm.Cond.soleField "Adler32" "s2") ∈ lw_all := lw_g (lw_at lw_m0 74 rfl) rfl
theorem q78 : (Jvm.Cond.superclass "Adler32" "java/lang/Object") ∈ lw_all := lw_g (lw_at lw_m0 75 rfl) rfl
theorem q80 : (Jvm.Cond.instanceMethod ({ cls := "Adler32", name := "update", desc := "([BII)V" } : Jvm.MethodName)) ∈ lw_all := lw_g (lw_at lw_m0 77 rfl) rfl
theorem q81 : (Jvm.Cond.selects "Adler32" ({ cls := "Adler32", name := "update", desc := "([BII)V" } : Jvm.MethodName) ({ cls := "Adler32", name := "update", desc := "([BII)V" } : Jvm.MethodName)) ∈ lw_all := lw_g (lw_at lw_m0 78 rfl) rfl
theorem q82 : (Jvm.Cond.code ({ cls := "Adler32", name := "update", desc := "([BII)V" } : Jvm.MethodName) prog_1_method_3_code (7 : Nat) (Option.none : Option Jvm.ClassFile.FieldType)) ∈ lw_all := lw_g (lw_at lw_m0 79 rfl) rfl
theorem q83 : (Jvm.Cond.constantLong "Adler32" (16 : Nat) (65521 : Int64)) ∈ lw_all := lw_g (lw_at lw_m0 80 rfl) rfl
theorem q85 : (Jvm.Cond.instanceMethod ({ cls := "Adler32", name := "getValue", desc := "()J" } : Jvm.MethodName)) ∈ lw_all := lw_g (lw_at lw_m0 82 rfl) rfl
theorem q86 : (Jvm.Cond.selects "Adler32" ({ cls := "Adler32", name := "getValue", desc := "()J" } : Jvm.MethodName) ({ cls := "Adler32", name := "getValue", desc := "()J" } : Jvm.MethodName)) ∈ lw_all := lw_g (lw_at lw_m0 83 rfl) rfl
theorem q87 : (Jvm.Cond.code ({ cls := "Adler32", name := "getValue", desc := "()J" } : Jvm.MethodName) prog_1_method_2_code (1 : Nat) (Option.some Jvm.ClassFile.FieldType.long)) ∈ lw_all := lw_g (lw_at lw_m0 84 rfl) rfl
theorem q118 : (Jvm.Cond.static ({ cls := "Adler32", name := "combine", desc := "(JJJ)J" } : Jvm.MethodName)) ∈ lw_all := lw_g (lw_at lw_m0 115 rfl) rfl
theorem q119 : (Jvm.Cond.code ({ cls := "Adler32", name := "combine", desc := "(JJJ)J" } : Jvm.MethodName) prog_1_method_4_code (14 : Nat) (Option.some Jvm.ClassFile.FieldType.long)) ∈ lw_all := lw_g (lw_at lw_m0 116 rfl) rfl
theorem q120 : (Jvm.Cond.constantLong "Adler32" (18 : Nat) (65535 : Int64)) ∈ lw_all := lw_g (lw_at lw_m0 117 rfl) rfl
theorem in_X3 : ∀ w ∈ wsX30, w ∈ lw_all := lw_in wsX30 [74, 76] (by decide +kernel) (by decide +kernel)
theorem q28 : (Jvm.Cond.arrayClass Jvm.ClassFile.FieldType.byte) ∈ lw_all := lw_g (lw_at lw_m0 25 rfl) rfl
set_option maxRecDepth 100000
theorem q149 : (Jvm.Cond.arrayClass Jvm.ClassFile.FieldType.long) ∈ lw_all := lw_g (lw_at lw_m0 146 rfl) rfl
theorem q160 : (Jvm.Cond.arrayOver (Jvm.ClassFile.FieldType.array Jvm.ClassFile.FieldType.int)) ∈ lw_tbl := lw_at lw_m0 157 rfl
theorem q168 : (Jvm.Cond.arrayClass Jvm.ClassFile.FieldType.int) ∈ lw_all := lw_g (lw_at lw_m0 165 rfl) rfl
end
section
/-! SumJoinLaw -/
set_option maxRecDepth 100000
def RX0 : String := "SumJoinLaw"
abbrev cX0_elder : ByteArray := method_5_code
def yX0_elder : MethodName := ⟨RX0, "elder", "([I)Z"⟩
def dkwX0_elder_10 : List UInt8 := [172]
abbrev dktX0_elder_10 : List UInt8 := dkwX0_elder_10 ++ []
def dkwX0_elder_9 : List UInt8 := [3, 21, 5, 21, 4, 182, 0, 37, 43, 3, 21, 5, 182, 0, 14, 148, 154, 0, 7, 4, 167, 0, 4, 3]
abbrev dktX0_elder_9 : List UInt8 := dkwX0_elder_9 ++ dktX0_elder_10
def dkwX0_elder_8 : List UInt8 := [154, 0, 47, 43, 3, 21, 5, 21, 4, 182, 0, 64, 43, 3, 21, 5, 182, 0, 10, 148, 154, 0, 27, 43]
abbrev dktX0_elder_8 : List UInt8 := dkwX0_elder_8 ++ dktX0_elder_9
def dkwX0_elder_7 : List UInt8 := [28, 29, 182, 0, 10, 148, 154, 0, 65, 43, 28, 29, 21, 4, 182, 0, 37, 43, 28, 29, 182, 0, 14, 148]
abbrev dktX0_elder_7 : List UInt8 := dkwX0_elder_7 ++ dktX0_elder_8
def dkwX0_elder_6 : List UInt8 := [21, 5, 182, 0, 14, 25, 6, 4, 47, 148, 153, 0, 5, 3, 172, 43, 28, 29, 21, 4, 182, 0, 64, 43]
abbrev dktX0_elder_6 : List UInt8 := dkwX0_elder_6 ++ dktX0_elder_7
def dkwX0_elder_5 : List UInt8 := [17, 0, 177, 112, 160, 0, 33, 43, 3, 21, 5, 182, 0, 10, 25, 6, 3, 47, 148, 154, 0, 18, 43, 3]
abbrev dktX0_elder_5 : List UInt8 := dkwX0_elder_5 ++ dktX0_elder_6
def dkwX0_elder_4 : List UInt8 := [182, 0, 55, 54, 5, 42, 21, 5, 184, 0, 59, 58, 6, 21, 5, 42, 6, 184, 0, 41, 18, 63, 126]
abbrev dktX0_elder_4 : List UInt8 := dkwX0_elder_4 ++ dktX0_elder_5
def dkwX0_elder_3 : List UInt8 := [182, 0, 24, 42, 3, 184, 0, 41, 61, 42, 4, 184, 0, 41, 62, 42, 5, 184, 0, 41, 54, 4, 43]
abbrev dktX0_elder_3 : List UInt8 := dkwX0_elder_3 ++ dktX0_elder_4
def dkwX0_elder_2 : List UInt8 := [184, 0, 41, 182, 0, 20, 154, 0, 5, 3, 172, 132, 2, 4, 167, 255, 212, 43, 42, 6, 184, 0, 41]
abbrev dktX0_elder_2 : List UInt8 := dkwX0_elder_2 ++ dktX0_elder_3
def dkwX0_elder_1 : List UInt8 := [43, 42, 28, 184, 0, 41, 42, 28, 4, 96, 184, 0, 41, 42, 28, 5, 96, 184, 0, 41, 42, 28, 6, 96]
abbrev dktX0_elder_1 : List UInt8 := dkwX0_elder_1 ++ dktX0_elder_2
def dkwX0_elder_0 : List UInt8 := [184, 0, 51, 154, 0, 5, 3, 172, 187, 0, 7, 89, 183, 0, 9, 76, 7, 61, 28, 16, 48, 162, 0, 44]
abbrev dktX0_elder_0 : List UInt8 := dkwX0_elder_0 ++ dktX0_elder_1
theorem dksX0_elder_0 : cX0_elder.data.toList.drop 0 = dktX0_elder_0 := by decide +kernel
theorem dksX0_elder_1 : cX0_elder.data.toList.drop 24 = dktX0_elder_1 := dk_seg dksX0_elder_0 24 rfl rfl
theorem dksX0_elder_2 : cX0_elder.data.toList.drop 48 = dktX0_elder_2 := dk_seg dksX0_elder_1 24 rfl rfl
theorem dksX0_elder_3 : cX0_elder.data.toList.drop 71 = dktX0_elder_3 := dk_seg dksX0_elder_2 23 rfl rfl
theorem dksX0_elder_4 : cX0_elder.data.toList.drop 94 = dktX0_elder_4 := dk_seg dksX0_elder_3 23 rfl rfl
theorem dksX0_elder_5 : cX0_elder.data.toList.drop 117 = dktX0_elder_5 := dk_seg dksX0_elder_4 23 rfl rfl
theorem dksX0_elder_6 : cX0_elder.data.toList.drop 141 = dktX0_elder_6 := dk_seg dksX0_elder_5 24 rfl rfl
theorem dksX0_elder_7 : cX0_elder.data.toList.drop 165 = dktX0_elder_7 := dk_seg dksX0_elder_6 24 rfl rfl
theorem dksX0_elder_8 : cX0_elder.data.toList.drop 189 = dktX0_elder_8 := dk_seg dksX0_elder_7 24 rfl rfl
theorem dksX0_elder_9 : cX0_elder.data.toList.drop 213 = dktX0_elder_9 := dk_seg dksX0_elder_8 24 rfl rfl
theorem dksX0_elder_10 : cX0_elder.data.toList.drop 237 = dktX0_elder_10 := dk_seg dksX0_elder_9 24 rfl rfl
theorem dX0_elder_0 : decode cX0_elder 0 = .ok (.invokestatic 51, 3) := dk_184 0 51 (dk_at dksX0_elder_0 0 rfl rfl)
theorem dX0_elder_3 : decode cX0_elder 3 = .ok (.ifCond .ne 5, 3) := dk_154 0 5 (dk_at dksX0_elder_0 3 rfl rfl)
theorem dX0_elder_6 : decode cX0_elder 6 = .ok (.iconst 0, 1) := dk_3 (dk_at dksX0_elder_0 6 rfl rfl)
theorem dX0_elder_7 : decode cX0_elder 7 = .ok (.ireturn, 1) := dk_172 (dk_at dksX0_elder_0 7 rfl rfl)
theorem dX0_elder_8 : decode cX0_elder 8 = .ok (.new 7, 3) := dk_187 0 7 (dk_at dksX0_elder_0 8 rfl rfl)
theorem dX0_elder_11 : decode cX0_elder 11 = .ok (.dup, 1) := dk_89 (dk_at dksX0_elder_0 11 rfl rfl)
theorem dX0_elder_12 : decode cX0_elder 12 = .ok (.invokespecial 9, 3) := dk_183 0 9 (dk_at dksX0_elder_0 12 rfl rfl)
theorem dX0_elder_15 : decode cX0_elder 15 = .ok (.astore_n 1, 1) := dk_76 (dk_at dksX0_elder_0 15 rfl rfl)
theorem dX0_elder_16 : decode cX0_elder 16 = .ok (.iconst 4, 1) := dk_7 (dk_at dksX0_elder_0 16 rfl rfl)
theorem dX0_elder_17 : decode cX0_elder 17 = .ok (.istore_n 2, 1) := dk_61 (dk_at dksX0_elder_0 17 rfl rfl)
theorem dX0_elder_18 : decode cX0_elder 18 = .ok (.iload_n 2, 1) := dk_28 (dk_at dksX0_elder_0 18 rfl rfl)
theorem dX0_elder_19 : decode cX0_elder 19 = .ok (.bipush 48, 2) := dk_16 48 (dk_at dksX0_elder_0 19 rfl rfl)
theorem dX0_elder_21 : decode cX0_elder 21 = .ok (.if_icmp .ge 44, 3) := dk_162 0 44 (dk_at dksX0_elder_0 21 rfl rfl)
theorem dX0_elder_24 : decode cX0_elder 24 = .ok (.aload_n 1, 1) := dk_43 (dk_at dksX0_elder_1 0 rfl rfl)
theorem dX0_elder_25 : decode cX0_elder 25 = .ok (.aload_n 0, 1) := dk_42 (dk_at dksX0_elder_1 1 rfl rfl)
theorem dX0_elder_26 : decode cX0_elder 26 = .ok (.iload_n 2, 1) := dk_28 (dk_at dksX0_elder_1 2 rfl rfl)
theorem dX0_elder_27 : decode cX0_elder 27 = .ok (.invokestatic 41, 3) := dk_184 0 41 (dk_at dksX0_elder_1 3 rfl rfl)
theorem dX0_elder_30 : decode cX0_elder 30 = .ok (.aload_n 0, 1) := dk_42 (dk_at dksX0_elder_1 6 rfl rfl)
theorem dX0_elder_31 : decode cX0_elder 31 = .ok (.iload_n 2, 1) := dk_28 (dk_at dksX0_elder_1 7 rfl rfl)
theorem dX0_elder_32 : decode cX0_elder 32 = .ok (.iconst 1, 1) := dk_4 (dk_at dksX0_elder_1 8 rfl rfl)
theorem dX0_elder_33 : decode cX0_elder 33 = .ok (.iadd, 1) := dk_96 (dk_at dksX0_elder_1 9 rfl rfl)
theorem dX0_elder_34 : decode cX0_elder 34 = .ok (.invokestatic 41, 3) := dk_184 0 41 (dk_at dksX0_elder_1 10 rfl rfl)
theorem dX0_elder_37 : decode cX0_elder 37 = .ok (.aload_n 0, 1) := dk_42 (dk_at dksX0_elder_1 13 rfl rfl)
theorem dX0_elder_38 : decode cX0_elder 38 = .ok (.iload_n 2, 1) := dk_28 (dk_at dksX0_elder_1 14 rfl rfl)
theorem dX0_elder_39 : decode cX0_elder 39 = .ok (.iconst 2, 1) := dk_5 (dk_at dksX0_elder_1 15 rfl rfl)
theorem dX0_elder_40 : decode cX0_elder 40 = .ok (.iadd, 1) := dk_96 (dk_at dksX0_elder_1 16 rfl rfl)
theorem dX0_elder_41 : decode cX0_elder 41 = .ok (.invokestatic 41, 3) := dk_184 0 41 (dk_at dksX0_elder_1 17 rfl rfl)
theorem dX0_elder_44 : decode cX0_elder 44 = .ok (.aload_n 0, 1) := dk_42 (dk_at dksX0_elder_1 20 rfl rfl)
theorem dX0_elder_45 : decode cX0_elder 45 = .ok (.iload_n 2, 1) := dk_28 (dk_at dksX0_elder_1 21 rfl rfl)
theorem dX0_elder_46 : decode cX0_elder 46 = .ok (.iconst 3, 1) := dk_6 (dk_at dksX0_elder_1 22 rfl rfl)
theorem dX0_elder_47 : decode cX0_elder 47 = .ok (.iadd, 1) := dk_96 (dk_at dksX0_elder_1 23 rfl rfl)
theorem dX0_elder_48 : decode cX0_elder 48 = .ok (.invokestatic 41, 3) := dk_184 0 41 (dk_at dksX0_elder_2 0 rfl rfl)
theorem dX0_elder_51 : decode cX0_elder 51 = .ok (.invokevirtual 20, 3) := dk_182 0 20 (dk_at dksX0_elder_2 3 rfl rfl)
theorem dX0_elder_54 : decode cX0_elder 54 = .ok (.ifCond .ne 5, 3) := dk_154 0 5 (dk_at dksX0_elder_2 6 rfl rfl)
theorem dX0_elder_57 : decode cX0_elder 57 = .ok (.iconst 0, 1) := dk_3 (dk_at dksX0_elder_2 9 rfl rfl)
theorem dX0_elder_58 : decode cX0_elder 58 = .ok (.ireturn, 1) := dk_172 (dk_at dksX0_elder_2 10 rfl rfl)
theorem dX0_elder_59 : decode cX0_elder 59 = .ok (.iinc 2 4, 3) := dk_132 2 4 (dk_at dksX0_elder_2 11 rfl rfl)
theorem dX0_elder_62 : decode cX0_elder 62 = .ok (.goto (-44), 3) := dk_167 255 212 (dk_at dksX0_elder_2 14 rfl rfl)
theorem dX0_elder_65 : decode cX0_elder 65 = .ok (.aload_n 1, 1) := dk_43 (dk_at dksX0_elder_2 17 rfl rfl)
theorem dX0_elder_66 : decode cX0_elder 66 = .ok (.aload_n 0, 1) := dk_42 (dk_at dksX0_elder_2 18 rfl rfl)
theorem dX0_elder_67 : decode cX0_elder 67 = .ok (.iconst 3, 1) := dk_6 (dk_at dksX0_elder_2 19 rfl rfl)
theorem dX0_elder_68 : decode cX0_elder 68 = .ok (.invokestatic 41, 3) := dk_184 0 41 (dk_at dksX0_elder_2 20 rfl rfl)
theorem dX0_elder_71 : decode cX0_elder 71 = .ok (.invokevirtual 24, 3) := dk_182 0 24 (dk_at dksX0_elder_3 0 rfl rfl)
theorem dX0_elder_74 : decode cX0_elder 74 = .ok (.aload_n 0, 1) := dk_42 (dk_at dksX0_elder_3 3 rfl rfl)
theorem dX0_elder_75 : decode cX0_elder 75 = .ok (.iconst 0, 1) := dk_3 (dk_at dksX0_elder_3 4 rfl rfl)
theorem dX0_elder_76 : decode cX0_elder 76 = .ok (.invokestatic 41, 3) := dk_184 0 41 (dk_at dksX0_elder_3 5 rfl rfl)
theorem dX0_elder_79 : decode cX0_elder 79 = .ok (.istore_n 2, 1) := dk_61 (dk_at dksX0_elder_3 8 rfl rfl)
theorem dX0_elder_80 : decode cX0_elder 80 = .ok (.aload_n 0, 1) := dk_42 (dk_at dksX0_elder_3 9 rfl rfl)
theorem dX0_elder_81 : decode cX0_elder 81 = .ok (.iconst 1, 1) := dk_4 (dk_at dksX0_elder_3 10 rfl rfl)
theorem dX0_elder_82 : decode cX0_elder 82 = .ok (.invokestatic 41, 3) := dk_184 0 41 (dk_at dksX0_elder_3 11 rfl rfl)
theorem dX0_elder_85 : decode cX0_elder 85 = .ok (.istore_n 3, 1) := dk_62 (dk_at dksX0_elder_3 14 rfl rfl)
theorem dX0_elder_86 : decode cX0_elder 86 = .ok (.aload_n 0, 1) := dk_42 (dk_at dksX0_elder_3 15 rfl rfl)
theorem dX0_elder_87 : decode cX0_elder 87 = .ok (.iconst 2, 1) := dk_5 (dk_at dksX0_elder_3 16 rfl rfl)
theorem dX0_elder_88 : decode cX0_elder 88 = .ok (.invokestatic 41, 3) := dk_184 0 41 (dk_at dksX0_elder_3 17 rfl rfl)
theorem dX0_elder_91 : decode cX0_elder 91 = .ok (.istore 4, 2) := dk_54 4 (dk_at dksX0_elder_3 20 rfl rfl)
theorem dX0_elder_93 : decode cX0_elder 93 = .ok (.aload_n 1, 1) := dk_43 (dk_at dksX0_elder_3 22 rfl rfl)
theorem dX0_elder_94 : decode cX0_elder 94 = .ok (.invokevirtual 55, 3) := dk_182 0 55 (dk_at dksX0_elder_4 0 rfl rfl)
theorem dX0_elder_97 : decode cX0_elder 97 = .ok (.istore 5, 2) := dk_54 5 (dk_at dksX0_elder_4 3 rfl rfl)
theorem dX0_elder_99 : decode cX0_elder 99 = .ok (.aload_n 0, 1) := dk_42 (dk_at dksX0_elder_4 5 rfl rfl)
theorem dX0_elder_100 : decode cX0_elder 100 = .ok (.iload 5, 2) := dk_21 5 (dk_at dksX0_elder_4 6 rfl rfl)
theorem dX0_elder_102 : decode cX0_elder 102 = .ok (.invokestatic 59, 3) := dk_184 0 59 (dk_at dksX0_elder_4 8 rfl rfl)
theorem dX0_elder_105 : decode cX0_elder 105 = .ok (.astore 6, 2) := dk_58 6 (dk_at dksX0_elder_4 11 rfl rfl)
theorem dX0_elder_107 : decode cX0_elder 107 = .ok (.iload 5, 2) := dk_21 5 (dk_at dksX0_elder_4 13 rfl rfl)
theorem dX0_elder_109 : decode cX0_elder 109 = .ok (.aload_n 0, 1) := dk_42 (dk_at dksX0_elder_4 15 rfl rfl)
theorem dX0_elder_110 : decode cX0_elder 110 = .ok (.iconst 3, 1) := dk_6 (dk_at dksX0_elder_4 16 rfl rfl)
theorem dX0_elder_111 : decode cX0_elder 111 = .ok (.invokestatic 41, 3) := dk_184 0 41 (dk_at dksX0_elder_4 17 rfl rfl)
theorem dX0_elder_114 : decode cX0_elder 114 = .ok (.ldc 63, 2) := dk_18 63 (dk_at dksX0_elder_4 20 rfl rfl)
theorem dX0_elder_116 : decode cX0_elder 116 = .ok (.iand, 1) := dk_126 (dk_at dksX0_elder_4 22 rfl rfl)
theorem dX0_elder_117 : decode cX0_elder 117 = .ok (.sipush 177, 3) := dk_17 0 177 (dk_at dksX0_elder_5 0 rfl rfl)
theorem dX0_elder_120 : decode cX0_elder 120 = .ok (.irem, 1) := dk_112 (dk_at dksX0_elder_5 3 rfl rfl)
theorem dX0_elder_121 : decode cX0_elder 121 = .ok (.if_icmp .ne 33, 3) := dk_160 0 33 (dk_at dksX0_elder_5 4 rfl rfl)
theorem dX0_elder_124 : decode cX0_elder 124 = .ok (.aload_n 1, 1) := dk_43 (dk_at dksX0_elder_5 7 rfl rfl)
theorem dX0_elder_125 : decode cX0_elder 125 = .ok (.iconst 0, 1) := dk_3 (dk_at dksX0_elder_5 8 rfl rfl)
theorem dX0_elder_126 : decode cX0_elder 126 = .ok (.iload 5, 2) := dk_21 5 (dk_at dksX0_elder_5 9 rfl rfl)
theorem dX0_elder_128 : decode cX0_elder 128 = .ok (.invokevirtual 10, 3) := dk_182 0 10 (dk_at dksX0_elder_5 11 rfl rfl)
theorem dX0_elder_131 : decode cX0_elder 131 = .ok (.aload 6, 2) := dk_25 6 (dk_at dksX0_elder_5 14 rfl rfl)
theorem dX0_elder_133 : decode cX0_elder 133 = .ok (.iconst 0, 1) := dk_3 (dk_at dksX0_elder_5 16 rfl rfl)
theorem dX0_elder_134 : decode cX0_elder 134 = .ok (.laload, 1) := dk_47 (dk_at dksX0_elder_5 17 rfl rfl)
theorem dX0_elder_135 : decode cX0_elder 135 = .ok (.lcmp, 1) := dk_148 (dk_at dksX0_elder_5 18 rfl rfl)
theorem dX0_elder_136 : decode cX0_elder 136 = .ok (.ifCond .ne 18, 3) := dk_154 0 18 (dk_at dksX0_elder_5 19 rfl rfl)
theorem dX0_elder_139 : decode cX0_elder 139 = .ok (.aload_n 1, 1) := dk_43 (dk_at dksX0_elder_5 22 rfl rfl)
theorem dX0_elder_140 : decode cX0_elder 140 = .ok (.iconst 0, 1) := dk_3 (dk_at dksX0_elder_5 23 rfl rfl)
theorem dX0_elder_141 : decode cX0_elder 141 = .ok (.iload 5, 2) := dk_21 5 (dk_at dksX0_elder_6 0 rfl rfl)
theorem dX0_elder_143 : decode cX0_elder 143 = .ok (.invokevirtual 14, 3) := dk_182 0 14 (dk_at dksX0_elder_6 2 rfl rfl)
theorem dX0_elder_146 : decode cX0_elder 146 = .ok (.aload 6, 2) := dk_25 6 (dk_at dksX0_elder_6 5 rfl rfl)
theorem dX0_elder_148 : decode cX0_elder 148 = .ok (.iconst 1, 1) := dk_4 (dk_at dksX0_elder_6 7 rfl rfl)
theorem dX0_elder_149 : decode cX0_elder 149 = .ok (.laload, 1) := dk_47 (dk_at dksX0_elder_6 8 rfl rfl)
theorem dX0_elder_150 : decode cX0_elder 150 = .ok (.lcmp, 1) := dk_148 (dk_at dksX0_elder_6 9 rfl rfl)
theorem dX0_elder_151 : decode cX0_elder 151 = .ok (.ifCond .eq 5, 3) := dk_153 0 5 (dk_at dksX0_elder_6 10 rfl rfl)
theorem dX0_elder_154 : decode cX0_elder 154 = .ok (.iconst 0, 1) := dk_3 (dk_at dksX0_elder_6 13 rfl rfl)
theorem dX0_elder_155 : decode cX0_elder 155 = .ok (.ireturn, 1) := dk_172 (dk_at dksX0_elder_6 14 rfl rfl)
theorem dX0_elder_156 : decode cX0_elder 156 = .ok (.aload_n 1, 1) := dk_43 (dk_at dksX0_elder_6 15 rfl rfl)
theorem dX0_elder_157 : decode cX0_elder 157 = .ok (.iload_n 2, 1) := dk_28 (dk_at dksX0_elder_6 16 rfl rfl)
theorem dX0_elder_158 : decode cX0_elder 158 = .ok (.iload_n 3, 1) := dk_29 (dk_at dksX0_elder_6 17 rfl rfl)
theorem dX0_elder_159 : decode cX0_elder 159 = .ok (.iload 4, 2) := dk_21 4 (dk_at dksX0_elder_6 18 rfl rfl)
theorem dX0_elder_161 : decode cX0_elder 161 = .ok (.invokevirtual 64, 3) := dk_182 0 64 (dk_at dksX0_elder_6 20 rfl rfl)
theorem dX0_elder_164 : decode cX0_elder 164 = .ok (.aload_n 1, 1) := dk_43 (dk_at dksX0_elder_6 23 rfl rfl)
theorem dX0_elder_165 : decode cX0_elder 165 = .ok (.iload_n 2, 1) := dk_28 (dk_at dksX0_elder_7 0 rfl rfl)
theorem dX0_elder_166 : decode cX0_elder 166 = .ok (.iload_n 3, 1) := dk_29 (dk_at dksX0_elder_7 1 rfl rfl)
theorem dX0_elder_167 : decode cX0_elder 167 = .ok (.invokevirtual 10, 3) := dk_182 0 10 (dk_at dksX0_elder_7 2 rfl rfl)
theorem dX0_elder_170 : decode cX0_elder 170 = .ok (.lcmp, 1) := dk_148 (dk_at dksX0_elder_7 5 rfl rfl)
theorem dX0_elder_171 : decode cX0_elder 171 = .ok (.ifCond .ne 65, 3) := dk_154 0 65 (dk_at dksX0_elder_7 6 rfl rfl)
theorem dX0_elder_174 : decode cX0_elder 174 = .ok (.aload_n 1, 1) := dk_43 (dk_at dksX0_elder_7 9 rfl rfl)
theorem dX0_elder_175 : decode cX0_elder 175 = .ok (.iload_n 2, 1) := dk_28 (dk_at dksX0_elder_7 10 rfl rfl)
theorem dX0_elder_176 : decode cX0_elder 176 = .ok (.iload_n 3, 1) := dk_29 (dk_at dksX0_elder_7 11 rfl rfl)
theorem dX0_elder_177 : decode cX0_elder 177 = .ok (.iload 4, 2) := dk_21 4 (dk_at dksX0_elder_7 12 rfl rfl)
theorem dX0_elder_179 : decode cX0_elder 179 = .ok (.invokevirtual 37, 3) := dk_182 0 37 (dk_at dksX0_elder_7 14 rfl rfl)
theorem dX0_elder_182 : decode cX0_elder 182 = .ok (.aload_n 1, 1) := dk_43 (dk_at dksX0_elder_7 17 rfl rfl)
theorem dX0_elder_183 : decode cX0_elder 183 = .ok (.iload_n 2, 1) := dk_28 (dk_at dksX0_elder_7 18 rfl rfl)
theorem dX0_elder_184 : decode cX0_elder 184 = .ok (.iload_n 3, 1) := dk_29 (dk_at dksX0_elder_7 19 rfl rfl)
theorem dX0_elder_185 : decode cX0_elder 185 = .ok (.invokevirtual 14, 3) := dk_182 0 14 (dk_at dksX0_elder_7 20 rfl rfl)
theorem dX0_elder_188 : decode cX0_elder 188 = .ok (.lcmp, 1) := dk_148 (dk_at dksX0_elder_7 23 rfl rfl)
theorem dX0_elder_189 : decode cX0_elder 189 = .ok (.ifCond .ne 47, 3) := dk_154 0 47 (dk_at dksX0_elder_8 0 rfl rfl)
theorem dX0_elder_192 : decode cX0_elder 192 = .ok (.aload_n 1, 1) := dk_43 (dk_at dksX0_elder_8 3 rfl rfl)
theorem dX0_elder_193 : decode cX0_elder 193 = .ok (.iconst 0, 1) := dk_3 (dk_at dksX0_elder_8 4 rfl rfl)
theorem dX0_elder_194 : decode cX0_elder 194 = .ok (.iload 5, 2) := dk_21 5 (dk_at dksX0_elder_8 5 rfl rfl)
theorem dX0_elder_196 : decode cX0_elder 196 = .ok (.iload 4, 2) := dk_21 4 (dk_at dksX0_elder_8 7 rfl rfl)
theorem dX0_elder_198 : decode cX0_elder 198 = .ok (.invokevirtual 64, 3) := dk_182 0 64 (dk_at dksX0_elder_8 9 rfl rfl)
theorem dX0_elder_201 : decode cX0_elder 201 = .ok (.aload_n 1, 1) := dk_43 (dk_at dksX0_elder_8 12 rfl rfl)
theorem dX0_elder_202 : decode cX0_elder 202 = .ok (.iconst 0, 1) := dk_3 (dk_at dksX0_elder_8 13 rfl rfl)
theorem dX0_elder_203 : decode cX0_elder 203 = .ok (.iload 5, 2) := dk_21 5 (dk_at dksX0_elder_8 14 rfl rfl)
theorem dX0_elder_205 : decode cX0_elder 205 = .ok (.invokevirtual 10, 3) := dk_182 0 10 (dk_at dksX0_elder_8 16 rfl rfl)
theorem dX0_elder_208 : decode cX0_elder 208 = .ok (.lcmp, 1) := dk_148 (dk_at dksX0_elder_8 19 rfl rfl)
theorem dX0_elder_209 : decode cX0_elder 209 = .ok (.ifCond .ne 27, 3) := dk_154 0 27 (dk_at dksX0_elder_8 20 rfl rfl)
theorem dX0_elder_212 : decode cX0_elder 212 = .ok (.aload_n 1, 1) := dk_43 (dk_at dksX0_elder_8 23 rfl rfl)
theorem dX0_elder_213 : decode cX0_elder 213 = .ok (.iconst 0, 1) := dk_3 (dk_at dksX0_elder_9 0 rfl rfl)
theorem dX0_elder_214 : decode cX0_elder 214 = .ok (.iload 5, 2) := dk_21 5 (dk_at dksX0_elder_9 1 rfl rfl)
theorem dX0_elder_216 : decode cX0_elder 216 = .ok (.iload 4, 2) := dk_21 4 (dk_at dksX0_elder_9 3 rfl rfl)
theorem dX0_elder_218 : decode cX0_elder 218 = .ok (.invokevirtual 37, 3) := dk_182 0 37 (dk_at dksX0_elder_9 5 rfl rfl)
theorem dX0_elder_221 : decode cX0_elder 221 = .ok (.aload_n 1, 1) := dk_43 (dk_at dksX0_elder_9 8 rfl rfl)
theorem dX0_elder_222 : decode cX0_elder 222 = .ok (.iconst 0, 1) := dk_3 (dk_at dksX0_elder_9 9 rfl rfl)
theorem dX0_elder_223 : decode cX0_elder 223 = .ok (.iload 5, 2) := dk_21 5 (dk_at dksX0_elder_9 10 rfl rfl)
theorem dX0_elder_225 : decode cX0_elder 225 = .ok (.invokevirtual 14, 3) := dk_182 0 14 (dk_at dksX0_elder_9 12 rfl rfl)
theorem dX0_elder_228 : decode cX0_elder 228 = .ok (.lcmp, 1) := dk_148 (dk_at dksX0_elder_9 15 rfl rfl)
theorem dX0_elder_229 : decode cX0_elder 229 = .ok (.ifCond .ne 7, 3) := dk_154 0 7 (dk_at dksX0_elder_9 16 rfl rfl)
theorem dX0_elder_232 : decode cX0_elder 232 = .ok (.iconst 1, 1) := dk_4 (dk_at dksX0_elder_9 19 rfl rfl)
theorem dX0_elder_233 : decode cX0_elder 233 = .ok (.goto 4, 3) := dk_167 0 4 (dk_at dksX0_elder_9 20 rfl rfl)
theorem dX0_elder_236 : decode cX0_elder 236 = .ok (.iconst 0, 1) := dk_3 (dk_at dksX0_elder_9 23 rfl rfl)
theorem dX0_elder_237 : decode cX0_elder 237 = .ok (.ireturn, 1) := dk_172 (dk_at dksX0_elder_10 0 rfl rfl)
abbrev cX0_known : ByteArray := method_3_code
def yX0_known : MethodName := ⟨RX0, "known", "()Z"⟩
def dkwX0_known_7 : List UInt8 := [20, 0, 35, 148, 154, 0, 7, 4, 167, 0, 4, 3, 172]
abbrev dktX0_known_7 : List UInt8 := dkwX0_known_7 ++ []
def dkwX0_known_6 : List UInt8 := [17, 1, 64, 182, 0, 14, 20, 0, 35, 148, 154, 0, 25, 44, 3, 17, 1, 64, 17, 0, 160, 182, 0, 37]
abbrev dktX0_known_6 : List UInt8 := dkwX0_known_6 ++ dktX0_known_7
def dkwX0_known_5 : List UInt8 := [16, 20, 162, 0, 18, 44, 2, 2, 2, 2, 182, 0, 20, 87, 132, 3, 1, 167, 255, 238, 44, 3]
abbrev dktX0_known_5 : List UInt8 := dkwX0_known_5 ++ dktX0_known_6
def dkwX0_known_4 : List UInt8 := [182, 0, 14, 20, 0, 33, 148, 153, 0, 5, 3, 172, 187, 0, 7, 89, 183, 0, 9, 77, 3, 62, 29]
abbrev dktX0_known_4 : List UInt8 := dkwX0_known_4 ++ dktX0_known_5
def dkwX0_known_3 : List UInt8 := [3, 172, 43, 18, 30, 18, 31, 18, 32, 3, 182, 0, 20, 87, 43, 16, 9, 182, 0, 24, 43, 3, 16, 9]
abbrev dktX0_known_3 : List UInt8 := dkwX0_known_3 ++ dktX0_known_4
def dkwX0_known_2 : List UInt8 := [182, 0, 20, 87, 42, 16, 9, 182, 0, 24, 42, 3, 16, 9, 182, 0, 10, 20, 0, 28, 148, 153, 0, 5]
abbrev dktX0_known_2 : List UInt8 := dkwX0_known_2 ++ dktX0_known_3
def dkwX0_known_1 : List UInt8 := [154, 0, 14, 42, 3, 3, 182, 0, 14, 10, 148, 153, 0, 5, 3, 172, 42, 18, 17, 18, 18, 18, 19, 3]
abbrev dktX0_known_1 : List UInt8 := dkwX0_known_1 ++ dktX0_known_2
def dkwX0_known_0 : List UInt8 := [187, 0, 7, 89, 183, 0, 9, 75, 187, 0, 7, 89, 183, 0, 9, 76, 42, 3, 3, 182, 0, 10, 9, 148]
abbrev dktX0_known_0 : List UInt8 := dkwX0_known_0 ++ dktX0_known_1
theorem dksX0_known_0 : cX0_known.data.toList.drop 0 = dktX0_known_0 := by decide +kernel
theorem dksX0_known_1 : cX0_known.data.toList.drop 24 = dktX0_known_1 := dk_seg dksX0_known_0 24 rfl rfl
theorem dksX0_known_2 : cX0_known.data.toList.drop 48 = dktX0_known_2 := dk_seg dksX0_known_1 24 rfl rfl
theorem dksX0_known_3 : cX0_known.data.toList.drop 72 = dktX0_known_3 := dk_seg dksX0_known_2 24 rfl rfl
theorem dksX0_known_4 : cX0_known.data.toList.drop 96 = dktX0_known_4 := dk_seg dksX0_known_3 24 rfl rfl
theorem dksX0_known_5 : cX0_known.data.toList.drop 119 = dktX0_known_5 := dk_seg dksX0_known_4 23 rfl rfl
theorem dksX0_known_6 : cX0_known.data.toList.drop 141 = dktX0_known_6 := dk_seg dksX0_known_5 22 rfl rfl
theorem dksX0_known_7 : cX0_known.data.toList.drop 165 = dktX0_known_7 := dk_seg dksX0_known_6 24 rfl rfl
theorem dX0_known_0 : decode cX0_known 0 = .ok (.new 7, 3) := dk_187 0 7 (dk_at dksX0_known_0 0 rfl rfl)
theorem dX0_known_3 : decode cX0_known 3 = .ok (.dup, 1) := dk_89 (dk_at dksX0_known_0 3 rfl rfl)
theorem dX0_known_4 : decode cX0_known 4 = .ok (.invokespecial 9, 3) := dk_183 0 9 (dk_at dksX0_known_0 4 rfl rfl)
theorem dX0_known_7 : decode cX0_known 7 = .ok (.astore_n 0, 1) := dk_75 (dk_at dksX0_known_0 7 rfl rfl)
theorem dX0_known_8 : decode cX0_known 8 = .ok (.new 7, 3) := dk_187 0 7 (dk_at dksX0_known_0 8 rfl rfl)
theorem dX0_known_11 : decode cX0_known 11 = .ok (.dup, 1) := dk_89 (dk_at dksX0_known_0 11 rfl rfl)
theorem dX0_known_12 : decode cX0_known 12 = .ok (.invokespecial 9, 3) := dk_183 0 9 (dk_at dksX0_known_0 12 rfl rfl)
theorem dX0_known_15 : decode cX0_known 15 = .ok (.astore_n 1, 1) := dk_76 (dk_at dksX0_known_0 15 rfl rfl)
theorem dX0_known_16 : decode cX0_known 16 = .ok (.aload_n 0, 1) := dk_42 (dk_at dksX0_known_0 16 rfl rfl)
theorem dX0_known_17 : decode cX0_known 17 = .ok (.iconst 0, 1) := dk_3 (dk_at dksX0_known_0 17 rfl rfl)
theorem dX0_known_18 : decode cX0_known 18 = .ok (.iconst 0, 1) := dk_3 (dk_at dksX0_known_0 18 rfl rfl)
theorem dX0_known_19 : decode cX0_known 19 = .ok (.invokevirtual 10, 3) := dk_182 0 10 (dk_at dksX0_known_0 19 rfl rfl)
theorem dX0_known_22 : decode cX0_known 22 = .ok (.lconst 0, 1) := dk_9 (dk_at dksX0_known_0 22 rfl rfl)
theorem dX0_known_23 : decode cX0_known 23 = .ok (.lcmp, 1) := dk_148 (dk_at dksX0_known_0 23 rfl rfl)
theorem dX0_known_24 : decode cX0_known 24 = .ok (.ifCond .ne 14, 3) := dk_154 0 14 (dk_at dksX0_known_1 0 rfl rfl)
theorem dX0_known_27 : decode cX0_known 27 = .ok (.aload_n 0, 1) := dk_42 (dk_at dksX0_known_1 3 rfl rfl)
theorem dX0_known_28 : decode cX0_known 28 = .ok (.iconst 0, 1) := dk_3 (dk_at dksX0_known_1 4 rfl rfl)
theorem dX0_known_29 : decode cX0_known 29 = .ok (.iconst 0, 1) := dk_3 (dk_at dksX0_known_1 5 rfl rfl)
theorem dX0_known_30 : decode cX0_known 30 = .ok (.invokevirtual 14, 3) := dk_182 0 14 (dk_at dksX0_known_1 6 rfl rfl)
theorem dX0_known_33 : decode cX0_known 33 = .ok (.lconst 1, 1) := dk_10 (dk_at dksX0_known_1 9 rfl rfl)
theorem dX0_known_34 : decode cX0_known 34 = .ok (.lcmp, 1) := dk_148 (dk_at dksX0_known_1 10 rfl rfl)
theorem dX0_known_35 : decode cX0_known 35 = .ok (.ifCond .eq 5, 3) := dk_153 0 5 (dk_at dksX0_known_1 11 rfl rfl)
theorem dX0_known_38 : decode cX0_known 38 = .ok (.iconst 0, 1) := dk_3 (dk_at dksX0_known_1 14 rfl rfl)
theorem dX0_known_39 : decode cX0_known 39 = .ok (.ireturn, 1) := dk_172 (dk_at dksX0_known_1 15 rfl rfl)
theorem dX0_known_40 : decode cX0_known 40 = .ok (.aload_n 0, 1) := dk_42 (dk_at dksX0_known_1 16 rfl rfl)
theorem dX0_known_41 : decode cX0_known 41 = .ok (.ldc 17, 2) := dk_18 17 (dk_at dksX0_known_1 17 rfl rfl)
theorem dX0_known_43 : decode cX0_known 43 = .ok (.ldc 18, 2) := dk_18 18 (dk_at dksX0_known_1 19 rfl rfl)
theorem dX0_known_45 : decode cX0_known 45 = .ok (.ldc 19, 2) := dk_18 19 (dk_at dksX0_known_1 21 rfl rfl)
theorem dX0_known_47 : decode cX0_known 47 = .ok (.iconst 0, 1) := dk_3 (dk_at dksX0_known_1 23 rfl rfl)
theorem dX0_known_48 : decode cX0_known 48 = .ok (.invokevirtual 20, 3) := dk_182 0 20 (dk_at dksX0_known_2 0 rfl rfl)
theorem dX0_known_51 : decode cX0_known 51 = .ok (.pop, 1) := dk_87 (dk_at dksX0_known_2 3 rfl rfl)
theorem dX0_known_52 : decode cX0_known 52 = .ok (.aload_n 0, 1) := dk_42 (dk_at dksX0_known_2 4 rfl rfl)
theorem dX0_known_53 : decode cX0_known 53 = .ok (.bipush 9, 2) := dk_16 9 (dk_at dksX0_known_2 5 rfl rfl)
theorem dX0_known_55 : decode cX0_known 55 = .ok (.invokevirtual 24, 3) := dk_182 0 24 (dk_at dksX0_known_2 7 rfl rfl)
theorem dX0_known_58 : decode cX0_known 58 = .ok (.aload_n 0, 1) := dk_42 (dk_at dksX0_known_2 10 rfl rfl)
theorem dX0_known_59 : decode cX0_known 59 = .ok (.iconst 0, 1) := dk_3 (dk_at dksX0_known_2 11 rfl rfl)
theorem dX0_known_60 : decode cX0_known 60 = .ok (.bipush 9, 2) := dk_16 9 (dk_at dksX0_known_2 12 rfl rfl)
theorem dX0_known_62 : decode cX0_known 62 = .ok (.invokevirtual 10, 3) := dk_182 0 10 (dk_at dksX0_known_2 14 rfl rfl)
theorem dX0_known_65 : decode cX0_known 65 = .ok (.ldc2_w 28, 3) := dk_20 0 28 (dk_at dksX0_known_2 17 rfl rfl)
theorem dX0_known_68 : decode cX0_known 68 = .ok (.lcmp, 1) := dk_148 (dk_at dksX0_known_2 20 rfl rfl)
theorem dX0_known_69 : decode cX0_known 69 = .ok (.ifCond .eq 5, 3) := dk_153 0 5 (dk_at dksX0_known_2 21 rfl rfl)
theorem dX0_known_72 : decode cX0_known 72 = .ok (.iconst 0, 1) := dk_3 (dk_at dksX0_known_3 0 rfl rfl)
theorem dX0_known_73 : decode cX0_known 73 = .ok (.ireturn, 1) := dk_172 (dk_at dksX0_known_3 1 rfl rfl)
theorem dX0_known_74 : decode cX0_known 74 = .ok (.aload_n 1, 1) := dk_43 (dk_at dksX0_known_3 2 rfl rfl)
theorem dX0_known_75 : decode cX0_known 75 = .ok (.ldc 30, 2) := dk_18 30 (dk_at dksX0_known_3 3 rfl rfl)
theorem dX0_known_77 : decode cX0_known 77 = .ok (.ldc 31, 2) := dk_18 31 (dk_at dksX0_known_3 5 rfl rfl)
theorem dX0_known_79 : decode cX0_known 79 = .ok (.ldc 32, 2) := dk_18 32 (dk_at dksX0_known_3 7 rfl rfl)
theorem dX0_known_81 : decode cX0_known 81 = .ok (.iconst 0, 1) := dk_3 (dk_at dksX0_known_3 9 rfl rfl)
theorem dX0_known_82 : decode cX0_known 82 = .ok (.invokevirtual 20, 3) := dk_182 0 20 (dk_at dksX0_known_3 10 rfl rfl)
theorem dX0_known_85 : decode cX0_known 85 = .ok (.pop, 1) := dk_87 (dk_at dksX0_known_3 13 rfl rfl)
theorem dX0_known_86 : decode cX0_known 86 = .ok (.aload_n 1, 1) := dk_43 (dk_at dksX0_known_3 14 rfl rfl)
theorem dX0_known_87 : decode cX0_known 87 = .ok (.bipush 9, 2) := dk_16 9 (dk_at dksX0_known_3 15 rfl rfl)
theorem dX0_known_89 : decode cX0_known 89 = .ok (.invokevirtual 24, 3) := dk_182 0 24 (dk_at dksX0_known_3 17 rfl rfl)
theorem dX0_known_92 : decode cX0_known 92 = .ok (.aload_n 1, 1) := dk_43 (dk_at dksX0_known_3 20 rfl rfl)
theorem dX0_known_93 : decode cX0_known 93 = .ok (.iconst 0, 1) := dk_3 (dk_at dksX0_known_3 21 rfl rfl)
theorem dX0_known_94 : decode cX0_known 94 = .ok (.bipush 9, 2) := dk_16 9 (dk_at dksX0_known_3 22 rfl rfl)
theorem dX0_known_96 : decode cX0_known 96 = .ok (.invokevirtual 14, 3) := dk_182 0 14 (dk_at dksX0_known_4 0 rfl rfl)
theorem dX0_known_99 : decode cX0_known 99 = .ok (.ldc2_w 33, 3) := dk_20 0 33 (dk_at dksX0_known_4 3 rfl rfl)
theorem dX0_known_102 : decode cX0_known 102 = .ok (.lcmp, 1) := dk_148 (dk_at dksX0_known_4 6 rfl rfl)
theorem dX0_known_103 : decode cX0_known 103 = .ok (.ifCond .eq 5, 3) := dk_153 0 5 (dk_at dksX0_known_4 7 rfl rfl)
theorem dX0_known_106 : decode cX0_known 106 = .ok (.iconst 0, 1) := dk_3 (dk_at dksX0_known_4 10 rfl rfl)
theorem dX0_known_107 : decode cX0_known 107 = .ok (.ireturn, 1) := dk_172 (dk_at dksX0_known_4 11 rfl rfl)
theorem dX0_known_108 : decode cX0_known 108 = .ok (.new 7, 3) := dk_187 0 7 (dk_at dksX0_known_4 12 rfl rfl)
theorem dX0_known_111 : decode cX0_known 111 = .ok (.dup, 1) := dk_89 (dk_at dksX0_known_4 15 rfl rfl)
theorem dX0_known_112 : decode cX0_known 112 = .ok (.invokespecial 9, 3) := dk_183 0 9 (dk_at dksX0_known_4 16 rfl rfl)
theorem dX0_known_115 : decode cX0_known 115 = .ok (.astore_n 2, 1) := dk_77 (dk_at dksX0_known_4 19 rfl rfl)
theorem dX0_known_116 : decode cX0_known 116 = .ok (.iconst 0, 1) := dk_3 (dk_at dksX0_known_4 20 rfl rfl)
theorem dX0_known_117 : decode cX0_known 117 = .ok (.istore_n 3, 1) := dk_62 (dk_at dksX0_known_4 21 rfl rfl)
theorem dX0_known_118 : decode cX0_known 118 = .ok (.iload_n 3, 1) := dk_29 (dk_at dksX0_known_4 22 rfl rfl)
theorem dX0_known_119 : decode cX0_known 119 = .ok (.bipush 20, 2) := dk_16 20 (dk_at dksX0_known_5 0 rfl rfl)
theorem dX0_known_121 : decode cX0_known 121 = .ok (.if_icmp .ge 18, 3) := dk_162 0 18 (dk_at dksX0_known_5 2 rfl rfl)
theorem dX0_known_124 : decode cX0_known 124 = .ok (.aload_n 2, 1) := dk_44 (dk_at dksX0_known_5 5 rfl rfl)
theorem dX0_known_125 : decode cX0_known 125 = .ok (.iconst (-1), 1) := dk_2 (dk_at dksX0_known_5 6 rfl rfl)
theorem dX0_known_126 : decode cX0_known 126 = .ok (.iconst (-1), 1) := dk_2 (dk_at dksX0_known_5 7 rfl rfl)
theorem dX0_known_127 : decode cX0_known 127 = .ok (.iconst (-1), 1) := dk_2 (dk_at dksX0_known_5 8 rfl rfl)
theorem dX0_known_128 : decode cX0_known 128 = .ok (.iconst (-1), 1) := dk_2 (dk_at dksX0_known_5 9 rfl rfl)
theorem dX0_known_129 : decode cX0_known 129 = .ok (.invokevirtual 20, 3) := dk_182 0 20 (dk_at dksX0_known_5 10 rfl rfl)
theorem dX0_known_132 : decode cX0_known 132 = .ok (.pop, 1) := dk_87 (dk_at dksX0_known_5 13 rfl rfl)
theorem dX0_known_133 : decode cX0_known 133 = .ok (.iinc 3 1, 3) := dk_132 3 1 (dk_at dksX0_known_5 14 rfl rfl)
theorem dX0_known_136 : decode cX0_known 136 = .ok (.goto (-18), 3) := dk_167 255 238 (dk_at dksX0_known_5 17 rfl rfl)
theorem dX0_known_139 : decode cX0_known 139 = .ok (.aload_n 2, 1) := dk_44 (dk_at dksX0_known_5 20 rfl rfl)
theorem dX0_known_140 : decode cX0_known 140 = .ok (.iconst 0, 1) := dk_3 (dk_at dksX0_known_5 21 rfl rfl)
theorem dX0_known_141 : decode cX0_known 141 = .ok (.sipush 320, 3) := dk_17 1 64 (dk_at dksX0_known_6 0 rfl rfl)
theorem dX0_known_144 : decode cX0_known 144 = .ok (.invokevirtual 14, 3) := dk_182 0 14 (dk_at dksX0_known_6 3 rfl rfl)
theorem dX0_known_147 : decode cX0_known 147 = .ok (.ldc2_w 35, 3) := dk_20 0 35 (dk_at dksX0_known_6 6 rfl rfl)
theorem dX0_known_150 : decode cX0_known 150 = .ok (.lcmp, 1) := dk_148 (dk_at dksX0_known_6 9 rfl rfl)
theorem dX0_known_151 : decode cX0_known 151 = .ok (.ifCond .ne 25, 3) := dk_154 0 25 (dk_at dksX0_known_6 10 rfl rfl)
theorem dX0_known_154 : decode cX0_known 154 = .ok (.aload_n 2, 1) := dk_44 (dk_at dksX0_known_6 13 rfl rfl)
theorem dX0_known_155 : decode cX0_known 155 = .ok (.iconst 0, 1) := dk_3 (dk_at dksX0_known_6 14 rfl rfl)
theorem dX0_known_156 : decode cX0_known 156 = .ok (.sipush 320, 3) := dk_17 1 64 (dk_at dksX0_known_6 15 rfl rfl)
theorem dX0_known_159 : decode cX0_known 159 = .ok (.sipush 160, 3) := dk_17 0 160 (dk_at dksX0_known_6 18 rfl rfl)
theorem dX0_known_162 : decode cX0_known 162 = .ok (.invokevirtual 37, 3) := dk_182 0 37 (dk_at dksX0_known_6 21 rfl rfl)
theorem dX0_known_165 : decode cX0_known 165 = .ok (.ldc2_w 35, 3) := dk_20 0 35 (dk_at dksX0_known_7 0 rfl rfl)
theorem dX0_known_168 : decode cX0_known 168 = .ok (.lcmp, 1) := dk_148 (dk_at dksX0_known_7 3 rfl rfl)
theorem dX0_known_169 : decode cX0_known 169 = .ok (.ifCond .ne 7, 3) := dk_154 0 7 (dk_at dksX0_known_7 4 rfl rfl)
theorem dX0_known_172 : decode cX0_known 172 = .ok (.iconst 1, 1) := dk_4 (dk_at dksX0_known_7 7 rfl rfl)
theorem dX0_known_173 : decode cX0_known 173 = .ok (.goto 4, 3) := dk_167 0 4 (dk_at dksX0_known_7 8 rfl rfl)
theorem dX0_known_176 : decode cX0_known 176 = .ok (.iconst 0, 1) := dk_3 (dk_at dksX0_known_7 11 rfl rfl)
theorem dX0_known_177 : decode cX0_known 177 = .ok (.ireturn, 1) := dk_172 (dk_at dksX0_known_7 12 rfl rfl)
abbrev cX0_cell : ByteArray := method_2_code
def yX0_cell : MethodName := ⟨RX0, "cell", "([II)I"⟩
def dkwX0_cell_0 : List UInt8 := [27, 42, 190, 162, 0, 9, 42, 27, 46, 167, 0, 4, 3, 172]
abbrev dktX0_cell_0 : List UInt8 := dkwX0_cell_0 ++ []
theorem dksX0_cell_0 : cX0_cell.data.toList.drop 0 = dktX0_cell_0 := by decide +kernel
theorem dX0_cell_0 : decode cX0_cell 0 = .ok (.iload_n 1, 1) := dk_27 (dk_at dksX0_cell_0 0 rfl rfl)
theorem dX0_cell_1 : decode cX0_cell 1 = .ok (.aload_n 0, 1) := dk_42 (dk_at dksX0_cell_0 1 rfl rfl)
theorem dX0_cell_2 : decode cX0_cell 2 = .ok (.arraylength, 1) := dk_190 (dk_at dksX0_cell_0 2 rfl rfl)
theorem dX0_cell_3 : decode cX0_cell 3 = .ok (.if_icmp .ge 9, 3) := dk_162 0 9 (dk_at dksX0_cell_0 3 rfl rfl)
theorem dX0_cell_6 : decode cX0_cell 6 = .ok (.aload_n 0, 1) := dk_42 (dk_at dksX0_cell_0 6 rfl rfl)
theorem dX0_cell_7 : decode cX0_cell 7 = .ok (.iload_n 1, 1) := dk_27 (dk_at dksX0_cell_0 7 rfl rfl)
theorem dX0_cell_8 : decode cX0_cell 8 = .ok (.iaload, 1) := dk_46 (dk_at dksX0_cell_0 8 rfl rfl)
theorem dX0_cell_9 : decode cX0_cell 9 = .ok (.goto 4, 3) := dk_167 0 4 (dk_at dksX0_cell_0 9 rfl rfl)
theorem dX0_cell_12 : decode cX0_cell 12 = .ok (.iconst 0, 1) := dk_3 (dk_at dksX0_cell_0 12 rfl rfl)
theorem dX0_cell_13 : decode cX0_cell 13 = .ok (.ireturn, 1) := dk_172 (dk_at dksX0_cell_0 13 rfl rfl)
abbrev cX0_own : ByteArray := method_4_code
def yX0_own : MethodName := ⟨RX0, "own", "([II)[J"⟩
def dkwX0_own_5 : List UInt8 := [127, 80, 89, 4, 21, 4, 133, 16, 16, 121, 29, 133, 129, 80, 176]
abbrev dktX0_own_5 : List UInt8 := dkwX0_own_5 ++ []
def dkwX0_own_4 : List UInt8 := [96, 18, 48, 112, 54, 4, 132, 5, 1, 167, 255, 162, 5, 188, 11, 89, 3, 28, 2, 130, 133, 20, 0, 49]
abbrev dktX0_own_4 : List UInt8 := dkwX0_own_4 ++ dktX0_own_5
def dkwX0_own_3 : List UInt8 := [167, 0, 6, 28, 4, 124, 61, 132, 7, 1, 167, 255, 226, 29, 21, 6, 96, 18, 48, 112, 62, 21, 4, 29]
abbrev dktX0_own_3 : List UInt8 := dkwX0_own_3 ++ dktX0_own_4
def dkwX0_own_2 : List UInt8 := [61, 3, 54, 7, 21, 7, 16, 8, 162, 0, 29, 28, 4, 126, 4, 160, 0, 12, 28, 4, 124, 18, 47, 130]
abbrev dktX0_own_2 : List UInt8 := dkwX0_own_2 ++ dktX0_own_3
def dkwX0_own_1 : List UInt8 := [184, 0, 41, 16, 24, 16, 8, 21, 5, 7, 112, 104, 100, 124, 17, 0, 255, 126, 54, 6, 28, 21, 6, 130]
abbrev dktX0_own_1 : List UInt8 := dkwX0_own_1 ++ dktX0_own_2
def dkwX0_own_0 : List UInt8 := [2, 61, 4, 62, 3, 54, 4, 3, 54, 5, 21, 5, 27, 162, 0, 94, 42, 7, 21, 5, 7, 108, 96]
abbrev dktX0_own_0 : List UInt8 := dkwX0_own_0 ++ dktX0_own_1
theorem dksX0_own_0 : cX0_own.data.toList.drop 0 = dktX0_own_0 := by decide +kernel
theorem dksX0_own_1 : cX0_own.data.toList.drop 23 = dktX0_own_1 := dk_seg dksX0_own_0 23 rfl rfl
theorem dksX0_own_2 : cX0_own.data.toList.drop 47 = dktX0_own_2 := dk_seg dksX0_own_1 24 rfl rfl
theorem dksX0_own_3 : cX0_own.data.toList.drop 71 = dktX0_own_3 := dk_seg dksX0_own_2 24 rfl rfl
theorem dksX0_own_4 : cX0_own.data.toList.drop 95 = dktX0_own_4 := dk_seg dksX0_own_3 24 rfl rfl
theorem dksX0_own_5 : cX0_own.data.toList.drop 119 = dktX0_own_5 := dk_seg dksX0_own_4 24 rfl rfl
theorem dX0_own_0 : decode cX0_own 0 = .ok (.iconst (-1), 1) := dk_2 (dk_at dksX0_own_0 0 rfl rfl)
theorem dX0_own_1 : decode cX0_own 1 = .ok (.istore_n 2, 1) := dk_61 (dk_at dksX0_own_0 1 rfl rfl)
theorem dX0_own_2 : decode cX0_own 2 = .ok (.iconst 1, 1) := dk_4 (dk_at dksX0_own_0 2 rfl rfl)
theorem dX0_own_3 : decode cX0_own 3 = .ok (.istore_n 3, 1) := dk_62 (dk_at dksX0_own_0 3 rfl rfl)
theorem dX0_own_4 : decode cX0_own 4 = .ok (.iconst 0, 1) := dk_3 (dk_at dksX0_own_0 4 rfl rfl)
theorem dX0_own_5 : decode cX0_own 5 = .ok (.istore 4, 2) := dk_54 4 (dk_at dksX0_own_0 5 rfl rfl)
theorem dX0_own_7 : decode cX0_own 7 = .ok (.iconst 0, 1) := dk_3 (dk_at dksX0_own_0 7 rfl rfl)
theorem dX0_own_8 : decode cX0_own 8 = .ok (.istore 5, 2) := dk_54 5 (dk_at dksX0_own_0 8 rfl rfl)
theorem dX0_own_10 : decode cX0_own 10 = .ok (.iload 5, 2) := dk_21 5 (dk_at dksX0_own_0 10 rfl rfl)
theorem dX0_own_12 : decode cX0_own 12 = .ok (.iload_n 1, 1) := dk_27 (dk_at dksX0_own_0 12 rfl rfl)
theorem dX0_own_13 : decode cX0_own 13 = .ok (.if_icmp .ge 94, 3) := dk_162 0 94 (dk_at dksX0_own_0 13 rfl rfl)
theorem dX0_own_16 : decode cX0_own 16 = .ok (.aload_n 0, 1) := dk_42 (dk_at dksX0_own_0 16 rfl rfl)
theorem dX0_own_17 : decode cX0_own 17 = .ok (.iconst 4, 1) := dk_7 (dk_at dksX0_own_0 17 rfl rfl)
theorem dX0_own_18 : decode cX0_own 18 = .ok (.iload 5, 2) := dk_21 5 (dk_at dksX0_own_0 18 rfl rfl)
theorem dX0_own_20 : decode cX0_own 20 = .ok (.iconst 4, 1) := dk_7 (dk_at dksX0_own_0 20 rfl rfl)
theorem dX0_own_21 : decode cX0_own 21 = .ok (.idiv, 1) := dk_108 (dk_at dksX0_own_0 21 rfl rfl)
theorem dX0_own_22 : decode cX0_own 22 = .ok (.iadd, 1) := dk_96 (dk_at dksX0_own_0 22 rfl rfl)
theorem dX0_own_23 : decode cX0_own 23 = .ok (.invokestatic 41, 3) := dk_184 0 41 (dk_at dksX0_own_1 0 rfl rfl)
theorem dX0_own_26 : decode cX0_own 26 = .ok (.bipush 24, 2) := dk_16 24 (dk_at dksX0_own_1 3 rfl rfl)
theorem dX0_own_28 : decode cX0_own 28 = .ok (.bipush 8, 2) := dk_16 8 (dk_at dksX0_own_1 5 rfl rfl)
theorem dX0_own_30 : decode cX0_own 30 = .ok (.iload 5, 2) := dk_21 5 (dk_at dksX0_own_1 7 rfl rfl)
theorem dX0_own_32 : decode cX0_own 32 = .ok (.iconst 4, 1) := dk_7 (dk_at dksX0_own_1 9 rfl rfl)
theorem dX0_own_33 : decode cX0_own 33 = .ok (.irem, 1) := dk_112 (dk_at dksX0_own_1 10 rfl rfl)
theorem dX0_own_34 : decode cX0_own 34 = .ok (.imul, 1) := dk_104 (dk_at dksX0_own_1 11 rfl rfl)
theorem dX0_own_35 : decode cX0_own 35 = .ok (.isub, 1) := dk_100 (dk_at dksX0_own_1 12 rfl rfl)
theorem dX0_own_36 : decode cX0_own 36 = .ok (.iushr, 1) := dk_124 (dk_at dksX0_own_1 13 rfl rfl)
theorem dX0_own_37 : decode cX0_own 37 = .ok (.sipush 255, 3) := dk_17 0 255 (dk_at dksX0_own_1 14 rfl rfl)
theorem dX0_own_40 : decode cX0_own 40 = .ok (.iand, 1) := dk_126 (dk_at dksX0_own_1 17 rfl rfl)
theorem dX0_own_41 : decode cX0_own 41 = .ok (.istore 6, 2) := dk_54 6 (dk_at dksX0_own_1 18 rfl rfl)
theorem dX0_own_43 : decode cX0_own 43 = .ok (.iload_n 2, 1) := dk_28 (dk_at dksX0_own_1 20 rfl rfl)
theorem dX0_own_44 : decode cX0_own 44 = .ok (.iload 6, 2) := dk_21 6 (dk_at dksX0_own_1 21 rfl rfl)
theorem dX0_own_46 : decode cX0_own 46 = .ok (.ixor, 1) := dk_130 (dk_at dksX0_own_1 23 rfl rfl)
theorem dX0_own_47 : decode cX0_own 47 = .ok (.istore_n 2, 1) := dk_61 (dk_at dksX0_own_2 0 rfl rfl)
theorem dX0_own_48 : decode cX0_own 48 = .ok (.iconst 0, 1) := dk_3 (dk_at dksX0_own_2 1 rfl rfl)
theorem dX0_own_49 : decode cX0_own 49 = .ok (.istore 7, 2) := dk_54 7 (dk_at dksX0_own_2 2 rfl rfl)
theorem dX0_own_51 : decode cX0_own 51 = .ok (.iload 7, 2) := dk_21 7 (dk_at dksX0_own_2 4 rfl rfl)
theorem dX0_own_53 : decode cX0_own 53 = .ok (.bipush 8, 2) := dk_16 8 (dk_at dksX0_own_2 6 rfl rfl)
theorem dX0_own_55 : decode cX0_own 55 = .ok (.if_icmp .ge 29, 3) := dk_162 0 29 (dk_at dksX0_own_2 8 rfl rfl)
theorem dX0_own_58 : decode cX0_own 58 = .ok (.iload_n 2, 1) := dk_28 (dk_at dksX0_own_2 11 rfl rfl)
theorem dX0_own_59 : decode cX0_own 59 = .ok (.iconst 1, 1) := dk_4 (dk_at dksX0_own_2 12 rfl rfl)
theorem dX0_own_60 : decode cX0_own 60 = .ok (.iand, 1) := dk_126 (dk_at dksX0_own_2 13 rfl rfl)
theorem dX0_own_61 : decode cX0_own 61 = .ok (.iconst 1, 1) := dk_4 (dk_at dksX0_own_2 14 rfl rfl)
theorem dX0_own_62 : decode cX0_own 62 = .ok (.if_icmp .ne 12, 3) := dk_160 0 12 (dk_at dksX0_own_2 15 rfl rfl)
theorem dX0_own_65 : decode cX0_own 65 = .ok (.iload_n 2, 1) := dk_28 (dk_at dksX0_own_2 18 rfl rfl)
theorem dX0_own_66 : decode cX0_own 66 = .ok (.iconst 1, 1) := dk_4 (dk_at dksX0_own_2 19 rfl rfl)
theorem dX0_own_67 : decode cX0_own 67 = .ok (.iushr, 1) := dk_124 (dk_at dksX0_own_2 20 rfl rfl)
theorem dX0_own_68 : decode cX0_own 68 = .ok (.ldc 47, 2) := dk_18 47 (dk_at dksX0_own_2 21 rfl rfl)
theorem dX0_own_70 : decode cX0_own 70 = .ok (.ixor, 1) := dk_130 (dk_at dksX0_own_2 23 rfl rfl)
theorem dX0_own_71 : decode cX0_own 71 = .ok (.goto 6, 3) := dk_167 0 6 (dk_at dksX0_own_3 0 rfl rfl)
theorem dX0_own_74 : decode cX0_own 74 = .ok (.iload_n 2, 1) := dk_28 (dk_at dksX0_own_3 3 rfl rfl)
theorem dX0_own_75 : decode cX0_own 75 = .ok (.iconst 1, 1) := dk_4 (dk_at dksX0_own_3 4 rfl rfl)
theorem dX0_own_76 : decode cX0_own 76 = .ok (.iushr, 1) := dk_124 (dk_at dksX0_own_3 5 rfl rfl)
theorem dX0_own_77 : decode cX0_own 77 = .ok (.istore_n 2, 1) := dk_61 (dk_at dksX0_own_3 6 rfl rfl)
theorem dX0_own_78 : decode cX0_own 78 = .ok (.iinc 7 1, 3) := dk_132 7 1 (dk_at dksX0_own_3 7 rfl rfl)
theorem dX0_own_81 : decode cX0_own 81 = .ok (.goto (-30), 3) := dk_167 255 226 (dk_at dksX0_own_3 10 rfl rfl)
theorem dX0_own_84 : decode cX0_own 84 = .ok (.iload_n 3, 1) := dk_29 (dk_at dksX0_own_3 13 rfl rfl)
theorem dX0_own_85 : decode cX0_own 85 = .ok (.iload 6, 2) := dk_21 6 (dk_at dksX0_own_3 14 rfl rfl)
theorem dX0_own_87 : decode cX0_own 87 = .ok (.iadd, 1) := dk_96 (dk_at dksX0_own_3 16 rfl rfl)
theorem dX0_own_88 : decode cX0_own 88 = .ok (.ldc 48, 2) := dk_18 48 (dk_at dksX0_own_3 17 rfl rfl)
theorem dX0_own_90 : decode cX0_own 90 = .ok (.irem, 1) := dk_112 (dk_at dksX0_own_3 19 rfl rfl)
theorem dX0_own_91 : decode cX0_own 91 = .ok (.istore_n 3, 1) := dk_62 (dk_at dksX0_own_3 20 rfl rfl)
theorem dX0_own_92 : decode cX0_own 92 = .ok (.iload 4, 2) := dk_21 4 (dk_at dksX0_own_3 21 rfl rfl)
theorem dX0_own_94 : decode cX0_own 94 = .ok (.iload_n 3, 1) := dk_29 (dk_at dksX0_own_3 23 rfl rfl)
theorem dX0_own_95 : decode cX0_own 95 = .ok (.iadd, 1) := dk_96 (dk_at dksX0_own_4 0 rfl rfl)
theorem dX0_own_96 : decode cX0_own 96 = .ok (.ldc 48, 2) := dk_18 48 (dk_at dksX0_own_4 1 rfl rfl)
theorem dX0_own_98 : decode cX0_own 98 = .ok (.irem, 1) := dk_112 (dk_at dksX0_own_4 3 rfl rfl)
theorem dX0_own_99 : decode cX0_own 99 = .ok (.istore 4, 2) := dk_54 4 (dk_at dksX0_own_4 4 rfl rfl)
theorem dX0_own_101 : decode cX0_own 101 = .ok (.iinc 5 1, 3) := dk_132 5 1 (dk_at dksX0_own_4 6 rfl rfl)
theorem dX0_own_104 : decode cX0_own 104 = .ok (.goto (-94), 3) := dk_167 255 162 (dk_at dksX0_own_4 9 rfl rfl)
theorem dX0_own_107 : decode cX0_own 107 = .ok (.iconst 2, 1) := dk_5 (dk_at dksX0_own_4 12 rfl rfl)
theorem dX0_own_108 : decode cX0_own 108 = .ok (.newarray .long, 2) := dk_188_11 (dk_at dksX0_own_4 13 rfl rfl)
theorem dX0_own_110 : decode cX0_own 110 = .ok (.dup, 1) := dk_89 (dk_at dksX0_own_4 15 rfl rfl)
theorem dX0_own_111 : decode cX0_own 111 = .ok (.iconst 0, 1) := dk_3 (dk_at dksX0_own_4 16 rfl rfl)
theorem dX0_own_112 : decode cX0_own 112 = .ok (.iload_n 2, 1) := dk_28 (dk_at dksX0_own_4 17 rfl rfl)
theorem dX0_own_113 : decode cX0_own 113 = .ok (.iconst (-1), 1) := dk_2 (dk_at dksX0_own_4 18 rfl rfl)
theorem dX0_own_114 : decode cX0_own 114 = .ok (.ixor, 1) := dk_130 (dk_at dksX0_own_4 19 rfl rfl)
theorem dX0_own_115 : decode cX0_own 115 = .ok (.i2l, 1) := dk_133 (dk_at dksX0_own_4 20 rfl rfl)
theorem dX0_own_116 : decode cX0_own 116 = .ok (.ldc2_w 49, 3) := dk_20 0 49 (dk_at dksX0_own_4 21 rfl rfl)
theorem dX0_own_119 : decode cX0_own 119 = .ok (.land, 1) := dk_127 (dk_at dksX0_own_5 0 rfl rfl)
theorem dX0_own_120 : decode cX0_own 120 = .ok (.lastore, 1) := dk_80 (dk_at dksX0_own_5 1 rfl rfl)
theorem dX0_own_121 : decode cX0_own 121 = .ok (.dup, 1) := dk_89 (dk_at dksX0_own_5 2 rfl rfl)
theorem dX0_own_122 : decode cX0_own 122 = .ok (.iconst 1, 1) := dk_4 (dk_at dksX0_own_5 3 rfl rfl)
theorem dX0_own_123 : decode cX0_own 123 = .ok (.iload 4, 2) := dk_21 4 (dk_at dksX0_own_5 4 rfl rfl)
theorem dX0_own_125 : decode cX0_own 125 = .ok (.i2l, 1) := dk_133 (dk_at dksX0_own_5 6 rfl rfl)
theorem dX0_own_126 : decode cX0_own 126 = .ok (.bipush 16, 2) := dk_16 16 (dk_at dksX0_own_5 7 rfl rfl)
theorem dX0_own_128 : decode cX0_own 128 = .ok (.lshl, 1) := dk_121 (dk_at dksX0_own_5 9 rfl rfl)
theorem dX0_own_129 : decode cX0_own 129 = .ok (.iload_n 3, 1) := dk_29 (dk_at dksX0_own_5 10 rfl rfl)
theorem dX0_own_130 : decode cX0_own 130 = .ok (.i2l, 1) := dk_133 (dk_at dksX0_own_5 11 rfl rfl)
theorem dX0_own_131 : decode cX0_own 131 = .ok (.lor, 1) := dk_129 (dk_at dksX0_own_5 12 rfl rfl)
theorem dX0_own_132 : decode cX0_own 132 = .ok (.lastore, 1) := dk_80 (dk_at dksX0_own_5 13 rfl rfl)
theorem dX0_own_133 : decode cX0_own 133 = .ok (.areturn, 1) := dk_176 (dk_at dksX0_own_5 14 rfl rfl)
abbrev cX0_askedDefined : ByteArray := method_10_code
def yX0_askedDefined : MethodName := ⟨RX0, "askedDefined", "([I)Z"⟩
def dkwX0_askedDefined_15 : List UInt8 := [167, 0, 4, 3, 172]
abbrev dktX0_askedDefined_15 : List UInt8 := dkwX0_askedDefined_15 ++ []
def dkwX0_askedDefined_14 : List UInt8 := [172, 132, 18, 1, 167, 255, 197, 132, 8, 1, 167, 255, 47, 43, 182, 0, 55, 21, 4, 160, 0, 7, 4]
abbrev dktX0_askedDefined_14 : List UInt8 := dkwX0_askedDefined_14 ++ dktX0_askedDefined_15
def dkwX0_askedDefined_13 : List UInt8 := [154, 0, 23, 43, 25, 9, 3, 46, 25, 9, 4, 46, 21, 19, 182, 0, 37, 22, 14, 148, 153, 0, 5, 3]
abbrev dktX0_askedDefined_13 : List UInt8 := dkwX0_askedDefined_13 ++ dktX0_askedDefined_14
def dkwX0_askedDefined_12 : List UInt8 := [25, 16, 21, 18, 46, 54, 19, 43, 25, 9, 3, 46, 25, 9, 4, 46, 21, 19, 182, 0, 64, 22, 12, 148]
abbrev dktX0_askedDefined_12 : List UInt8 := dkwX0_askedDefined_12 ++ dktX0_askedDefined_13
def dkwX0_askedDefined_11 : List UInt8 := [7, 42, 5, 184, 0, 69, 79, 58, 16, 25, 16, 190, 54, 17, 3, 54, 18, 21, 18, 21, 17, 162, 0, 58]
abbrev dktX0_askedDefined_11 : List UInt8 := dkwX0_askedDefined_11 ++ dktX0_askedDefined_12
def dkwX0_askedDefined_10 : List UInt8 := [8, 188, 10, 89, 3, 3, 79, 89, 4, 21, 11, 79, 89, 5, 4, 79, 89, 6, 21, 11, 4, 100, 79, 89]
abbrev dktX0_askedDefined_10 : List UInt8 := dkwX0_askedDefined_10 ++ dktX0_askedDefined_11
def dkwX0_askedDefined_9 : List UInt8 := [148, 154, 0, 21, 43, 25, 9, 3, 46, 25, 9, 4, 46, 182, 0, 14, 22, 14, 148, 153, 0, 5, 3, 172]
abbrev dktX0_askedDefined_9 : List UInt8 := dkwX0_askedDefined_9 ++ dktX0_askedDefined_10
def dkwX0_askedDefined_8 : List UInt8 := [45, 21, 10, 21, 11, 184, 0, 82, 55, 14, 43, 25, 9, 3, 46, 25, 9, 4, 46, 182, 0, 10, 22, 12]
abbrev dktX0_askedDefined_8 : List UInt8 := dkwX0_askedDefined_8 ++ dktX0_askedDefined_9
def dkwX0_askedDefined_7 : List UInt8 := [46, 18, 63, 126, 21, 4, 21, 10, 100, 4, 96, 112, 54, 11, 45, 21, 10, 21, 11, 184, 0, 78, 55, 12]
abbrev dktX0_askedDefined_7 : List UInt8 := dkwX0_askedDefined_7 ++ dktX0_askedDefined_8
def dkwX0_askedDefined_6 : List UInt8 := [25, 6, 21, 8, 50, 58, 9, 25, 9, 3, 46, 18, 63, 126, 21, 4, 4, 96, 112, 54, 10, 25, 9, 4]
abbrev dktX0_askedDefined_6 : List UInt8 := dkwX0_askedDefined_6 ++ dktX0_askedDefined_7
def dkwX0_askedDefined_5 : List UInt8 := [4, 79, 83, 58, 5, 25, 5, 58, 6, 25, 6, 190, 54, 7, 3, 54, 8, 21, 8, 21, 7, 162, 0, 208]
abbrev dktX0_askedDefined_5 : List UInt8 := dkwX0_askedDefined_5 ++ dktX0_askedDefined_6
def dkwX0_askedDefined_4 : List UInt8 := [4, 79, 89, 4, 21, 4, 4, 100, 79, 83, 89, 7, 5, 188, 10, 89, 3, 21, 4, 4, 100, 79, 89, 4]
abbrev dktX0_askedDefined_4 : List UInt8 := dkwX0_askedDefined_4 ++ dktX0_askedDefined_5
def dkwX0_askedDefined_3 : List UInt8 := [79, 83, 89, 5, 5, 188, 10, 89, 3, 21, 4, 79, 89, 4, 8, 79, 83, 89, 6, 5, 188, 10, 89, 3]
abbrev dktX0_askedDefined_3 : List UInt8 := dkwX0_askedDefined_3 ++ dktX0_askedDefined_4
def dkwX0_askedDefined_2 : List UInt8 := [21, 4, 79, 83, 89, 4, 5, 188, 10, 89, 3, 42, 3, 184, 0, 69, 79, 89, 4, 42, 4, 184, 0, 69]
abbrev dktX0_askedDefined_2 : List UInt8 := dkwX0_askedDefined_2 ++ dktX0_askedDefined_3
def dkwX0_askedDefined_1 : List UInt8 := [184, 0, 72, 78, 45, 190, 54, 4, 8, 189, 0, 76, 89, 3, 5, 188, 10, 89, 3, 3, 79, 89, 4]
abbrev dktX0_askedDefined_1 : List UInt8 := dkwX0_askedDefined_1 ++ dktX0_askedDefined_2
def dkwX0_askedDefined_0 : List UInt8 := [187, 0, 7, 89, 183, 0, 9, 76, 4, 42, 16, 44, 184, 0, 69, 17, 0, 255, 126, 96, 61, 43, 42, 28]
abbrev dktX0_askedDefined_0 : List UInt8 := dkwX0_askedDefined_0 ++ dktX0_askedDefined_1
theorem dksX0_askedDefined_0 : cX0_askedDefined.data.toList.drop 0 = dktX0_askedDefined_0 := by decide +kernel
theorem dksX0_askedDefined_1 : cX0_askedDefined.data.toList.drop 24 = dktX0_askedDefined_1 := dk_seg dksX0_askedDefined_0 24 rfl rfl
theorem dksX0_askedDefined_2 : cX0_askedDefined.data.toList.drop 47 = dktX0_askedDefined_2 := dk_seg dksX0_askedDefined_1 23 rfl rfl
theorem dksX0_askedDefined_3 : cX0_askedDefined.data.toList.drop 71 = dktX0_askedDefined_3 := dk_seg dksX0_askedDefined_2 24 rfl rfl
theorem dksX0_askedDefined_4 : cX0_askedDefined.data.toList.drop 95 = dktX0_askedDefined_4 := dk_seg dksX0_askedDefined_3 24 rfl rfl
theorem dksX0_askedDefined_5 : cX0_askedDefined.data.toList.drop 119 = dktX0_askedDefined_5 := dk_seg dksX0_askedDefined_4 24 rfl rfl
theorem dksX0_askedDefined_6 : cX0_askedDefined.data.toList.drop 143 = dktX0_askedDefined_6 := dk_seg dksX0_askedDefined_5 24 rfl rfl
theorem dksX0_askedDefined_7 : cX0_askedDefined.data.toList.drop 167 = dktX0_askedDefined_7 := dk_seg dksX0_askedDefined_6 24 rfl rfl
theorem dksX0_askedDefined_8 : cX0_askedDefined.data.toList.drop 191 = dktX0_askedDefined_8 := dk_seg dksX0_askedDefined_7 24 rfl rfl
theorem dksX0_askedDefined_9 : cX0_askedDefined.data.toList.drop 215 = dktX0_askedDefined_9 := dk_seg dksX0_askedDefined_8 24 rfl rfl
theorem dksX0_askedDefined_10 : cX0_askedDefined.data.toList.drop 239 = dktX0_askedDefined_10 := dk_seg dksX0_askedDefined_9 24 rfl rfl
theorem dksX0_askedDefined_11 : cX0_askedDefined.data.toList.drop 263 = dktX0_askedDefined_11 := dk_seg dksX0_askedDefined_10 24 rfl rfl
theorem dksX0_askedDefined_12 : cX0_askedDefined.data.toList.drop 287 = dktX0_askedDefined_12 := dk_seg dksX0_askedDefined_11 24 rfl rfl
theorem dksX0_askedDefined_13 : cX0_askedDefined.data.toList.drop 311 = dktX0_askedDefined_13 := dk_seg dksX0_askedDefined_12 24 rfl rfl
theorem dksX0_askedDefined_14 : cX0_askedDefined.data.toList.drop 335 = dktX0_askedDefined_14 := dk_seg dksX0_askedDefined_13 24 rfl rfl
theorem dksX0_askedDefined_15 : cX0_askedDefined.data.toList.drop 358 = dktX0_askedDefined_15 := dk_seg dksX0_askedDefined_14 23 rfl rfl
theorem dX0_askedDefined_0 : decode cX0_askedDefined 0 = .ok (.new 7, 3) := dk_187 0 7 (dk_at dksX0_askedDefined_0 0 rfl rfl)
theorem dX0_askedDefined_3 : decode cX0_askedDefined 3 = .ok (.dup, 1) := dk_89 (dk_at dksX0_askedDefined_0 3 rfl rfl)
theorem dX0_askedDefined_4 : decode cX0_askedDefined 4 = .ok (.invokespecial 9, 3) := dk_183 0 9 (dk_at dksX0_askedDefined_0 4 rfl rfl)
theorem dX0_askedDefined_7 : decode cX0_askedDefined 7 = .ok (.astore_n 1, 1) := dk_76 (dk_at dksX0_askedDefined_0 7 rfl rfl)
theorem dX0_askedDefined_8 : decode cX0_askedDefined 8 = .ok (.iconst 1, 1) := dk_4 (dk_at dksX0_askedDefined_0 8 rfl rfl)
theorem dX0_askedDefined_9 : decode cX0_askedDefined 9 = .ok (.aload_n 0, 1) := dk_42 (dk_at dksX0_askedDefined_0 9 rfl rfl)
theorem dX0_askedDefined_10 : decode cX0_askedDefined 10 = .ok (.bipush 44, 2) := dk_16 44 (dk_at dksX0_askedDefined_0 10 rfl rfl)
theorem dX0_askedDefined_12 : decode cX0_askedDefined 12 = .ok (.invokestatic 69, 3) := dk_184 0 69 (dk_at dksX0_askedDefined_0 12 rfl rfl)
theorem dX0_askedDefined_15 : decode cX0_askedDefined 15 = .ok (.sipush 255, 3) := dk_17 0 255 (dk_at dksX0_askedDefined_0 15 rfl rfl)
theorem dX0_askedDefined_18 : decode cX0_askedDefined 18 = .ok (.iand, 1) := dk_126 (dk_at dksX0_askedDefined_0 18 rfl rfl)
theorem dX0_askedDefined_19 : decode cX0_askedDefined 19 = .ok (.iadd, 1) := dk_96 (dk_at dksX0_askedDefined_0 19 rfl rfl)
theorem dX0_askedDefined_20 : decode cX0_askedDefined 20 = .ok (.istore_n 2, 1) := dk_61 (dk_at dksX0_askedDefined_0 20 rfl rfl)
theorem dX0_askedDefined_21 : decode cX0_askedDefined 21 = .ok (.aload_n 1, 1) := dk_43 (dk_at dksX0_askedDefined_0 21 rfl rfl)
theorem dX0_askedDefined_22 : decode cX0_askedDefined 22 = .ok (.aload_n 0, 1) := dk_42 (dk_at dksX0_askedDefined_0 22 rfl rfl)
theorem dX0_askedDefined_23 : decode cX0_askedDefined 23 = .ok (.iload_n 2, 1) := dk_28 (dk_at dksX0_askedDefined_0 23 rfl rfl)
theorem dX0_askedDefined_24 : decode cX0_askedDefined 24 = .ok (.invokestatic 72, 3) := dk_184 0 72 (dk_at dksX0_askedDefined_1 0 rfl rfl)
theorem dX0_askedDefined_27 : decode cX0_askedDefined 27 = .ok (.astore_n 3, 1) := dk_78 (dk_at dksX0_askedDefined_1 3 rfl rfl)
theorem dX0_askedDefined_28 : decode cX0_askedDefined 28 = .ok (.aload_n 3, 1) := dk_45 (dk_at dksX0_askedDefined_1 4 rfl rfl)
theorem dX0_askedDefined_29 : decode cX0_askedDefined 29 = .ok (.arraylength, 1) := dk_190 (dk_at dksX0_askedDefined_1 5 rfl rfl)
theorem dX0_askedDefined_30 : decode cX0_askedDefined 30 = .ok (.istore 4, 2) := dk_54 4 (dk_at dksX0_askedDefined_1 6 rfl rfl)
theorem dX0_askedDefined_32 : decode cX0_askedDefined 32 = .ok (.iconst 5, 1) := dk_8 (dk_at dksX0_askedDefined_1 8 rfl rfl)
theorem dX0_askedDefined_33 : decode cX0_askedDefined 33 = .ok (.anewarray 76, 3) := dk_189 0 76 (dk_at dksX0_askedDefined_1 9 rfl rfl)
theorem dX0_askedDefined_36 : decode cX0_askedDefined 36 = .ok (.dup, 1) := dk_89 (dk_at dksX0_askedDefined_1 12 rfl rfl)
theorem dX0_askedDefined_37 : decode cX0_askedDefined 37 = .ok (.iconst 0, 1) := dk_3 (dk_at dksX0_askedDefined_1 13 rfl rfl)
theorem dX0_askedDefined_38 : decode cX0_askedDefined 38 = .ok (.iconst 2, 1) := dk_5 (dk_at dksX0_askedDefined_1 14 rfl rfl)
theorem dX0_askedDefined_39 : decode cX0_askedDefined 39 = .ok (.newarray .int, 2) := dk_188_10 (dk_at dksX0_askedDefined_1 15 rfl rfl)
theorem dX0_askedDefined_41 : decode cX0_askedDefined 41 = .ok (.dup, 1) := dk_89 (dk_at dksX0_askedDefined_1 17 rfl rfl)
theorem dX0_askedDefined_42 : decode cX0_askedDefined 42 = .ok (.iconst 0, 1) := dk_3 (dk_at dksX0_askedDefined_1 18 rfl rfl)
theorem dX0_askedDefined_43 : decode cX0_askedDefined 43 = .ok (.iconst 0, 1) := dk_3 (dk_at dksX0_askedDefined_1 19 rfl rfl)
theorem dX0_askedDefined_44 : decode cX0_askedDefined 44 = .ok (.iastore, 1) := dk_79 (dk_at dksX0_askedDefined_1 20 rfl rfl)
theorem dX0_askedDefined_45 : decode cX0_askedDefined 45 = .ok (.dup, 1) := dk_89 (dk_at dksX0_askedDefined_1 21 rfl rfl)
theorem dX0_askedDefined_46 : decode cX0_askedDefined 46 = .ok (.iconst 1, 1) := dk_4 (dk_at dksX0_askedDefined_1 22 rfl rfl)
theorem dX0_askedDefined_47 : decode cX0_askedDefined 47 = .ok (.iload 4, 2) := dk_21 4 (dk_at dksX0_askedDefined_2 0 rfl rfl)
theorem dX0_askedDefined_49 : decode cX0_askedDefined 49 = .ok (.iastore, 1) := dk_79 (dk_at dksX0_askedDefined_2 2 rfl rfl)
theorem dX0_askedDefined_50 : decode cX0_askedDefined 50 = .ok (.aastore, 1) := dk_83 (dk_at dksX0_askedDefined_2 3 rfl rfl)
theorem dX0_askedDefined_51 : decode cX0_askedDefined 51 = .ok (.dup, 1) := dk_89 (dk_at dksX0_askedDefined_2 4 rfl rfl)
theorem dX0_askedDefined_52 : decode cX0_askedDefined 52 = .ok (.iconst 1, 1) := dk_4 (dk_at dksX0_askedDefined_2 5 rfl rfl)
theorem dX0_askedDefined_53 : decode cX0_askedDefined 53 = .ok (.iconst 2, 1) := dk_5 (dk_at dksX0_askedDefined_2 6 rfl rfl)
theorem dX0_askedDefined_54 : decode cX0_askedDefined 54 = .ok (.newarray .int, 2) := dk_188_10 (dk_at dksX0_askedDefined_2 7 rfl rfl)
theorem dX0_askedDefined_56 : decode cX0_askedDefined 56 = .ok (.dup, 1) := dk_89 (dk_at dksX0_askedDefined_2 9 rfl rfl)
theorem dX0_askedDefined_57 : decode cX0_askedDefined 57 = .ok (.iconst 0, 1) := dk_3 (dk_at dksX0_askedDefined_2 10 rfl rfl)
theorem dX0_askedDefined_58 : decode cX0_askedDefined 58 = .ok (.aload_n 0, 1) := dk_42 (dk_at dksX0_askedDefined_2 11 rfl rfl)
theorem dX0_askedDefined_59 : decode cX0_askedDefined 59 = .ok (.iconst 0, 1) := dk_3 (dk_at dksX0_askedDefined_2 12 rfl rfl)
theorem dX0_askedDefined_60 : decode cX0_askedDefined 60 = .ok (.invokestatic 69, 3) := dk_184 0 69 (dk_at dksX0_askedDefined_2 13 rfl rfl)
theorem dX0_askedDefined_63 : decode cX0_askedDefined 63 = .ok (.iastore, 1) := dk_79 (dk_at dksX0_askedDefined_2 16 rfl rfl)
theorem dX0_askedDefined_64 : decode cX0_askedDefined 64 = .ok (.dup, 1) := dk_89 (dk_at dksX0_askedDefined_2 17 rfl rfl)
theorem dX0_askedDefined_65 : decode cX0_askedDefined 65 = .ok (.iconst 1, 1) := dk_4 (dk_at dksX0_askedDefined_2 18 rfl rfl)
theorem dX0_askedDefined_66 : decode cX0_askedDefined 66 = .ok (.aload_n 0, 1) := dk_42 (dk_at dksX0_askedDefined_2 19 rfl rfl)
theorem dX0_askedDefined_67 : decode cX0_askedDefined 67 = .ok (.iconst 1, 1) := dk_4 (dk_at dksX0_askedDefined_2 20 rfl rfl)
theorem dX0_askedDefined_68 : decode cX0_askedDefined 68 = .ok (.invokestatic 69, 3) := dk_184 0 69 (dk_at dksX0_askedDefined_2 21 rfl rfl)
theorem dX0_askedDefined_71 : decode cX0_askedDefined 71 = .ok (.iastore, 1) := dk_79 (dk_at dksX0_askedDefined_3 0 rfl rfl)
theorem dX0_askedDefined_72 : decode cX0_askedDefined 72 = .ok (.aastore, 1) := dk_83 (dk_at dksX0_askedDefined_3 1 rfl rfl)
theorem dX0_askedDefined_73 : decode cX0_askedDefined 73 = .ok (.dup, 1) := dk_89 (dk_at dksX0_askedDefined_3 2 rfl rfl)
theorem dX0_askedDefined_74 : decode cX0_askedDefined 74 = .ok (.iconst 2, 1) := dk_5 (dk_at dksX0_askedDefined_3 3 rfl rfl)
theorem dX0_askedDefined_75 : decode cX0_askedDefined 75 = .ok (.iconst 2, 1) := dk_5 (dk_at dksX0_askedDefined_3 4 rfl rfl)
theorem dX0_askedDefined_76 : decode cX0_askedDefined 76 = .ok (.newarray .int, 2) := dk_188_10 (dk_at dksX0_askedDefined_3 5 rfl rfl)
theorem dX0_askedDefined_78 : decode cX0_askedDefined 78 = .ok (.dup, 1) := dk_89 (dk_at dksX0_askedDefined_3 7 rfl rfl)
theorem dX0_askedDefined_79 : decode cX0_askedDefined 79 = .ok (.iconst 0, 1) := dk_3 (dk_at dksX0_askedDefined_3 8 rfl rfl)
theorem dX0_askedDefined_80 : decode cX0_askedDefined 80 = .ok (.iload 4, 2) := dk_21 4 (dk_at dksX0_askedDefined_3 9 rfl rfl)
theorem dX0_askedDefined_82 : decode cX0_askedDefined 82 = .ok (.iastore, 1) := dk_79 (dk_at dksX0_askedDefined_3 11 rfl rfl)
theorem dX0_askedDefined_83 : decode cX0_askedDefined 83 = .ok (.dup, 1) := dk_89 (dk_at dksX0_askedDefined_3 12 rfl rfl)
theorem dX0_askedDefined_84 : decode cX0_askedDefined 84 = .ok (.iconst 1, 1) := dk_4 (dk_at dksX0_askedDefined_3 13 rfl rfl)
theorem dX0_askedDefined_85 : decode cX0_askedDefined 85 = .ok (.iconst 5, 1) := dk_8 (dk_at dksX0_askedDefined_3 14 rfl rfl)
theorem dX0_askedDefined_86 : decode cX0_askedDefined 86 = .ok (.iastore, 1) := dk_79 (dk_at dksX0_askedDefined_3 15 rfl rfl)
theorem dX0_askedDefined_87 : decode cX0_askedDefined 87 = .ok (.aastore, 1) := dk_83 (dk_at dksX0_askedDefined_3 16 rfl rfl)
theorem dX0_askedDefined_88 : decode cX0_askedDefined 88 = .ok (.dup, 1) := dk_89 (dk_at dksX0_askedDefined_3 17 rfl rfl)
theorem dX0_askedDefined_89 : decode cX0_askedDefined 89 = .ok (.iconst 3, 1) := dk_6 (dk_at dksX0_askedDefined_3 18 rfl rfl)
theorem dX0_askedDefined_90 : decode cX0_askedDefined 90 = .ok (.iconst 2, 1) := dk_5 (dk_at dksX0_askedDefined_3 19 rfl rfl)
theorem dX0_askedDefined_91 : decode cX0_askedDefined 91 = .ok (.newarray .int, 2) := dk_188_10 (dk_at dksX0_askedDefined_3 20 rfl rfl)
theorem dX0_askedDefined_93 : decode cX0_askedDefined 93 = .ok (.dup, 1) := dk_89 (dk_at dksX0_askedDefined_3 22 rfl rfl)
theorem dX0_askedDefined_94 : decode cX0_askedDefined 94 = .ok (.iconst 0, 1) := dk_3 (dk_at dksX0_askedDefined_3 23 rfl rfl)
theorem dX0_askedDefined_95 : decode cX0_askedDefined 95 = .ok (.iconst 1, 1) := dk_4 (dk_at dksX0_askedDefined_4 0 rfl rfl)
theorem dX0_askedDefined_96 : decode cX0_askedDefined 96 = .ok (.iastore, 1) := dk_79 (dk_at dksX0_askedDefined_4 1 rfl rfl)
theorem dX0_askedDefined_97 : decode cX0_askedDefined 97 = .ok (.dup, 1) := dk_89 (dk_at dksX0_askedDefined_4 2 rfl rfl)
theorem dX0_askedDefined_98 : decode cX0_askedDefined 98 = .ok (.iconst 1, 1) := dk_4 (dk_at dksX0_askedDefined_4 3 rfl rfl)
theorem dX0_askedDefined_99 : decode cX0_askedDefined 99 = .ok (.iload 4, 2) := dk_21 4 (dk_at dksX0_askedDefined_4 4 rfl rfl)
theorem dX0_askedDefined_101 : decode cX0_askedDefined 101 = .ok (.iconst 1, 1) := dk_4 (dk_at dksX0_askedDefined_4 6 rfl rfl)
theorem dX0_askedDefined_102 : decode cX0_askedDefined 102 = .ok (.isub, 1) := dk_100 (dk_at dksX0_askedDefined_4 7 rfl rfl)
theorem dX0_askedDefined_103 : decode cX0_askedDefined 103 = .ok (.iastore, 1) := dk_79 (dk_at dksX0_askedDefined_4 8 rfl rfl)
theorem dX0_askedDefined_104 : decode cX0_askedDefined 104 = .ok (.aastore, 1) := dk_83 (dk_at dksX0_askedDefined_4 9 rfl rfl)
theorem dX0_askedDefined_105 : decode cX0_askedDefined 105 = .ok (.dup, 1) := dk_89 (dk_at dksX0_askedDefined_4 10 rfl rfl)
theorem dX0_askedDefined_106 : decode cX0_askedDefined 106 = .ok (.iconst 4, 1) := dk_7 (dk_at dksX0_askedDefined_4 11 rfl rfl)
theorem dX0_askedDefined_107 : decode cX0_askedDefined 107 = .ok (.iconst 2, 1) := dk_5 (dk_at dksX0_askedDefined_4 12 rfl rfl)
theorem dX0_askedDefined_108 : decode cX0_askedDefined 108 = .ok (.newarray .int, 2) := dk_188_10 (dk_at dksX0_askedDefined_4 13 rfl rfl)
theorem dX0_askedDefined_110 : decode cX0_askedDefined 110 = .ok (.dup, 1) := dk_89 (dk_at dksX0_askedDefined_4 15 rfl rfl)
theorem dX0_askedDefined_111 : decode cX0_askedDefined 111 = .ok (.iconst 0, 1) := dk_3 (dk_at dksX0_askedDefined_4 16 rfl rfl)
theorem dX0_askedDefined_112 : decode cX0_askedDefined 112 = .ok (.iload 4, 2) := dk_21 4 (dk_at dksX0_askedDefined_4 17 rfl rfl)
theorem dX0_askedDefined_114 : decode cX0_askedDefined 114 = .ok (.iconst 1, 1) := dk_4 (dk_at dksX0_askedDefined_4 19 rfl rfl)
theorem dX0_askedDefined_115 : decode cX0_askedDefined 115 = .ok (.isub, 1) := dk_100 (dk_at dksX0_askedDefined_4 20 rfl rfl)
theorem dX0_askedDefined_116 : decode cX0_askedDefined 116 = .ok (.iastore, 1) := dk_79 (dk_at dksX0_askedDefined_4 21 rfl rfl)
theorem dX0_askedDefined_117 : decode cX0_askedDefined 117 = .ok (.dup, 1) := dk_89 (dk_at dksX0_askedDefined_4 22 rfl rfl)
theorem dX0_askedDefined_118 : decode cX0_askedDefined 118 = .ok (.iconst 1, 1) := dk_4 (dk_at dksX0_askedDefined_4 23 rfl rfl)
theorem dX0_askedDefined_119 : decode cX0_askedDefined 119 = .ok (.iconst 1, 1) := dk_4 (dk_at dksX0_askedDefined_5 0 rfl rfl)
theorem dX0_askedDefined_120 : decode cX0_askedDefined 120 = .ok (.iastore, 1) := dk_79 (dk_at dksX0_askedDefined_5 1 rfl rfl)
theorem dX0_askedDefined_121 : decode cX0_askedDefined 121 = .ok (.aastore, 1) := dk_83 (dk_at dksX0_askedDefined_5 2 rfl rfl)
theorem dX0_askedDefined_122 : decode cX0_askedDefined 122 = .ok (.astore 5, 2) := dk_58 5 (dk_at dksX0_askedDefined_5 3 rfl rfl)
theorem dX0_askedDefined_124 : decode cX0_askedDefined 124 = .ok (.aload 5, 2) := dk_25 5 (dk_at dksX0_askedDefined_5 5 rfl rfl)
theorem dX0_askedDefined_126 : decode cX0_askedDefined 126 = .ok (.astore 6, 2) := dk_58 6 (dk_at dksX0_askedDefined_5 7 rfl rfl)
theorem dX0_askedDefined_128 : decode cX0_askedDefined 128 = .ok (.aload 6, 2) := dk_25 6 (dk_at dksX0_askedDefined_5 9 rfl rfl)
theorem dX0_askedDefined_130 : decode cX0_askedDefined 130 = .ok (.arraylength, 1) := dk_190 (dk_at dksX0_askedDefined_5 11 rfl rfl)
theorem dX0_askedDefined_131 : decode cX0_askedDefined 131 = .ok (.istore 7, 2) := dk_54 7 (dk_at dksX0_askedDefined_5 12 rfl rfl)
theorem dX0_askedDefined_133 : decode cX0_askedDefined 133 = .ok (.iconst 0, 1) := dk_3 (dk_at dksX0_askedDefined_5 14 rfl rfl)
theorem dX0_askedDefined_134 : decode cX0_askedDefined 134 = .ok (.istore 8, 2) := dk_54 8 (dk_at dksX0_askedDefined_5 15 rfl rfl)
theorem dX0_askedDefined_136 : decode cX0_askedDefined 136 = .ok (.iload 8, 2) := dk_21 8 (dk_at dksX0_askedDefined_5 17 rfl rfl)
theorem dX0_askedDefined_138 : decode cX0_askedDefined 138 = .ok (.iload 7, 2) := dk_21 7 (dk_at dksX0_askedDefined_5 19 rfl rfl)
theorem dX0_askedDefined_140 : decode cX0_askedDefined 140 = .ok (.if_icmp .ge 208, 3) := dk_162 0 208 (dk_at dksX0_askedDefined_5 21 rfl rfl)
theorem dX0_askedDefined_143 : decode cX0_askedDefined 143 = .ok (.aload 6, 2) := dk_25 6 (dk_at dksX0_askedDefined_6 0 rfl rfl)
theorem dX0_askedDefined_145 : decode cX0_askedDefined 145 = .ok (.iload 8, 2) := dk_21 8 (dk_at dksX0_askedDefined_6 2 rfl rfl)
theorem dX0_askedDefined_147 : decode cX0_askedDefined 147 = .ok (.aaload, 1) := dk_50 (dk_at dksX0_askedDefined_6 4 rfl rfl)
theorem dX0_askedDefined_148 : decode cX0_askedDefined 148 = .ok (.astore 9, 2) := dk_58 9 (dk_at dksX0_askedDefined_6 5 rfl rfl)
theorem dX0_askedDefined_150 : decode cX0_askedDefined 150 = .ok (.aload 9, 2) := dk_25 9 (dk_at dksX0_askedDefined_6 7 rfl rfl)
theorem dX0_askedDefined_152 : decode cX0_askedDefined 152 = .ok (.iconst 0, 1) := dk_3 (dk_at dksX0_askedDefined_6 9 rfl rfl)
theorem dX0_askedDefined_153 : decode cX0_askedDefined 153 = .ok (.iaload, 1) := dk_46 (dk_at dksX0_askedDefined_6 10 rfl rfl)
theorem dX0_askedDefined_154 : decode cX0_askedDefined 154 = .ok (.ldc 63, 2) := dk_18 63 (dk_at dksX0_askedDefined_6 11 rfl rfl)
theorem dX0_askedDefined_156 : decode cX0_askedDefined 156 = .ok (.iand, 1) := dk_126 (dk_at dksX0_askedDefined_6 13 rfl rfl)
theorem dX0_askedDefined_157 : decode cX0_askedDefined 157 = .ok (.iload 4, 2) := dk_21 4 (dk_at dksX0_askedDefined_6 14 rfl rfl)
theorem dX0_askedDefined_159 : decode cX0_askedDefined 159 = .ok (.iconst 1, 1) := dk_4 (dk_at dksX0_askedDefined_6 16 rfl rfl)
theorem dX0_askedDefined_160 : decode cX0_askedDefined 160 = .ok (.iadd, 1) := dk_96 (dk_at dksX0_askedDefined_6 17 rfl rfl)
theorem dX0_askedDefined_161 : decode cX0_askedDefined 161 = .ok (.irem, 1) := dk_112 (dk_at dksX0_askedDefined_6 18 rfl rfl)
theorem dX0_askedDefined_162 : decode cX0_askedDefined 162 = .ok (.istore 10, 2) := dk_54 10 (dk_at dksX0_askedDefined_6 19 rfl rfl)
theorem dX0_askedDefined_164 : decode cX0_askedDefined 164 = .ok (.aload 9, 2) := dk_25 9 (dk_at dksX0_askedDefined_6 21 rfl rfl)
theorem dX0_askedDefined_166 : decode cX0_askedDefined 166 = .ok (.iconst 1, 1) := dk_4 (dk_at dksX0_askedDefined_6 23 rfl rfl)
theorem dX0_askedDefined_167 : decode cX0_askedDefined 167 = .ok (.iaload, 1) := dk_46 (dk_at dksX0_askedDefined_7 0 rfl rfl)
theorem dX0_askedDefined_168 : decode cX0_askedDefined 168 = .ok (.ldc 63, 2) := dk_18 63 (dk_at dksX0_askedDefined_7 1 rfl rfl)
theorem dX0_askedDefined_170 : decode cX0_askedDefined 170 = .ok (.iand, 1) := dk_126 (dk_at dksX0_askedDefined_7 3 rfl rfl)
theorem dX0_askedDefined_171 : decode cX0_askedDefined 171 = .ok (.iload 4, 2) := dk_21 4 (dk_at dksX0_askedDefined_7 4 rfl rfl)
theorem dX0_askedDefined_173 : decode cX0_askedDefined 173 = .ok (.iload 10, 2) := dk_21 10 (dk_at dksX0_askedDefined_7 6 rfl rfl)
theorem dX0_askedDefined_175 : decode cX0_askedDefined 175 = .ok (.isub, 1) := dk_100 (dk_at dksX0_askedDefined_7 8 rfl rfl)
theorem dX0_askedDefined_176 : decode cX0_askedDefined 176 = .ok (.iconst 1, 1) := dk_4 (dk_at dksX0_askedDefined_7 9 rfl rfl)
theorem dX0_askedDefined_177 : decode cX0_askedDefined 177 = .ok (.iadd, 1) := dk_96 (dk_at dksX0_askedDefined_7 10 rfl rfl)
theorem dX0_askedDefined_178 : decode cX0_askedDefined 178 = .ok (.irem, 1) := dk_112 (dk_at dksX0_askedDefined_7 11 rfl rfl)
theorem dX0_askedDefined_179 : decode cX0_askedDefined 179 = .ok (.istore 11, 2) := dk_54 11 (dk_at dksX0_askedDefined_7 12 rfl rfl)
theorem dX0_askedDefined_181 : decode cX0_askedDefined 181 = .ok (.aload_n 3, 1) := dk_45 (dk_at dksX0_askedDefined_7 14 rfl rfl)
theorem dX0_askedDefined_182 : decode cX0_askedDefined 182 = .ok (.iload 10, 2) := dk_21 10 (dk_at dksX0_askedDefined_7 15 rfl rfl)
theorem dX0_askedDefined_184 : decode cX0_askedDefined 184 = .ok (.iload 11, 2) := dk_21 11 (dk_at dksX0_askedDefined_7 17 rfl rfl)
theorem dX0_askedDefined_186 : decode cX0_askedDefined 186 = .ok (.invokestatic 78, 3) := dk_184 0 78 (dk_at dksX0_askedDefined_7 19 rfl rfl)
theorem dX0_askedDefined_189 : decode cX0_askedDefined 189 = .ok (.lstore 12, 2) := dk_55 12 (dk_at dksX0_askedDefined_7 22 rfl rfl)
theorem dX0_askedDefined_191 : decode cX0_askedDefined 191 = .ok (.aload_n 3, 1) := dk_45 (dk_at dksX0_askedDefined_8 0 rfl rfl)
theorem dX0_askedDefined_192 : decode cX0_askedDefined 192 = .ok (.iload 10, 2) := dk_21 10 (dk_at dksX0_askedDefined_8 1 rfl rfl)
theorem dX0_askedDefined_194 : decode cX0_askedDefined 194 = .ok (.iload 11, 2) := dk_21 11 (dk_at dksX0_askedDefined_8 3 rfl rfl)
theorem dX0_askedDefined_196 : decode cX0_askedDefined 196 = .ok (.invokestatic 82, 3) := dk_184 0 82 (dk_at dksX0_askedDefined_8 5 rfl rfl)
theorem dX0_askedDefined_199 : decode cX0_askedDefined 199 = .ok (.lstore 14, 2) := dk_55 14 (dk_at dksX0_askedDefined_8 8 rfl rfl)
theorem dX0_askedDefined_201 : decode cX0_askedDefined 201 = .ok (.aload_n 1, 1) := dk_43 (dk_at dksX0_askedDefined_8 10 rfl rfl)
theorem dX0_askedDefined_202 : decode cX0_askedDefined 202 = .ok (.aload 9, 2) := dk_25 9 (dk_at dksX0_askedDefined_8 11 rfl rfl)
theorem dX0_askedDefined_204 : decode cX0_askedDefined 204 = .ok (.iconst 0, 1) := dk_3 (dk_at dksX0_askedDefined_8 13 rfl rfl)
theorem dX0_askedDefined_205 : decode cX0_askedDefined 205 = .ok (.iaload, 1) := dk_46 (dk_at dksX0_askedDefined_8 14 rfl rfl)
theorem dX0_askedDefined_206 : decode cX0_askedDefined 206 = .ok (.aload 9, 2) := dk_25 9 (dk_at dksX0_askedDefined_8 15 rfl rfl)
theorem dX0_askedDefined_208 : decode cX0_askedDefined 208 = .ok (.iconst 1, 1) := dk_4 (dk_at dksX0_askedDefined_8 17 rfl rfl)
theorem dX0_askedDefined_209 : decode cX0_askedDefined 209 = .ok (.iaload, 1) := dk_46 (dk_at dksX0_askedDefined_8 18 rfl rfl)
theorem dX0_askedDefined_210 : decode cX0_askedDefined 210 = .ok (.invokevirtual 10, 3) := dk_182 0 10 (dk_at dksX0_askedDefined_8 19 rfl rfl)
theorem dX0_askedDefined_213 : decode cX0_askedDefined 213 = .ok (.lload 12, 2) := dk_22 12 (dk_at dksX0_askedDefined_8 22 rfl rfl)
theorem dX0_askedDefined_215 : decode cX0_askedDefined 215 = .ok (.lcmp, 1) := dk_148 (dk_at dksX0_askedDefined_9 0 rfl rfl)
theorem dX0_askedDefined_216 : decode cX0_askedDefined 216 = .ok (.ifCond .ne 21, 3) := dk_154 0 21 (dk_at dksX0_askedDefined_9 1 rfl rfl)
theorem dX0_askedDefined_219 : decode cX0_askedDefined 219 = .ok (.aload_n 1, 1) := dk_43 (dk_at dksX0_askedDefined_9 4 rfl rfl)
theorem dX0_askedDefined_220 : decode cX0_askedDefined 220 = .ok (.aload 9, 2) := dk_25 9 (dk_at dksX0_askedDefined_9 5 rfl rfl)
theorem dX0_askedDefined_222 : decode cX0_askedDefined 222 = .ok (.iconst 0, 1) := dk_3 (dk_at dksX0_askedDefined_9 7 rfl rfl)
theorem dX0_askedDefined_223 : decode cX0_askedDefined 223 = .ok (.iaload, 1) := dk_46 (dk_at dksX0_askedDefined_9 8 rfl rfl)
theorem dX0_askedDefined_224 : decode cX0_askedDefined 224 = .ok (.aload 9, 2) := dk_25 9 (dk_at dksX0_askedDefined_9 9 rfl rfl)
theorem dX0_askedDefined_226 : decode cX0_askedDefined 226 = .ok (.iconst 1, 1) := dk_4 (dk_at dksX0_askedDefined_9 11 rfl rfl)
theorem dX0_askedDefined_227 : decode cX0_askedDefined 227 = .ok (.iaload, 1) := dk_46 (dk_at dksX0_askedDefined_9 12 rfl rfl)
theorem dX0_askedDefined_228 : decode cX0_askedDefined 228 = .ok (.invokevirtual 14, 3) := dk_182 0 14 (dk_at dksX0_askedDefined_9 13 rfl rfl)
theorem dX0_askedDefined_231 : decode cX0_askedDefined 231 = .ok (.lload 14, 2) := dk_22 14 (dk_at dksX0_askedDefined_9 16 rfl rfl)
theorem dX0_askedDefined_233 : decode cX0_askedDefined 233 = .ok (.lcmp, 1) := dk_148 (dk_at dksX0_askedDefined_9 18 rfl rfl)
theorem dX0_askedDefined_234 : decode cX0_askedDefined 234 = .ok (.ifCond .eq 5, 3) := dk_153 0 5 (dk_at dksX0_askedDefined_9 19 rfl rfl)
theorem dX0_askedDefined_237 : decode cX0_askedDefined 237 = .ok (.iconst 0, 1) := dk_3 (dk_at dksX0_askedDefined_9 22 rfl rfl)
theorem dX0_askedDefined_238 : decode cX0_askedDefined 238 = .ok (.ireturn, 1) := dk_172 (dk_at dksX0_askedDefined_9 23 rfl rfl)
theorem dX0_askedDefined_239 : decode cX0_askedDefined 239 = .ok (.iconst 5, 1) := dk_8 (dk_at dksX0_askedDefined_10 0 rfl rfl)
theorem dX0_askedDefined_240 : decode cX0_askedDefined 240 = .ok (.newarray .int, 2) := dk_188_10 (dk_at dksX0_askedDefined_10 1 rfl rfl)
theorem dX0_askedDefined_242 : decode cX0_askedDefined 242 = .ok (.dup, 1) := dk_89 (dk_at dksX0_askedDefined_10 3 rfl rfl)
theorem dX0_askedDefined_243 : decode cX0_askedDefined 243 = .ok (.iconst 0, 1) := dk_3 (dk_at dksX0_askedDefined_10 4 rfl rfl)
theorem dX0_askedDefined_244 : decode cX0_askedDefined 244 = .ok (.iconst 0, 1) := dk_3 (dk_at dksX0_askedDefined_10 5 rfl rfl)
theorem dX0_askedDefined_245 : decode cX0_askedDefined 245 = .ok (.iastore, 1) := dk_79 (dk_at dksX0_askedDefined_10 6 rfl rfl)
theorem dX0_askedDefined_246 : decode cX0_askedDefined 246 = .ok (.dup, 1) := dk_89 (dk_at dksX0_askedDefined_10 7 rfl rfl)
theorem dX0_askedDefined_247 : decode cX0_askedDefined 247 = .ok (.iconst 1, 1) := dk_4 (dk_at dksX0_askedDefined_10 8 rfl rfl)
theorem dX0_askedDefined_248 : decode cX0_askedDefined 248 = .ok (.iload 11, 2) := dk_21 11 (dk_at dksX0_askedDefined_10 9 rfl rfl)
theorem dX0_askedDefined_250 : decode cX0_askedDefined 250 = .ok (.iastore, 1) := dk_79 (dk_at dksX0_askedDefined_10 11 rfl rfl)
theorem dX0_askedDefined_251 : decode cX0_askedDefined 251 = .ok (.dup, 1) := dk_89 (dk_at dksX0_askedDefined_10 12 rfl rfl)
theorem dX0_askedDefined_252 : decode cX0_askedDefined 252 = .ok (.iconst 2, 1) := dk_5 (dk_at dksX0_askedDefined_10 13 rfl rfl)
theorem dX0_askedDefined_253 : decode cX0_askedDefined 253 = .ok (.iconst 1, 1) := dk_4 (dk_at dksX0_askedDefined_10 14 rfl rfl)
theorem dX0_askedDefined_254 : decode cX0_askedDefined 254 = .ok (.iastore, 1) := dk_79 (dk_at dksX0_askedDefined_10 15 rfl rfl)
theorem dX0_askedDefined_255 : decode cX0_askedDefined 255 = .ok (.dup, 1) := dk_89 (dk_at dksX0_askedDefined_10 16 rfl rfl)
theorem dX0_askedDefined_256 : decode cX0_askedDefined 256 = .ok (.iconst 3, 1) := dk_6 (dk_at dksX0_askedDefined_10 17 rfl rfl)
theorem dX0_askedDefined_257 : decode cX0_askedDefined 257 = .ok (.iload 11, 2) := dk_21 11 (dk_at dksX0_askedDefined_10 18 rfl rfl)
theorem dX0_askedDefined_259 : decode cX0_askedDefined 259 = .ok (.iconst 1, 1) := dk_4 (dk_at dksX0_askedDefined_10 20 rfl rfl)
theorem dX0_askedDefined_260 : decode cX0_askedDefined 260 = .ok (.isub, 1) := dk_100 (dk_at dksX0_askedDefined_10 21 rfl rfl)
theorem dX0_askedDefined_261 : decode cX0_askedDefined 261 = .ok (.iastore, 1) := dk_79 (dk_at dksX0_askedDefined_10 22 rfl rfl)
theorem dX0_askedDefined_262 : decode cX0_askedDefined 262 = .ok (.dup, 1) := dk_89 (dk_at dksX0_askedDefined_10 23 rfl rfl)
theorem dX0_askedDefined_263 : decode cX0_askedDefined 263 = .ok (.iconst 4, 1) := dk_7 (dk_at dksX0_askedDefined_11 0 rfl rfl)
theorem dX0_askedDefined_264 : decode cX0_askedDefined 264 = .ok (.aload_n 0, 1) := dk_42 (dk_at dksX0_askedDefined_11 1 rfl rfl)
theorem dX0_askedDefined_265 : decode cX0_askedDefined 265 = .ok (.iconst 2, 1) := dk_5 (dk_at dksX0_askedDefined_11 2 rfl rfl)
theorem dX0_askedDefined_266 : decode cX0_askedDefined 266 = .ok (.invokestatic 69, 3) := dk_184 0 69 (dk_at dksX0_askedDefined_11 3 rfl rfl)
theorem dX0_askedDefined_269 : decode cX0_askedDefined 269 = .ok (.iastore, 1) := dk_79 (dk_at dksX0_askedDefined_11 6 rfl rfl)
theorem dX0_askedDefined_270 : decode cX0_askedDefined 270 = .ok (.astore 16, 2) := dk_58 16 (dk_at dksX0_askedDefined_11 7 rfl rfl)
theorem dX0_askedDefined_272 : decode cX0_askedDefined 272 = .ok (.aload 16, 2) := dk_25 16 (dk_at dksX0_askedDefined_11 9 rfl rfl)
theorem dX0_askedDefined_274 : decode cX0_askedDefined 274 = .ok (.arraylength, 1) := dk_190 (dk_at dksX0_askedDefined_11 11 rfl rfl)
theorem dX0_askedDefined_275 : decode cX0_askedDefined 275 = .ok (.istore 17, 2) := dk_54 17 (dk_at dksX0_askedDefined_11 12 rfl rfl)
theorem dX0_askedDefined_277 : decode cX0_askedDefined 277 = .ok (.iconst 0, 1) := dk_3 (dk_at dksX0_askedDefined_11 14 rfl rfl)
theorem dX0_askedDefined_278 : decode cX0_askedDefined 278 = .ok (.istore 18, 2) := dk_54 18 (dk_at dksX0_askedDefined_11 15 rfl rfl)
theorem dX0_askedDefined_280 : decode cX0_askedDefined 280 = .ok (.iload 18, 2) := dk_21 18 (dk_at dksX0_askedDefined_11 17 rfl rfl)
theorem dX0_askedDefined_282 : decode cX0_askedDefined 282 = .ok (.iload 17, 2) := dk_21 17 (dk_at dksX0_askedDefined_11 19 rfl rfl)
theorem dX0_askedDefined_284 : decode cX0_askedDefined 284 = .ok (.if_icmp .ge 58, 3) := dk_162 0 58 (dk_at dksX0_askedDefined_11 21 rfl rfl)
theorem dX0_askedDefined_287 : decode cX0_askedDefined 287 = .ok (.aload 16, 2) := dk_25 16 (dk_at dksX0_askedDefined_12 0 rfl rfl)
theorem dX0_askedDefined_289 : decode cX0_askedDefined 289 = .ok (.iload 18, 2) := dk_21 18 (dk_at dksX0_askedDefined_12 2 rfl rfl)
theorem dX0_askedDefined_291 : decode cX0_askedDefined 291 = .ok (.iaload, 1) := dk_46 (dk_at dksX0_askedDefined_12 4 rfl rfl)
theorem dX0_askedDefined_292 : decode cX0_askedDefined 292 = .ok (.istore 19, 2) := dk_54 19 (dk_at dksX0_askedDefined_12 5 rfl rfl)
theorem dX0_askedDefined_294 : decode cX0_askedDefined 294 = .ok (.aload_n 1, 1) := dk_43 (dk_at dksX0_askedDefined_12 7 rfl rfl)
theorem dX0_askedDefined_295 : decode cX0_askedDefined 295 = .ok (.aload 9, 2) := dk_25 9 (dk_at dksX0_askedDefined_12 8 rfl rfl)
theorem dX0_askedDefined_297 : decode cX0_askedDefined 297 = .ok (.iconst 0, 1) := dk_3 (dk_at dksX0_askedDefined_12 10 rfl rfl)
theorem dX0_askedDefined_298 : decode cX0_askedDefined 298 = .ok (.iaload, 1) := dk_46 (dk_at dksX0_askedDefined_12 11 rfl rfl)
theorem dX0_askedDefined_299 : decode cX0_askedDefined 299 = .ok (.aload 9, 2) := dk_25 9 (dk_at dksX0_askedDefined_12 12 rfl rfl)
theorem dX0_askedDefined_301 : decode cX0_askedDefined 301 = .ok (.iconst 1, 1) := dk_4 (dk_at dksX0_askedDefined_12 14 rfl rfl)
theorem dX0_askedDefined_302 : decode cX0_askedDefined 302 = .ok (.iaload, 1) := dk_46 (dk_at dksX0_askedDefined_12 15 rfl rfl)
theorem dX0_askedDefined_303 : decode cX0_askedDefined 303 = .ok (.iload 19, 2) := dk_21 19 (dk_at dksX0_askedDefined_12 16 rfl rfl)
theorem dX0_askedDefined_305 : decode cX0_askedDefined 305 = .ok (.invokevirtual 64, 3) := dk_182 0 64 (dk_at dksX0_askedDefined_12 18 rfl rfl)
theorem dX0_askedDefined_308 : decode cX0_askedDefined 308 = .ok (.lload 12, 2) := dk_22 12 (dk_at dksX0_askedDefined_12 21 rfl rfl)
theorem dX0_askedDefined_310 : decode cX0_askedDefined 310 = .ok (.lcmp, 1) := dk_148 (dk_at dksX0_askedDefined_12 23 rfl rfl)
theorem dX0_askedDefined_311 : decode cX0_askedDefined 311 = .ok (.ifCond .ne 23, 3) := dk_154 0 23 (dk_at dksX0_askedDefined_13 0 rfl rfl)
theorem dX0_askedDefined_314 : decode cX0_askedDefined 314 = .ok (.aload_n 1, 1) := dk_43 (dk_at dksX0_askedDefined_13 3 rfl rfl)
theorem dX0_askedDefined_315 : decode cX0_askedDefined 315 = .ok (.aload 9, 2) := dk_25 9 (dk_at dksX0_askedDefined_13 4 rfl rfl)
theorem dX0_askedDefined_317 : decode cX0_askedDefined 317 = .ok (.iconst 0, 1) := dk_3 (dk_at dksX0_askedDefined_13 6 rfl rfl)
theorem dX0_askedDefined_318 : decode cX0_askedDefined 318 = .ok (.iaload, 1) := dk_46 (dk_at dksX0_askedDefined_13 7 rfl rfl)
theorem dX0_askedDefined_319 : decode cX0_askedDefined 319 = .ok (.aload 9, 2) := dk_25 9 (dk_at dksX0_askedDefined_13 8 rfl rfl)
theorem dX0_askedDefined_321 : decode cX0_askedDefined 321 = .ok (.iconst 1, 1) := dk_4 (dk_at dksX0_askedDefined_13 10 rfl rfl)
theorem dX0_askedDefined_322 : decode cX0_askedDefined 322 = .ok (.iaload, 1) := dk_46 (dk_at dksX0_askedDefined_13 11 rfl rfl)
theorem dX0_askedDefined_323 : decode cX0_askedDefined 323 = .ok (.iload 19, 2) := dk_21 19 (dk_at dksX0_askedDefined_13 12 rfl rfl)
theorem dX0_askedDefined_325 : decode cX0_askedDefined 325 = .ok (.invokevirtual 37, 3) := dk_182 0 37 (dk_at dksX0_askedDefined_13 14 rfl rfl)
theorem dX0_askedDefined_328 : decode cX0_askedDefined 328 = .ok (.lload 14, 2) := dk_22 14 (dk_at dksX0_askedDefined_13 17 rfl rfl)
theorem dX0_askedDefined_330 : decode cX0_askedDefined 330 = .ok (.lcmp, 1) := dk_148 (dk_at dksX0_askedDefined_13 19 rfl rfl)
theorem dX0_askedDefined_331 : decode cX0_askedDefined 331 = .ok (.ifCond .eq 5, 3) := dk_153 0 5 (dk_at dksX0_askedDefined_13 20 rfl rfl)
theorem dX0_askedDefined_334 : decode cX0_askedDefined 334 = .ok (.iconst 0, 1) := dk_3 (dk_at dksX0_askedDefined_13 23 rfl rfl)
theorem dX0_askedDefined_335 : decode cX0_askedDefined 335 = .ok (.ireturn, 1) := dk_172 (dk_at dksX0_askedDefined_14 0 rfl rfl)
theorem dX0_askedDefined_336 : decode cX0_askedDefined 336 = .ok (.iinc 18 1, 3) := dk_132 18 1 (dk_at dksX0_askedDefined_14 1 rfl rfl)
theorem dX0_askedDefined_339 : decode cX0_askedDefined 339 = .ok (.goto (-59), 3) := dk_167 255 197 (dk_at dksX0_askedDefined_14 4 rfl rfl)
theorem dX0_askedDefined_342 : decode cX0_askedDefined 342 = .ok (.iinc 8 1, 3) := dk_132 8 1 (dk_at dksX0_askedDefined_14 7 rfl rfl)
theorem dX0_askedDefined_345 : decode cX0_askedDefined 345 = .ok (.goto (-209), 3) := dk_167 255 47 (dk_at dksX0_askedDefined_14 10 rfl rfl)
theorem dX0_askedDefined_348 : decode cX0_askedDefined 348 = .ok (.aload_n 1, 1) := dk_43 (dk_at dksX0_askedDefined_14 13 rfl rfl)
theorem dX0_askedDefined_349 : decode cX0_askedDefined 349 = .ok (.invokevirtual 55, 3) := dk_182 0 55 (dk_at dksX0_askedDefined_14 14 rfl rfl)
theorem dX0_askedDefined_352 : decode cX0_askedDefined 352 = .ok (.iload 4, 2) := dk_21 4 (dk_at dksX0_askedDefined_14 17 rfl rfl)
theorem dX0_askedDefined_354 : decode cX0_askedDefined 354 = .ok (.if_icmp .ne 7, 3) := dk_160 0 7 (dk_at dksX0_askedDefined_14 19 rfl rfl)
theorem dX0_askedDefined_357 : decode cX0_askedDefined 357 = .ok (.iconst 1, 1) := dk_4 (dk_at dksX0_askedDefined_14 22 rfl rfl)
theorem dX0_askedDefined_358 : decode cX0_askedDefined 358 = .ok (.goto 4, 3) := dk_167 0 4 (dk_at dksX0_askedDefined_15 0 rfl rfl)
theorem dX0_askedDefined_361 : decode cX0_askedDefined 361 = .ok (.iconst 0, 1) := dk_3 (dk_at dksX0_askedDefined_15 3 rfl rfl)
theorem dX0_askedDefined_362 : decode cX0_askedDefined 362 = .ok (.ireturn, 1) := dk_172 (dk_at dksX0_askedDefined_15 4 rfl rfl)
abbrev cX0_askedCell : ByteArray := method_6_code
def yX0_askedCell : MethodName := ⟨RX0, "askedCell", "([II)I"⟩
def dkwX0_askedCell_0 : List UInt8 := [27, 42, 190, 162, 0, 9, 42, 27, 46, 167, 0, 4, 3, 172]
abbrev dktX0_askedCell_0 : List UInt8 := dkwX0_askedCell_0 ++ []
theorem dksX0_askedCell_0 : cX0_askedCell.data.toList.drop 0 = dktX0_askedCell_0 := by decide +kernel
theorem dX0_askedCell_0 : decode cX0_askedCell 0 = .ok (.iload_n 1, 1) := dk_27 (dk_at dksX0_askedCell_0 0 rfl rfl)
theorem dX0_askedCell_1 : decode cX0_askedCell 1 = .ok (.aload_n 0, 1) := dk_42 (dk_at dksX0_askedCell_0 1 rfl rfl)
theorem dX0_askedCell_2 : decode cX0_askedCell 2 = .ok (.arraylength, 1) := dk_190 (dk_at dksX0_askedCell_0 2 rfl rfl)
theorem dX0_askedCell_3 : decode cX0_askedCell 3 = .ok (.if_icmp .ge 9, 3) := dk_162 0 9 (dk_at dksX0_askedCell_0 3 rfl rfl)
theorem dX0_askedCell_6 : decode cX0_askedCell 6 = .ok (.aload_n 0, 1) := dk_42 (dk_at dksX0_askedCell_0 6 rfl rfl)
theorem dX0_askedCell_7 : decode cX0_askedCell 7 = .ok (.iload_n 1, 1) := dk_27 (dk_at dksX0_askedCell_0 7 rfl rfl)
theorem dX0_askedCell_8 : decode cX0_askedCell 8 = .ok (.iaload, 1) := dk_46 (dk_at dksX0_askedCell_0 8 rfl rfl)
theorem dX0_askedCell_9 : decode cX0_askedCell 9 = .ok (.goto 4, 3) := dk_167 0 4 (dk_at dksX0_askedCell_0 9 rfl rfl)
theorem dX0_askedCell_12 : decode cX0_askedCell 12 = .ok (.iconst 0, 1) := dk_3 (dk_at dksX0_askedCell_0 12 rfl rfl)
theorem dX0_askedCell_13 : decode cX0_askedCell 13 = .ok (.ireturn, 1) := dk_172 (dk_at dksX0_askedCell_0 13 rfl rfl)
abbrev cX0_askedPut : ByteArray := method_9_code
def yX0_askedPut : MethodName := ⟨RX0, "askedPut", "(LSumJoin;[II)[I"⟩
def dkwX0_askedPut_7 : List UInt8 := [45, 176]
abbrev dktX0_askedPut_7 : List UInt8 := dkwX0_askedPut_7 ++ []
def dkwX0_askedPut_6 : List UInt8 := [21, 7, 7, 112, 104, 100, 124, 17, 0, 255, 126, 79, 132, 7, 1, 167, 255, 214, 132, 5, 1, 167, 255, 115]
abbrev dktX0_askedPut_6 : List UInt8 := dkwX0_askedPut_6 ++ dktX0_askedPut_7
def dkwX0_askedPut_5 : List UInt8 := [162, 0, 41, 45, 16, 16, 21, 5, 104, 21, 7, 96, 25, 6, 21, 7, 7, 108, 46, 16, 24, 16, 8]
abbrev dktX0_askedPut_5 : List UInt8 := dkwX0_askedPut_5 ++ dktX0_askedPut_6
def dkwX0_askedPut_4 : List UInt8 := [46, 25, 6, 4, 46, 25, 6, 5, 46, 25, 6, 6, 46, 182, 0, 20, 87, 3, 54, 7, 21, 7, 16, 16]
abbrev dktX0_askedPut_4 : List UInt8 := dkwX0_askedPut_4 ++ dktX0_askedPut_5
def dkwX0_askedPut_3 : List UInt8 := [21, 7, 96, 16, 40, 112, 96, 184, 0, 69, 21, 5, 96, 79, 132, 7, 1, 167, 255, 204, 42, 25, 6, 3]
abbrev dktX0_askedPut_3 : List UInt8 := dkwX0_askedPut_3 ++ dktX0_askedPut_4
def dkwX0_askedPut_2 : List UInt8 := [154, 0, 7, 2, 167, 0, 32, 21, 4, 4, 160, 0, 7, 3, 167, 0, 22, 43, 7, 7, 21, 5, 104]
abbrev dktX0_askedPut_2 : List UInt8 := dkwX0_askedPut_2 ++ dktX0_askedPut_3
def dkwX0_askedPut_1 : List UInt8 := [162, 0, 141, 7, 188, 10, 58, 6, 3, 54, 7, 21, 7, 7, 162, 0, 52, 25, 6, 21, 7, 21, 4]
abbrev dktX0_askedPut_1 : List UInt8 := dkwX0_askedPut_1 ++ dktX0_askedPut_2
def dkwX0_askedPut_0 : List UInt8 := [16, 16, 28, 104, 188, 10, 78, 43, 6, 184, 0, 69, 6, 126, 54, 4, 3, 54, 5, 21, 5, 28]
abbrev dktX0_askedPut_0 : List UInt8 := dkwX0_askedPut_0 ++ dktX0_askedPut_1
theorem dksX0_askedPut_0 : cX0_askedPut.data.toList.drop 0 = dktX0_askedPut_0 := by decide +kernel
theorem dksX0_askedPut_1 : cX0_askedPut.data.toList.drop 22 = dktX0_askedPut_1 := dk_seg dksX0_askedPut_0 22 rfl rfl
theorem dksX0_askedPut_2 : cX0_askedPut.data.toList.drop 45 = dktX0_askedPut_2 := dk_seg dksX0_askedPut_1 23 rfl rfl
theorem dksX0_askedPut_3 : cX0_askedPut.data.toList.drop 68 = dktX0_askedPut_3 := dk_seg dksX0_askedPut_2 23 rfl rfl
theorem dksX0_askedPut_4 : cX0_askedPut.data.toList.drop 92 = dktX0_askedPut_4 := dk_seg dksX0_askedPut_3 24 rfl rfl
theorem dksX0_askedPut_5 : cX0_askedPut.data.toList.drop 116 = dktX0_askedPut_5 := dk_seg dksX0_askedPut_4 24 rfl rfl
theorem dksX0_askedPut_6 : cX0_askedPut.data.toList.drop 139 = dktX0_askedPut_6 := dk_seg dksX0_askedPut_5 23 rfl rfl
theorem dksX0_askedPut_7 : cX0_askedPut.data.toList.drop 163 = dktX0_askedPut_7 := dk_seg dksX0_askedPut_6 24 rfl rfl
theorem dX0_askedPut_0 : decode cX0_askedPut 0 = .ok (.bipush 16, 2) := dk_16 16 (dk_at dksX0_askedPut_0 0 rfl rfl)
theorem dX0_askedPut_2 : decode cX0_askedPut 2 = .ok (.iload_n 2, 1) := dk_28 (dk_at dksX0_askedPut_0 2 rfl rfl)
theorem dX0_askedPut_3 : decode cX0_askedPut 3 = .ok (.imul, 1) := dk_104 (dk_at dksX0_askedPut_0 3 rfl rfl)
theorem dX0_askedPut_4 : decode cX0_askedPut 4 = .ok (.newarray .int, 2) := dk_188_10 (dk_at dksX0_askedPut_0 4 rfl rfl)
theorem dX0_askedPut_6 : decode cX0_askedPut 6 = .ok (.astore_n 3, 1) := dk_78 (dk_at dksX0_askedPut_0 6 rfl rfl)
theorem dX0_askedPut_7 : decode cX0_askedPut 7 = .ok (.aload_n 1, 1) := dk_43 (dk_at dksX0_askedPut_0 7 rfl rfl)
theorem dX0_askedPut_8 : decode cX0_askedPut 8 = .ok (.iconst 3, 1) := dk_6 (dk_at dksX0_askedPut_0 8 rfl rfl)
theorem dX0_askedPut_9 : decode cX0_askedPut 9 = .ok (.invokestatic 69, 3) := dk_184 0 69 (dk_at dksX0_askedPut_0 9 rfl rfl)
theorem dX0_askedPut_12 : decode cX0_askedPut 12 = .ok (.iconst 3, 1) := dk_6 (dk_at dksX0_askedPut_0 12 rfl rfl)
theorem dX0_askedPut_13 : decode cX0_askedPut 13 = .ok (.iand, 1) := dk_126 (dk_at dksX0_askedPut_0 13 rfl rfl)
theorem dX0_askedPut_14 : decode cX0_askedPut 14 = .ok (.istore 4, 2) := dk_54 4 (dk_at dksX0_askedPut_0 14 rfl rfl)
theorem dX0_askedPut_16 : decode cX0_askedPut 16 = .ok (.iconst 0, 1) := dk_3 (dk_at dksX0_askedPut_0 16 rfl rfl)
theorem dX0_askedPut_17 : decode cX0_askedPut 17 = .ok (.istore 5, 2) := dk_54 5 (dk_at dksX0_askedPut_0 17 rfl rfl)
theorem dX0_askedPut_19 : decode cX0_askedPut 19 = .ok (.iload 5, 2) := dk_21 5 (dk_at dksX0_askedPut_0 19 rfl rfl)
theorem dX0_askedPut_21 : decode cX0_askedPut 21 = .ok (.iload_n 2, 1) := dk_28 (dk_at dksX0_askedPut_0 21 rfl rfl)
theorem dX0_askedPut_22 : decode cX0_askedPut 22 = .ok (.if_icmp .ge 141, 3) := dk_162 0 141 (dk_at dksX0_askedPut_1 0 rfl rfl)
theorem dX0_askedPut_25 : decode cX0_askedPut 25 = .ok (.iconst 4, 1) := dk_7 (dk_at dksX0_askedPut_1 3 rfl rfl)
theorem dX0_askedPut_26 : decode cX0_askedPut 26 = .ok (.newarray .int, 2) := dk_188_10 (dk_at dksX0_askedPut_1 4 rfl rfl)
theorem dX0_askedPut_28 : decode cX0_askedPut 28 = .ok (.astore 6, 2) := dk_58 6 (dk_at dksX0_askedPut_1 6 rfl rfl)
theorem dX0_askedPut_30 : decode cX0_askedPut 30 = .ok (.iconst 0, 1) := dk_3 (dk_at dksX0_askedPut_1 8 rfl rfl)
theorem dX0_askedPut_31 : decode cX0_askedPut 31 = .ok (.istore 7, 2) := dk_54 7 (dk_at dksX0_askedPut_1 9 rfl rfl)
theorem dX0_askedPut_33 : decode cX0_askedPut 33 = .ok (.iload 7, 2) := dk_21 7 (dk_at dksX0_askedPut_1 11 rfl rfl)
theorem dX0_askedPut_35 : decode cX0_askedPut 35 = .ok (.iconst 4, 1) := dk_7 (dk_at dksX0_askedPut_1 13 rfl rfl)
theorem dX0_askedPut_36 : decode cX0_askedPut 36 = .ok (.if_icmp .ge 52, 3) := dk_162 0 52 (dk_at dksX0_askedPut_1 14 rfl rfl)
theorem dX0_askedPut_39 : decode cX0_askedPut 39 = .ok (.aload 6, 2) := dk_25 6 (dk_at dksX0_askedPut_1 17 rfl rfl)
theorem dX0_askedPut_41 : decode cX0_askedPut 41 = .ok (.iload 7, 2) := dk_21 7 (dk_at dksX0_askedPut_1 19 rfl rfl)
theorem dX0_askedPut_43 : decode cX0_askedPut 43 = .ok (.iload 4, 2) := dk_21 4 (dk_at dksX0_askedPut_1 21 rfl rfl)
theorem dX0_askedPut_45 : decode cX0_askedPut 45 = .ok (.ifCond .ne 7, 3) := dk_154 0 7 (dk_at dksX0_askedPut_2 0 rfl rfl)
theorem dX0_askedPut_48 : decode cX0_askedPut 48 = .ok (.iconst (-1), 1) := dk_2 (dk_at dksX0_askedPut_2 3 rfl rfl)
theorem dX0_askedPut_49 : decode cX0_askedPut 49 = .ok (.goto 32, 3) := dk_167 0 32 (dk_at dksX0_askedPut_2 4 rfl rfl)
theorem dX0_askedPut_52 : decode cX0_askedPut 52 = .ok (.iload 4, 2) := dk_21 4 (dk_at dksX0_askedPut_2 7 rfl rfl)
theorem dX0_askedPut_54 : decode cX0_askedPut 54 = .ok (.iconst 1, 1) := dk_4 (dk_at dksX0_askedPut_2 9 rfl rfl)
theorem dX0_askedPut_55 : decode cX0_askedPut 55 = .ok (.if_icmp .ne 7, 3) := dk_160 0 7 (dk_at dksX0_askedPut_2 10 rfl rfl)
theorem dX0_askedPut_58 : decode cX0_askedPut 58 = .ok (.iconst 0, 1) := dk_3 (dk_at dksX0_askedPut_2 13 rfl rfl)
theorem dX0_askedPut_59 : decode cX0_askedPut 59 = .ok (.goto 22, 3) := dk_167 0 22 (dk_at dksX0_askedPut_2 14 rfl rfl)
theorem dX0_askedPut_62 : decode cX0_askedPut 62 = .ok (.aload_n 1, 1) := dk_43 (dk_at dksX0_askedPut_2 17 rfl rfl)
theorem dX0_askedPut_63 : decode cX0_askedPut 63 = .ok (.iconst 4, 1) := dk_7 (dk_at dksX0_askedPut_2 18 rfl rfl)
theorem dX0_askedPut_64 : decode cX0_askedPut 64 = .ok (.iconst 4, 1) := dk_7 (dk_at dksX0_askedPut_2 19 rfl rfl)
theorem dX0_askedPut_65 : decode cX0_askedPut 65 = .ok (.iload 5, 2) := dk_21 5 (dk_at dksX0_askedPut_2 20 rfl rfl)
theorem dX0_askedPut_67 : decode cX0_askedPut 67 = .ok (.imul, 1) := dk_104 (dk_at dksX0_askedPut_2 22 rfl rfl)
theorem dX0_askedPut_68 : decode cX0_askedPut 68 = .ok (.iload 7, 2) := dk_21 7 (dk_at dksX0_askedPut_3 0 rfl rfl)
theorem dX0_askedPut_70 : decode cX0_askedPut 70 = .ok (.iadd, 1) := dk_96 (dk_at dksX0_askedPut_3 2 rfl rfl)
theorem dX0_askedPut_71 : decode cX0_askedPut 71 = .ok (.bipush 40, 2) := dk_16 40 (dk_at dksX0_askedPut_3 3 rfl rfl)
theorem dX0_askedPut_73 : decode cX0_askedPut 73 = .ok (.irem, 1) := dk_112 (dk_at dksX0_askedPut_3 5 rfl rfl)
theorem dX0_askedPut_74 : decode cX0_askedPut 74 = .ok (.iadd, 1) := dk_96 (dk_at dksX0_askedPut_3 6 rfl rfl)
theorem dX0_askedPut_75 : decode cX0_askedPut 75 = .ok (.invokestatic 69, 3) := dk_184 0 69 (dk_at dksX0_askedPut_3 7 rfl rfl)
theorem dX0_askedPut_78 : decode cX0_askedPut 78 = .ok (.iload 5, 2) := dk_21 5 (dk_at dksX0_askedPut_3 10 rfl rfl)
theorem dX0_askedPut_80 : decode cX0_askedPut 80 = .ok (.iadd, 1) := dk_96 (dk_at dksX0_askedPut_3 12 rfl rfl)
theorem dX0_askedPut_81 : decode cX0_askedPut 81 = .ok (.iastore, 1) := dk_79 (dk_at dksX0_askedPut_3 13 rfl rfl)
theorem dX0_askedPut_82 : decode cX0_askedPut 82 = .ok (.iinc 7 1, 3) := dk_132 7 1 (dk_at dksX0_askedPut_3 14 rfl rfl)
theorem dX0_askedPut_85 : decode cX0_askedPut 85 = .ok (.goto (-52), 3) := dk_167 255 204 (dk_at dksX0_askedPut_3 17 rfl rfl)
theorem dX0_askedPut_88 : decode cX0_askedPut 88 = .ok (.aload_n 0, 1) := dk_42 (dk_at dksX0_askedPut_3 20 rfl rfl)
theorem dX0_askedPut_89 : decode cX0_askedPut 89 = .ok (.aload 6, 2) := dk_25 6 (dk_at dksX0_askedPut_3 21 rfl rfl)
theorem dX0_askedPut_91 : decode cX0_askedPut 91 = .ok (.iconst 0, 1) := dk_3 (dk_at dksX0_askedPut_3 23 rfl rfl)
theorem dX0_askedPut_92 : decode cX0_askedPut 92 = .ok (.iaload, 1) := dk_46 (dk_at dksX0_askedPut_4 0 rfl rfl)
theorem dX0_askedPut_93 : decode cX0_askedPut 93 = .ok (.aload 6, 2) := dk_25 6 (dk_at dksX0_askedPut_4 1 rfl rfl)
theorem dX0_askedPut_95 : decode cX0_askedPut 95 = .ok (.iconst 1, 1) := dk_4 (dk_at dksX0_askedPut_4 3 rfl rfl)
theorem dX0_askedPut_96 : decode cX0_askedPut 96 = .ok (.iaload, 1) := dk_46 (dk_at dksX0_askedPut_4 4 rfl rfl)
theorem dX0_askedPut_97 : decode cX0_askedPut 97 = .ok (.aload 6, 2) := dk_25 6 (dk_at dksX0_askedPut_4 5 rfl rfl)
theorem dX0_askedPut_99 : decode cX0_askedPut 99 = .ok (.iconst 2, 1) := dk_5 (dk_at dksX0_askedPut_4 7 rfl rfl)
theorem dX0_askedPut_100 : decode cX0_askedPut 100 = .ok (.iaload, 1) := dk_46 (dk_at dksX0_askedPut_4 8 rfl rfl)
theorem dX0_askedPut_101 : decode cX0_askedPut 101 = .ok (.aload 6, 2) := dk_25 6 (dk_at dksX0_askedPut_4 9 rfl rfl)
theorem dX0_askedPut_103 : decode cX0_askedPut 103 = .ok (.iconst 3, 1) := dk_6 (dk_at dksX0_askedPut_4 11 rfl rfl)
theorem dX0_askedPut_104 : decode cX0_askedPut 104 = .ok (.iaload, 1) := dk_46 (dk_at dksX0_askedPut_4 12 rfl rfl)
theorem dX0_askedPut_105 : decode cX0_askedPut 105 = .ok (.invokevirtual 20, 3) := dk_182 0 20 (dk_at dksX0_askedPut_4 13 rfl rfl)
theorem dX0_askedPut_108 : decode cX0_askedPut 108 = .ok (.pop, 1) := dk_87 (dk_at dksX0_askedPut_4 16 rfl rfl)
theorem dX0_askedPut_109 : decode cX0_askedPut 109 = .ok (.iconst 0, 1) := dk_3 (dk_at dksX0_askedPut_4 17 rfl rfl)
theorem dX0_askedPut_110 : decode cX0_askedPut 110 = .ok (.istore 7, 2) := dk_54 7 (dk_at dksX0_askedPut_4 18 rfl rfl)
theorem dX0_askedPut_112 : decode cX0_askedPut 112 = .ok (.iload 7, 2) := dk_21 7 (dk_at dksX0_askedPut_4 20 rfl rfl)
theorem dX0_askedPut_114 : decode cX0_askedPut 114 = .ok (.bipush 16, 2) := dk_16 16 (dk_at dksX0_askedPut_4 22 rfl rfl)
theorem dX0_askedPut_116 : decode cX0_askedPut 116 = .ok (.if_icmp .ge 41, 3) := dk_162 0 41 (dk_at dksX0_askedPut_5 0 rfl rfl)
theorem dX0_askedPut_119 : decode cX0_askedPut 119 = .ok (.aload_n 3, 1) := dk_45 (dk_at dksX0_askedPut_5 3 rfl rfl)
theorem dX0_askedPut_120 : decode cX0_askedPut 120 = .ok (.bipush 16, 2) := dk_16 16 (dk_at dksX0_askedPut_5 4 rfl rfl)
theorem dX0_askedPut_122 : decode cX0_askedPut 122 = .ok (.iload 5, 2) := dk_21 5 (dk_at dksX0_askedPut_5 6 rfl rfl)
theorem dX0_askedPut_124 : decode cX0_askedPut 124 = .ok (.imul, 1) := dk_104 (dk_at dksX0_askedPut_5 8 rfl rfl)
theorem dX0_askedPut_125 : decode cX0_askedPut 125 = .ok (.iload 7, 2) := dk_21 7 (dk_at dksX0_askedPut_5 9 rfl rfl)
theorem dX0_askedPut_127 : decode cX0_askedPut 127 = .ok (.iadd, 1) := dk_96 (dk_at dksX0_askedPut_5 11 rfl rfl)
theorem dX0_askedPut_128 : decode cX0_askedPut 128 = .ok (.aload 6, 2) := dk_25 6 (dk_at dksX0_askedPut_5 12 rfl rfl)
theorem dX0_askedPut_130 : decode cX0_askedPut 130 = .ok (.iload 7, 2) := dk_21 7 (dk_at dksX0_askedPut_5 14 rfl rfl)
theorem dX0_askedPut_132 : decode cX0_askedPut 132 = .ok (.iconst 4, 1) := dk_7 (dk_at dksX0_askedPut_5 16 rfl rfl)
theorem dX0_askedPut_133 : decode cX0_askedPut 133 = .ok (.idiv, 1) := dk_108 (dk_at dksX0_askedPut_5 17 rfl rfl)
theorem dX0_askedPut_134 : decode cX0_askedPut 134 = .ok (.iaload, 1) := dk_46 (dk_at dksX0_askedPut_5 18 rfl rfl)
theorem dX0_askedPut_135 : decode cX0_askedPut 135 = .ok (.bipush 24, 2) := dk_16 24 (dk_at dksX0_askedPut_5 19 rfl rfl)
theorem dX0_askedPut_137 : decode cX0_askedPut 137 = .ok (.bipush 8, 2) := dk_16 8 (dk_at dksX0_askedPut_5 21 rfl rfl)
theorem dX0_askedPut_139 : decode cX0_askedPut 139 = .ok (.iload 7, 2) := dk_21 7 (dk_at dksX0_askedPut_6 0 rfl rfl)
theorem dX0_askedPut_141 : decode cX0_askedPut 141 = .ok (.iconst 4, 1) := dk_7 (dk_at dksX0_askedPut_6 2 rfl rfl)
theorem dX0_askedPut_142 : decode cX0_askedPut 142 = .ok (.irem, 1) := dk_112 (dk_at dksX0_askedPut_6 3 rfl rfl)
theorem dX0_askedPut_143 : decode cX0_askedPut 143 = .ok (.imul, 1) := dk_104 (dk_at dksX0_askedPut_6 4 rfl rfl)
theorem dX0_askedPut_144 : decode cX0_askedPut 144 = .ok (.isub, 1) := dk_100 (dk_at dksX0_askedPut_6 5 rfl rfl)
theorem dX0_askedPut_145 : decode cX0_askedPut 145 = .ok (.iushr, 1) := dk_124 (dk_at dksX0_askedPut_6 6 rfl rfl)
theorem dX0_askedPut_146 : decode cX0_askedPut 146 = .ok (.sipush 255, 3) := dk_17 0 255 (dk_at dksX0_askedPut_6 7 rfl rfl)
theorem dX0_askedPut_149 : decode cX0_askedPut 149 = .ok (.iand, 1) := dk_126 (dk_at dksX0_askedPut_6 10 rfl rfl)
theorem dX0_askedPut_150 : decode cX0_askedPut 150 = .ok (.iastore, 1) := dk_79 (dk_at dksX0_askedPut_6 11 rfl rfl)
theorem dX0_askedPut_151 : decode cX0_askedPut 151 = .ok (.iinc 7 1, 3) := dk_132 7 1 (dk_at dksX0_askedPut_6 12 rfl rfl)
theorem dX0_askedPut_154 : decode cX0_askedPut 154 = .ok (.goto (-42), 3) := dk_167 255 214 (dk_at dksX0_askedPut_6 15 rfl rfl)
theorem dX0_askedPut_157 : decode cX0_askedPut 157 = .ok (.iinc 5 1, 3) := dk_132 5 1 (dk_at dksX0_askedPut_6 18 rfl rfl)
theorem dX0_askedPut_160 : decode cX0_askedPut 160 = .ok (.goto (-141), 3) := dk_167 255 115 (dk_at dksX0_askedPut_6 21 rfl rfl)
theorem dX0_askedPut_163 : decode cX0_askedPut 163 = .ok (.aload_n 3, 1) := dk_45 (dk_at dksX0_askedPut_7 0 rfl rfl)
theorem dX0_askedPut_164 : decode cX0_askedPut 164 = .ok (.areturn, 1) := dk_176 (dk_at dksX0_askedPut_7 1 rfl rfl)
abbrev cX0_askedCrc : ByteArray := method_7_code
def yX0_askedCrc : MethodName := ⟨RX0, "askedCrc", "([III)J"⟩
def dkwX0_askedCrc_2 : List UInt8 := [4, 124, 62, 132, 5, 1, 167, 255, 226, 132, 4, 1, 167, 255, 202, 29, 2, 130, 133, 20, 0, 49, 127, 173]
abbrev dktX0_askedCrc_2 : List UInt8 := dkwX0_askedCrc_2 ++ []
def dkwX0_askedCrc_1 : List UInt8 := [21, 5, 16, 8, 162, 0, 29, 29, 4, 126, 4, 160, 0, 12, 29, 4, 124, 18, 47, 130, 167, 0, 6, 29]
abbrev dktX0_askedCrc_1 : List UInt8 := dkwX0_askedCrc_1 ++ dktX0_askedCrc_2
def dkwX0_askedCrc_0 : List UInt8 := [2, 62, 27, 54, 4, 21, 4, 27, 28, 96, 162, 0, 52, 29, 42, 21, 4, 46, 130, 62, 3, 54, 5]
abbrev dktX0_askedCrc_0 : List UInt8 := dkwX0_askedCrc_0 ++ dktX0_askedCrc_1
theorem dksX0_askedCrc_0 : cX0_askedCrc.data.toList.drop 0 = dktX0_askedCrc_0 := by decide +kernel
theorem dksX0_askedCrc_1 : cX0_askedCrc.data.toList.drop 23 = dktX0_askedCrc_1 := dk_seg dksX0_askedCrc_0 23 rfl rfl
theorem dksX0_askedCrc_2 : cX0_askedCrc.data.toList.drop 47 = dktX0_askedCrc_2 := dk_seg dksX0_askedCrc_1 24 rfl rfl
theorem dX0_askedCrc_0 : decode cX0_askedCrc 0 = .ok (.iconst (-1), 1) := dk_2 (dk_at dksX0_askedCrc_0 0 rfl rfl)
theorem dX0_askedCrc_1 : decode cX0_askedCrc 1 = .ok (.istore_n 3, 1) := dk_62 (dk_at dksX0_askedCrc_0 1 rfl rfl)
theorem dX0_askedCrc_2 : decode cX0_askedCrc 2 = .ok (.iload_n 1, 1) := dk_27 (dk_at dksX0_askedCrc_0 2 rfl rfl)
theorem dX0_askedCrc_3 : decode cX0_askedCrc 3 = .ok (.istore 4, 2) := dk_54 4 (dk_at dksX0_askedCrc_0 3 rfl rfl)
theorem dX0_askedCrc_5 : decode cX0_askedCrc 5 = .ok (.iload 4, 2) := dk_21 4 (dk_at dksX0_askedCrc_0 5 rfl rfl)
theorem dX0_askedCrc_7 : decode cX0_askedCrc 7 = .ok (.iload_n 1, 1) := dk_27 (dk_at dksX0_askedCrc_0 7 rfl rfl)
theorem dX0_askedCrc_8 : decode cX0_askedCrc 8 = .ok (.iload_n 2, 1) := dk_28 (dk_at dksX0_askedCrc_0 8 rfl rfl)
theorem dX0_askedCrc_9 : decode cX0_askedCrc 9 = .ok (.iadd, 1) := dk_96 (dk_at dksX0_askedCrc_0 9 rfl rfl)
theorem dX0_askedCrc_10 : decode cX0_askedCrc 10 = .ok (.if_icmp .ge 52, 3) := dk_162 0 52 (dk_at dksX0_askedCrc_0 10 rfl rfl)
theorem dX0_askedCrc_13 : decode cX0_askedCrc 13 = .ok (.iload_n 3, 1) := dk_29 (dk_at dksX0_askedCrc_0 13 rfl rfl)
theorem dX0_askedCrc_14 : decode cX0_askedCrc 14 = .ok (.aload_n 0, 1) := dk_42 (dk_at dksX0_askedCrc_0 14 rfl rfl)
theorem dX0_askedCrc_15 : decode cX0_askedCrc 15 = .ok (.iload 4, 2) := dk_21 4 (dk_at dksX0_askedCrc_0 15 rfl rfl)
theorem dX0_askedCrc_17 : decode cX0_askedCrc 17 = .ok (.iaload, 1) := dk_46 (dk_at dksX0_askedCrc_0 17 rfl rfl)
theorem dX0_askedCrc_18 : decode cX0_askedCrc 18 = .ok (.ixor, 1) := dk_130 (dk_at dksX0_askedCrc_0 18 rfl rfl)
theorem dX0_askedCrc_19 : decode cX0_askedCrc 19 = .ok (.istore_n 3, 1) := dk_62 (dk_at dksX0_askedCrc_0 19 rfl rfl)
theorem dX0_askedCrc_20 : decode cX0_askedCrc 20 = .ok (.iconst 0, 1) := dk_3 (dk_at dksX0_askedCrc_0 20 rfl rfl)
theorem dX0_askedCrc_21 : decode cX0_askedCrc 21 = .ok (.istore 5, 2) := dk_54 5 (dk_at dksX0_askedCrc_0 21 rfl rfl)
theorem dX0_askedCrc_23 : decode cX0_askedCrc 23 = .ok (.iload 5, 2) := dk_21 5 (dk_at dksX0_askedCrc_1 0 rfl rfl)
theorem dX0_askedCrc_25 : decode cX0_askedCrc 25 = .ok (.bipush 8, 2) := dk_16 8 (dk_at dksX0_askedCrc_1 2 rfl rfl)
theorem dX0_askedCrc_27 : decode cX0_askedCrc 27 = .ok (.if_icmp .ge 29, 3) := dk_162 0 29 (dk_at dksX0_askedCrc_1 4 rfl rfl)
theorem dX0_askedCrc_30 : decode cX0_askedCrc 30 = .ok (.iload_n 3, 1) := dk_29 (dk_at dksX0_askedCrc_1 7 rfl rfl)
theorem dX0_askedCrc_31 : decode cX0_askedCrc 31 = .ok (.iconst 1, 1) := dk_4 (dk_at dksX0_askedCrc_1 8 rfl rfl)
theorem dX0_askedCrc_32 : decode cX0_askedCrc 32 = .ok (.iand, 1) := dk_126 (dk_at dksX0_askedCrc_1 9 rfl rfl)
theorem dX0_askedCrc_33 : decode cX0_askedCrc 33 = .ok (.iconst 1, 1) := dk_4 (dk_at dksX0_askedCrc_1 10 rfl rfl)
theorem dX0_askedCrc_34 : decode cX0_askedCrc 34 = .ok (.if_icmp .ne 12, 3) := dk_160 0 12 (dk_at dksX0_askedCrc_1 11 rfl rfl)
theorem dX0_askedCrc_37 : decode cX0_askedCrc 37 = .ok (.iload_n 3, 1) := dk_29 (dk_at dksX0_askedCrc_1 14 rfl rfl)
theorem dX0_askedCrc_38 : decode cX0_askedCrc 38 = .ok (.iconst 1, 1) := dk_4 (dk_at dksX0_askedCrc_1 15 rfl rfl)
theorem dX0_askedCrc_39 : decode cX0_askedCrc 39 = .ok (.iushr, 1) := dk_124 (dk_at dksX0_askedCrc_1 16 rfl rfl)
theorem dX0_askedCrc_40 : decode cX0_askedCrc 40 = .ok (.ldc 47, 2) := dk_18 47 (dk_at dksX0_askedCrc_1 17 rfl rfl)
theorem dX0_askedCrc_42 : decode cX0_askedCrc 42 = .ok (.ixor, 1) := dk_130 (dk_at dksX0_askedCrc_1 19 rfl rfl)
theorem dX0_askedCrc_43 : decode cX0_askedCrc 43 = .ok (.goto 6, 3) := dk_167 0 6 (dk_at dksX0_askedCrc_1 20 rfl rfl)
theorem dX0_askedCrc_46 : decode cX0_askedCrc 46 = .ok (.iload_n 3, 1) := dk_29 (dk_at dksX0_askedCrc_1 23 rfl rfl)
theorem dX0_askedCrc_47 : decode cX0_askedCrc 47 = .ok (.iconst 1, 1) := dk_4 (dk_at dksX0_askedCrc_2 0 rfl rfl)
theorem dX0_askedCrc_48 : decode cX0_askedCrc 48 = .ok (.iushr, 1) := dk_124 (dk_at dksX0_askedCrc_2 1 rfl rfl)
theorem dX0_askedCrc_49 : decode cX0_askedCrc 49 = .ok (.istore_n 3, 1) := dk_62 (dk_at dksX0_askedCrc_2 2 rfl rfl)
theorem dX0_askedCrc_50 : decode cX0_askedCrc 50 = .ok (.iinc 5 1, 3) := dk_132 5 1 (dk_at dksX0_askedCrc_2 3 rfl rfl)
theorem dX0_askedCrc_53 : decode cX0_askedCrc 53 = .ok (.goto (-30), 3) := dk_167 255 226 (dk_at dksX0_askedCrc_2 6 rfl rfl)
theorem dX0_askedCrc_56 : decode cX0_askedCrc 56 = .ok (.iinc 4 1, 3) := dk_132 4 1 (dk_at dksX0_askedCrc_2 9 rfl rfl)
theorem dX0_askedCrc_59 : decode cX0_askedCrc 59 = .ok (.goto (-54), 3) := dk_167 255 202 (dk_at dksX0_askedCrc_2 12 rfl rfl)
theorem dX0_askedCrc_62 : decode cX0_askedCrc 62 = .ok (.iload_n 3, 1) := dk_29 (dk_at dksX0_askedCrc_2 15 rfl rfl)
theorem dX0_askedCrc_63 : decode cX0_askedCrc 63 = .ok (.iconst (-1), 1) := dk_2 (dk_at dksX0_askedCrc_2 16 rfl rfl)
theorem dX0_askedCrc_64 : decode cX0_askedCrc 64 = .ok (.ixor, 1) := dk_130 (dk_at dksX0_askedCrc_2 17 rfl rfl)
theorem dX0_askedCrc_65 : decode cX0_askedCrc 65 = .ok (.i2l, 1) := dk_133 (dk_at dksX0_askedCrc_2 18 rfl rfl)
theorem dX0_askedCrc_66 : decode cX0_askedCrc 66 = .ok (.ldc2_w 49, 3) := dk_20 0 49 (dk_at dksX0_askedCrc_2 19 rfl rfl)
theorem dX0_askedCrc_69 : decode cX0_askedCrc 69 = .ok (.land, 1) := dk_127 (dk_at dksX0_askedCrc_2 22 rfl rfl)
theorem dX0_askedCrc_70 : decode cX0_askedCrc 70 = .ok (.lreturn, 1) := dk_173 (dk_at dksX0_askedCrc_2 23 rfl rfl)
abbrev cX0_askedAdler : ByteArray := method_8_code
def yX0_askedAdler : MethodName := ⟨RX0, "askedAdler", "([III)J"⟩
def dkwX0_askedAdler_2 : List UInt8 := [16, 16, 121, 33, 129, 173]
abbrev dktX0_askedAdler_2 : List UInt8 := dkwX0_askedAdler_2 ++ []
def dkwX0_askedAdler_1 : List UInt8 := [20, 0, 67, 113, 66, 22, 5, 33, 97, 20, 0, 67, 113, 55, 5, 132, 7, 1, 167, 255, 223, 22, 5]
abbrev dktX0_askedAdler_1 : List UInt8 := dkwX0_askedAdler_1 ++ dktX0_askedAdler_2
def dkwX0_askedAdler_0 : List UInt8 := [10, 66, 9, 55, 5, 27, 54, 7, 21, 7, 27, 28, 96, 162, 0, 31, 33, 42, 21, 7, 46, 133, 97]
abbrev dktX0_askedAdler_0 : List UInt8 := dkwX0_askedAdler_0 ++ dktX0_askedAdler_1
theorem dksX0_askedAdler_0 : cX0_askedAdler.data.toList.drop 0 = dktX0_askedAdler_0 := by decide +kernel
theorem dksX0_askedAdler_1 : cX0_askedAdler.data.toList.drop 23 = dktX0_askedAdler_1 := dk_seg dksX0_askedAdler_0 23 rfl rfl
theorem dksX0_askedAdler_2 : cX0_askedAdler.data.toList.drop 46 = dktX0_askedAdler_2 := dk_seg dksX0_askedAdler_1 23 rfl rfl
theorem dX0_askedAdler_0 : decode cX0_askedAdler 0 = .ok (.lconst 1, 1) := dk_10 (dk_at dksX0_askedAdler_0 0 rfl rfl)
theorem dX0_askedAdler_1 : decode cX0_askedAdler 1 = .ok (.lstore_n 3, 1) := dk_66 (dk_at dksX0_askedAdler_0 1 rfl rfl)
theorem dX0_askedAdler_2 : decode cX0_askedAdler 2 = .ok (.lconst 0, 1) := dk_9 (dk_at dksX0_askedAdler_0 2 rfl rfl)
theorem dX0_askedAdler_3 : decode cX0_askedAdler 3 = .ok (.lstore 5, 2) := dk_55 5 (dk_at dksX0_askedAdler_0 3 rfl rfl)
theorem dX0_askedAdler_5 : decode cX0_askedAdler 5 = .ok (.iload_n 1, 1) := dk_27 (dk_at dksX0_askedAdler_0 5 rfl rfl)
theorem dX0_askedAdler_6 : decode cX0_askedAdler 6 = .ok (.istore 7, 2) := dk_54 7 (dk_at dksX0_askedAdler_0 6 rfl rfl)
theorem dX0_askedAdler_8 : decode cX0_askedAdler 8 = .ok (.iload 7, 2) := dk_21 7 (dk_at dksX0_askedAdler_0 8 rfl rfl)
theorem dX0_askedAdler_10 : decode cX0_askedAdler 10 = .ok (.iload_n 1, 1) := dk_27 (dk_at dksX0_askedAdler_0 10 rfl rfl)
theorem dX0_askedAdler_11 : decode cX0_askedAdler 11 = .ok (.iload_n 2, 1) := dk_28 (dk_at dksX0_askedAdler_0 11 rfl rfl)
theorem dX0_askedAdler_12 : decode cX0_askedAdler 12 = .ok (.iadd, 1) := dk_96 (dk_at dksX0_askedAdler_0 12 rfl rfl)
theorem dX0_askedAdler_13 : decode cX0_askedAdler 13 = .ok (.if_icmp .ge 31, 3) := dk_162 0 31 (dk_at dksX0_askedAdler_0 13 rfl rfl)
theorem dX0_askedAdler_16 : decode cX0_askedAdler 16 = .ok (.lload_n 3, 1) := dk_33 (dk_at dksX0_askedAdler_0 16 rfl rfl)
theorem dX0_askedAdler_17 : decode cX0_askedAdler 17 = .ok (.aload_n 0, 1) := dk_42 (dk_at dksX0_askedAdler_0 17 rfl rfl)
theorem dX0_askedAdler_18 : decode cX0_askedAdler 18 = .ok (.iload 7, 2) := dk_21 7 (dk_at dksX0_askedAdler_0 18 rfl rfl)
theorem dX0_askedAdler_20 : decode cX0_askedAdler 20 = .ok (.iaload, 1) := dk_46 (dk_at dksX0_askedAdler_0 20 rfl rfl)
theorem dX0_askedAdler_21 : decode cX0_askedAdler 21 = .ok (.i2l, 1) := dk_133 (dk_at dksX0_askedAdler_0 21 rfl rfl)
theorem dX0_askedAdler_22 : decode cX0_askedAdler 22 = .ok (.ladd, 1) := dk_97 (dk_at dksX0_askedAdler_0 22 rfl rfl)
theorem dX0_askedAdler_23 : decode cX0_askedAdler 23 = .ok (.ldc2_w 67, 3) := dk_20 0 67 (dk_at dksX0_askedAdler_1 0 rfl rfl)
theorem dX0_askedAdler_26 : decode cX0_askedAdler 26 = .ok (.lrem, 1) := dk_113 (dk_at dksX0_askedAdler_1 3 rfl rfl)
theorem dX0_askedAdler_27 : decode cX0_askedAdler 27 = .ok (.lstore_n 3, 1) := dk_66 (dk_at dksX0_askedAdler_1 4 rfl rfl)
theorem dX0_askedAdler_28 : decode cX0_askedAdler 28 = .ok (.lload 5, 2) := dk_22 5 (dk_at dksX0_askedAdler_1 5 rfl rfl)
theorem dX0_askedAdler_30 : decode cX0_askedAdler 30 = .ok (.lload_n 3, 1) := dk_33 (dk_at dksX0_askedAdler_1 7 rfl rfl)
theorem dX0_askedAdler_31 : decode cX0_askedAdler 31 = .ok (.ladd, 1) := dk_97 (dk_at dksX0_askedAdler_1 8 rfl rfl)
theorem dX0_askedAdler_32 : decode cX0_askedAdler 32 = .ok (.ldc2_w 67, 3) := dk_20 0 67 (dk_at dksX0_askedAdler_1 9 rfl rfl)
theorem dX0_askedAdler_35 : decode cX0_askedAdler 35 = .ok (.lrem, 1) := dk_113 (dk_at dksX0_askedAdler_1 12 rfl rfl)
theorem dX0_askedAdler_36 : decode cX0_askedAdler 36 = .ok (.lstore 5, 2) := dk_55 5 (dk_at dksX0_askedAdler_1 13 rfl rfl)
theorem dX0_askedAdler_38 : decode cX0_askedAdler 38 = .ok (.iinc 7 1, 3) := dk_132 7 1 (dk_at dksX0_askedAdler_1 15 rfl rfl)
theorem dX0_askedAdler_41 : decode cX0_askedAdler 41 = .ok (.goto (-33), 3) := dk_167 255 223 (dk_at dksX0_askedAdler_1 18 rfl rfl)
theorem dX0_askedAdler_44 : decode cX0_askedAdler 44 = .ok (.lload 5, 2) := dk_22 5 (dk_at dksX0_askedAdler_1 21 rfl rfl)
theorem dX0_askedAdler_46 : decode cX0_askedAdler 46 = .ok (.bipush 16, 2) := dk_16 16 (dk_at dksX0_askedAdler_2 0 rfl rfl)
theorem dX0_askedAdler_48 : decode cX0_askedAdler 48 = .ok (.lshl, 1) := dk_121 (dk_at dksX0_askedAdler_2 2 rfl rfl)
theorem dX0_askedAdler_49 : decode cX0_askedAdler 49 = .ok (.lload_n 3, 1) := dk_33 (dk_at dksX0_askedAdler_2 3 rfl rfl)
theorem dX0_askedAdler_50 : decode cX0_askedAdler 50 = .ok (.lor, 1) := dk_129 (dk_at dksX0_askedAdler_2 4 rfl rfl)
theorem dX0_askedAdler_51 : decode cX0_askedAdler 51 = .ok (.lreturn, 1) := dk_173 (dk_at dksX0_askedAdler_2 5 rfl rfl)
abbrev cX0_askedBounds : ByteArray := method_11_code
def yX0_askedBounds : MethodName := ⟨RX0, "askedBounds", "()Z"⟩
def dkwX0_askedBounds_7 : List UInt8 := [3, 172, 42, 2, 182, 0, 24, 42, 182, 0, 55, 16, 127, 160, 0, 7, 4, 167, 0, 4, 3, 172]
abbrev dktX0_askedBounds_7 : List UInt8 := dkwX0_askedBounds_7 ++ []
def dkwX0_askedBounds_6 : List UInt8 := [182, 0, 24, 42, 4, 4, 4, 4, 182, 0, 20, 153, 0, 13, 42, 182, 0, 55, 17, 16, 0, 159, 0, 5]
abbrev dktX0_askedBounds_6 : List UInt8 := dkwX0_askedBounds_6 ++ dktX0_askedBounds_7
def dkwX0_askedBounds_5 : List UInt8 := [182, 0, 20, 154, 0, 13, 42, 182, 0, 55, 17, 15, 241, 159, 0, 5, 3, 172, 42, 17, 15, 240]
abbrev dktX0_askedBounds_5 : List UInt8 := dkwX0_askedBounds_5 ++ dktX0_askedBounds_6
def dkwX0_askedBounds_4 : List UInt8 := [182, 0, 55, 17, 16, 0, 159, 0, 5, 3, 172, 42, 17, 15, 241, 182, 0, 24, 42, 4, 4, 4, 4]
abbrev dktX0_askedBounds_4 : List UInt8 := dkwX0_askedBounds_4 ++ dktX0_askedBounds_5
def dkwX0_askedBounds_3 : List UInt8 := [154, 0, 5, 3, 172, 132, 1, 1, 167, 255, 233, 42, 4, 4, 4, 4, 182, 0, 20, 154, 0, 13, 42]
abbrev dktX0_askedBounds_3 : List UInt8 := dkwX0_askedBounds_3 ++ dktX0_askedBounds_4
def dkwX0_askedBounds_2 : List UInt8 := [153, 0, 5, 3, 172, 3, 60, 27, 17, 1, 0, 162, 0, 22, 42, 27, 27, 27, 27, 182, 0, 20]
abbrev dktX0_askedBounds_2 : List UInt8 := dkwX0_askedBounds_2 ++ dktX0_askedBounds_3
def dkwX0_askedBounds_1 : List UInt8 := [154, 0, 26, 42, 6, 7, 8, 182, 0, 37, 10, 148, 154, 0, 14, 42, 2, 2, 182, 0, 10, 9, 148]
abbrev dktX0_askedBounds_1 : List UInt8 := dkwX0_askedBounds_1 ++ dktX0_askedBounds_2
def dkwX0_askedBounds_0 : List UInt8 := [187, 0, 7, 89, 183, 0, 9, 75, 42, 182, 0, 55, 154, 0, 38, 42, 6, 7, 8, 182, 0, 64, 9, 148]
abbrev dktX0_askedBounds_0 : List UInt8 := dkwX0_askedBounds_0 ++ dktX0_askedBounds_1
theorem dksX0_askedBounds_0 : cX0_askedBounds.data.toList.drop 0 = dktX0_askedBounds_0 := by decide +kernel
theorem dksX0_askedBounds_1 : cX0_askedBounds.data.toList.drop 24 = dktX0_askedBounds_1 := dk_seg dksX0_askedBounds_0 24 rfl rfl
theorem dksX0_askedBounds_2 : cX0_askedBounds.data.toList.drop 47 = dktX0_askedBounds_2 := dk_seg dksX0_askedBounds_1 23 rfl rfl
theorem dksX0_askedBounds_3 : cX0_askedBounds.data.toList.drop 69 = dktX0_askedBounds_3 := dk_seg dksX0_askedBounds_2 22 rfl rfl
theorem dksX0_askedBounds_4 : cX0_askedBounds.data.toList.drop 92 = dktX0_askedBounds_4 := dk_seg dksX0_askedBounds_3 23 rfl rfl
theorem dksX0_askedBounds_5 : cX0_askedBounds.data.toList.drop 115 = dktX0_askedBounds_5 := dk_seg dksX0_askedBounds_4 23 rfl rfl
theorem dksX0_askedBounds_6 : cX0_askedBounds.data.toList.drop 137 = dktX0_askedBounds_6 := dk_seg dksX0_askedBounds_5 22 rfl rfl
theorem dksX0_askedBounds_7 : cX0_askedBounds.data.toList.drop 161 = dktX0_askedBounds_7 := dk_seg dksX0_askedBounds_6 24 rfl rfl
theorem dX0_askedBounds_0 : decode cX0_askedBounds 0 = .ok (.new 7, 3) := dk_187 0 7 (dk_at dksX0_askedBounds_0 0 rfl rfl)
theorem dX0_askedBounds_3 : decode cX0_askedBounds 3 = .ok (.dup, 1) := dk_89 (dk_at dksX0_askedBounds_0 3 rfl rfl)
theorem dX0_askedBounds_4 : decode cX0_askedBounds 4 = .ok (.invokespecial 9, 3) := dk_183 0 9 (dk_at dksX0_askedBounds_0 4 rfl rfl)
theorem dX0_askedBounds_7 : decode cX0_askedBounds 7 = .ok (.astore_n 0, 1) := dk_75 (dk_at dksX0_askedBounds_0 7 rfl rfl)
theorem dX0_askedBounds_8 : decode cX0_askedBounds 8 = .ok (.aload_n 0, 1) := dk_42 (dk_at dksX0_askedBounds_0 8 rfl rfl)
theorem dX0_askedBounds_9 : decode cX0_askedBounds 9 = .ok (.invokevirtual 55, 3) := dk_182 0 55 (dk_at dksX0_askedBounds_0 9 rfl rfl)
theorem dX0_askedBounds_12 : decode cX0_askedBounds 12 = .ok (.ifCond .ne 38, 3) := dk_154 0 38 (dk_at dksX0_askedBounds_0 12 rfl rfl)
theorem dX0_askedBounds_15 : decode cX0_askedBounds 15 = .ok (.aload_n 0, 1) := dk_42 (dk_at dksX0_askedBounds_0 15 rfl rfl)
theorem dX0_askedBounds_16 : decode cX0_askedBounds 16 = .ok (.iconst 3, 1) := dk_6 (dk_at dksX0_askedBounds_0 16 rfl rfl)
theorem dX0_askedBounds_17 : decode cX0_askedBounds 17 = .ok (.iconst 4, 1) := dk_7 (dk_at dksX0_askedBounds_0 17 rfl rfl)
theorem dX0_askedBounds_18 : decode cX0_askedBounds 18 = .ok (.iconst 5, 1) := dk_8 (dk_at dksX0_askedBounds_0 18 rfl rfl)
theorem dX0_askedBounds_19 : decode cX0_askedBounds 19 = .ok (.invokevirtual 64, 3) := dk_182 0 64 (dk_at dksX0_askedBounds_0 19 rfl rfl)
theorem dX0_askedBounds_22 : decode cX0_askedBounds 22 = .ok (.lconst 0, 1) := dk_9 (dk_at dksX0_askedBounds_0 22 rfl rfl)
theorem dX0_askedBounds_23 : decode cX0_askedBounds 23 = .ok (.lcmp, 1) := dk_148 (dk_at dksX0_askedBounds_0 23 rfl rfl)
theorem dX0_askedBounds_24 : decode cX0_askedBounds 24 = .ok (.ifCond .ne 26, 3) := dk_154 0 26 (dk_at dksX0_askedBounds_1 0 rfl rfl)
theorem dX0_askedBounds_27 : decode cX0_askedBounds 27 = .ok (.aload_n 0, 1) := dk_42 (dk_at dksX0_askedBounds_1 3 rfl rfl)
theorem dX0_askedBounds_28 : decode cX0_askedBounds 28 = .ok (.iconst 3, 1) := dk_6 (dk_at dksX0_askedBounds_1 4 rfl rfl)
theorem dX0_askedBounds_29 : decode cX0_askedBounds 29 = .ok (.iconst 4, 1) := dk_7 (dk_at dksX0_askedBounds_1 5 rfl rfl)
theorem dX0_askedBounds_30 : decode cX0_askedBounds 30 = .ok (.iconst 5, 1) := dk_8 (dk_at dksX0_askedBounds_1 6 rfl rfl)
theorem dX0_askedBounds_31 : decode cX0_askedBounds 31 = .ok (.invokevirtual 37, 3) := dk_182 0 37 (dk_at dksX0_askedBounds_1 7 rfl rfl)
theorem dX0_askedBounds_34 : decode cX0_askedBounds 34 = .ok (.lconst 1, 1) := dk_10 (dk_at dksX0_askedBounds_1 10 rfl rfl)
theorem dX0_askedBounds_35 : decode cX0_askedBounds 35 = .ok (.lcmp, 1) := dk_148 (dk_at dksX0_askedBounds_1 11 rfl rfl)
theorem dX0_askedBounds_36 : decode cX0_askedBounds 36 = .ok (.ifCond .ne 14, 3) := dk_154 0 14 (dk_at dksX0_askedBounds_1 12 rfl rfl)
theorem dX0_askedBounds_39 : decode cX0_askedBounds 39 = .ok (.aload_n 0, 1) := dk_42 (dk_at dksX0_askedBounds_1 15 rfl rfl)
theorem dX0_askedBounds_40 : decode cX0_askedBounds 40 = .ok (.iconst (-1), 1) := dk_2 (dk_at dksX0_askedBounds_1 16 rfl rfl)
theorem dX0_askedBounds_41 : decode cX0_askedBounds 41 = .ok (.iconst (-1), 1) := dk_2 (dk_at dksX0_askedBounds_1 17 rfl rfl)
theorem dX0_askedBounds_42 : decode cX0_askedBounds 42 = .ok (.invokevirtual 10, 3) := dk_182 0 10 (dk_at dksX0_askedBounds_1 18 rfl rfl)
theorem dX0_askedBounds_45 : decode cX0_askedBounds 45 = .ok (.lconst 0, 1) := dk_9 (dk_at dksX0_askedBounds_1 21 rfl rfl)
theorem dX0_askedBounds_46 : decode cX0_askedBounds 46 = .ok (.lcmp, 1) := dk_148 (dk_at dksX0_askedBounds_1 22 rfl rfl)
theorem dX0_askedBounds_47 : decode cX0_askedBounds 47 = .ok (.ifCond .eq 5, 3) := dk_153 0 5 (dk_at dksX0_askedBounds_2 0 rfl rfl)
theorem dX0_askedBounds_50 : decode cX0_askedBounds 50 = .ok (.iconst 0, 1) := dk_3 (dk_at dksX0_askedBounds_2 3 rfl rfl)
theorem dX0_askedBounds_51 : decode cX0_askedBounds 51 = .ok (.ireturn, 1) := dk_172 (dk_at dksX0_askedBounds_2 4 rfl rfl)
theorem dX0_askedBounds_52 : decode cX0_askedBounds 52 = .ok (.iconst 0, 1) := dk_3 (dk_at dksX0_askedBounds_2 5 rfl rfl)
theorem dX0_askedBounds_53 : decode cX0_askedBounds 53 = .ok (.istore_n 1, 1) := dk_60 (dk_at dksX0_askedBounds_2 6 rfl rfl)
theorem dX0_askedBounds_54 : decode cX0_askedBounds 54 = .ok (.iload_n 1, 1) := dk_27 (dk_at dksX0_askedBounds_2 7 rfl rfl)
theorem dX0_askedBounds_55 : decode cX0_askedBounds 55 = .ok (.sipush 256, 3) := dk_17 1 0 (dk_at dksX0_askedBounds_2 8 rfl rfl)
theorem dX0_askedBounds_58 : decode cX0_askedBounds 58 = .ok (.if_icmp .ge 22, 3) := dk_162 0 22 (dk_at dksX0_askedBounds_2 11 rfl rfl)
theorem dX0_askedBounds_61 : decode cX0_askedBounds 61 = .ok (.aload_n 0, 1) := dk_42 (dk_at dksX0_askedBounds_2 14 rfl rfl)
theorem dX0_askedBounds_62 : decode cX0_askedBounds 62 = .ok (.iload_n 1, 1) := dk_27 (dk_at dksX0_askedBounds_2 15 rfl rfl)
theorem dX0_askedBounds_63 : decode cX0_askedBounds 63 = .ok (.iload_n 1, 1) := dk_27 (dk_at dksX0_askedBounds_2 16 rfl rfl)
theorem dX0_askedBounds_64 : decode cX0_askedBounds 64 = .ok (.iload_n 1, 1) := dk_27 (dk_at dksX0_askedBounds_2 17 rfl rfl)
theorem dX0_askedBounds_65 : decode cX0_askedBounds 65 = .ok (.iload_n 1, 1) := dk_27 (dk_at dksX0_askedBounds_2 18 rfl rfl)
theorem dX0_askedBounds_66 : decode cX0_askedBounds 66 = .ok (.invokevirtual 20, 3) := dk_182 0 20 (dk_at dksX0_askedBounds_2 19 rfl rfl)
theorem dX0_askedBounds_69 : decode cX0_askedBounds 69 = .ok (.ifCond .ne 5, 3) := dk_154 0 5 (dk_at dksX0_askedBounds_3 0 rfl rfl)
theorem dX0_askedBounds_72 : decode cX0_askedBounds 72 = .ok (.iconst 0, 1) := dk_3 (dk_at dksX0_askedBounds_3 3 rfl rfl)
theorem dX0_askedBounds_73 : decode cX0_askedBounds 73 = .ok (.ireturn, 1) := dk_172 (dk_at dksX0_askedBounds_3 4 rfl rfl)
theorem dX0_askedBounds_74 : decode cX0_askedBounds 74 = .ok (.iinc 1 1, 3) := dk_132 1 1 (dk_at dksX0_askedBounds_3 5 rfl rfl)
theorem dX0_askedBounds_77 : decode cX0_askedBounds 77 = .ok (.goto (-23), 3) := dk_167 255 233 (dk_at dksX0_askedBounds_3 8 rfl rfl)
theorem dX0_askedBounds_80 : decode cX0_askedBounds 80 = .ok (.aload_n 0, 1) := dk_42 (dk_at dksX0_askedBounds_3 11 rfl rfl)
theorem dX0_askedBounds_81 : decode cX0_askedBounds 81 = .ok (.iconst 1, 1) := dk_4 (dk_at dksX0_askedBounds_3 12 rfl rfl)
theorem dX0_askedBounds_82 : decode cX0_askedBounds 82 = .ok (.iconst 1, 1) := dk_4 (dk_at dksX0_askedBounds_3 13 rfl rfl)
theorem dX0_askedBounds_83 : decode cX0_askedBounds 83 = .ok (.iconst 1, 1) := dk_4 (dk_at dksX0_askedBounds_3 14 rfl rfl)
theorem dX0_askedBounds_84 : decode cX0_askedBounds 84 = .ok (.iconst 1, 1) := dk_4 (dk_at dksX0_askedBounds_3 15 rfl rfl)
theorem dX0_askedBounds_85 : decode cX0_askedBounds 85 = .ok (.invokevirtual 20, 3) := dk_182 0 20 (dk_at dksX0_askedBounds_3 16 rfl rfl)
theorem dX0_askedBounds_88 : decode cX0_askedBounds 88 = .ok (.ifCond .ne 13, 3) := dk_154 0 13 (dk_at dksX0_askedBounds_3 19 rfl rfl)
theorem dX0_askedBounds_91 : decode cX0_askedBounds 91 = .ok (.aload_n 0, 1) := dk_42 (dk_at dksX0_askedBounds_3 22 rfl rfl)
theorem dX0_askedBounds_92 : decode cX0_askedBounds 92 = .ok (.invokevirtual 55, 3) := dk_182 0 55 (dk_at dksX0_askedBounds_4 0 rfl rfl)
theorem dX0_askedBounds_95 : decode cX0_askedBounds 95 = .ok (.sipush 4096, 3) := dk_17 16 0 (dk_at dksX0_askedBounds_4 3 rfl rfl)
theorem dX0_askedBounds_98 : decode cX0_askedBounds 98 = .ok (.if_icmp .eq 5, 3) := dk_159 0 5 (dk_at dksX0_askedBounds_4 6 rfl rfl)
theorem dX0_askedBounds_101 : decode cX0_askedBounds 101 = .ok (.iconst 0, 1) := dk_3 (dk_at dksX0_askedBounds_4 9 rfl rfl)
theorem dX0_askedBounds_102 : decode cX0_askedBounds 102 = .ok (.ireturn, 1) := dk_172 (dk_at dksX0_askedBounds_4 10 rfl rfl)
theorem dX0_askedBounds_103 : decode cX0_askedBounds 103 = .ok (.aload_n 0, 1) := dk_42 (dk_at dksX0_askedBounds_4 11 rfl rfl)
theorem dX0_askedBounds_104 : decode cX0_askedBounds 104 = .ok (.sipush 4081, 3) := dk_17 15 241 (dk_at dksX0_askedBounds_4 12 rfl rfl)
theorem dX0_askedBounds_107 : decode cX0_askedBounds 107 = .ok (.invokevirtual 24, 3) := dk_182 0 24 (dk_at dksX0_askedBounds_4 15 rfl rfl)
theorem dX0_askedBounds_110 : decode cX0_askedBounds 110 = .ok (.aload_n 0, 1) := dk_42 (dk_at dksX0_askedBounds_4 18 rfl rfl)
theorem dX0_askedBounds_111 : decode cX0_askedBounds 111 = .ok (.iconst 1, 1) := dk_4 (dk_at dksX0_askedBounds_4 19 rfl rfl)
theorem dX0_askedBounds_112 : decode cX0_askedBounds 112 = .ok (.iconst 1, 1) := dk_4 (dk_at dksX0_askedBounds_4 20 rfl rfl)
theorem dX0_askedBounds_113 : decode cX0_askedBounds 113 = .ok (.iconst 1, 1) := dk_4 (dk_at dksX0_askedBounds_4 21 rfl rfl)
theorem dX0_askedBounds_114 : decode cX0_askedBounds 114 = .ok (.iconst 1, 1) := dk_4 (dk_at dksX0_askedBounds_4 22 rfl rfl)
theorem dX0_askedBounds_115 : decode cX0_askedBounds 115 = .ok (.invokevirtual 20, 3) := dk_182 0 20 (dk_at dksX0_askedBounds_5 0 rfl rfl)
theorem dX0_askedBounds_118 : decode cX0_askedBounds 118 = .ok (.ifCond .ne 13, 3) := dk_154 0 13 (dk_at dksX0_askedBounds_5 3 rfl rfl)
theorem dX0_askedBounds_121 : decode cX0_askedBounds 121 = .ok (.aload_n 0, 1) := dk_42 (dk_at dksX0_askedBounds_5 6 rfl rfl)
theorem dX0_askedBounds_122 : decode cX0_askedBounds 122 = .ok (.invokevirtual 55, 3) := dk_182 0 55 (dk_at dksX0_askedBounds_5 7 rfl rfl)
theorem dX0_askedBounds_125 : decode cX0_askedBounds 125 = .ok (.sipush 4081, 3) := dk_17 15 241 (dk_at dksX0_askedBounds_5 10 rfl rfl)
theorem dX0_askedBounds_128 : decode cX0_askedBounds 128 = .ok (.if_icmp .eq 5, 3) := dk_159 0 5 (dk_at dksX0_askedBounds_5 13 rfl rfl)
theorem dX0_askedBounds_131 : decode cX0_askedBounds 131 = .ok (.iconst 0, 1) := dk_3 (dk_at dksX0_askedBounds_5 16 rfl rfl)
theorem dX0_askedBounds_132 : decode cX0_askedBounds 132 = .ok (.ireturn, 1) := dk_172 (dk_at dksX0_askedBounds_5 17 rfl rfl)
theorem dX0_askedBounds_133 : decode cX0_askedBounds 133 = .ok (.aload_n 0, 1) := dk_42 (dk_at dksX0_askedBounds_5 18 rfl rfl)
theorem dX0_askedBounds_134 : decode cX0_askedBounds 134 = .ok (.sipush 4080, 3) := dk_17 15 240 (dk_at dksX0_askedBounds_5 19 rfl rfl)
theorem dX0_askedBounds_137 : decode cX0_askedBounds 137 = .ok (.invokevirtual 24, 3) := dk_182 0 24 (dk_at dksX0_askedBounds_6 0 rfl rfl)
theorem dX0_askedBounds_140 : decode cX0_askedBounds 140 = .ok (.aload_n 0, 1) := dk_42 (dk_at dksX0_askedBounds_6 3 rfl rfl)
theorem dX0_askedBounds_141 : decode cX0_askedBounds 141 = .ok (.iconst 1, 1) := dk_4 (dk_at dksX0_askedBounds_6 4 rfl rfl)
theorem dX0_askedBounds_142 : decode cX0_askedBounds 142 = .ok (.iconst 1, 1) := dk_4 (dk_at dksX0_askedBounds_6 5 rfl rfl)
theorem dX0_askedBounds_143 : decode cX0_askedBounds 143 = .ok (.iconst 1, 1) := dk_4 (dk_at dksX0_askedBounds_6 6 rfl rfl)
theorem dX0_askedBounds_144 : decode cX0_askedBounds 144 = .ok (.iconst 1, 1) := dk_4 (dk_at dksX0_askedBounds_6 7 rfl rfl)
theorem dX0_askedBounds_145 : decode cX0_askedBounds 145 = .ok (.invokevirtual 20, 3) := dk_182 0 20 (dk_at dksX0_askedBounds_6 8 rfl rfl)
theorem dX0_askedBounds_148 : decode cX0_askedBounds 148 = .ok (.ifCond .eq 13, 3) := dk_153 0 13 (dk_at dksX0_askedBounds_6 11 rfl rfl)
theorem dX0_askedBounds_151 : decode cX0_askedBounds 151 = .ok (.aload_n 0, 1) := dk_42 (dk_at dksX0_askedBounds_6 14 rfl rfl)
theorem dX0_askedBounds_152 : decode cX0_askedBounds 152 = .ok (.invokevirtual 55, 3) := dk_182 0 55 (dk_at dksX0_askedBounds_6 15 rfl rfl)
theorem dX0_askedBounds_155 : decode cX0_askedBounds 155 = .ok (.sipush 4096, 3) := dk_17 16 0 (dk_at dksX0_askedBounds_6 18 rfl rfl)
theorem dX0_askedBounds_158 : decode cX0_askedBounds 158 = .ok (.if_icmp .eq 5, 3) := dk_159 0 5 (dk_at dksX0_askedBounds_6 21 rfl rfl)
theorem dX0_askedBounds_161 : decode cX0_askedBounds 161 = .ok (.iconst 0, 1) := dk_3 (dk_at dksX0_askedBounds_7 0 rfl rfl)
theorem dX0_askedBounds_162 : decode cX0_askedBounds 162 = .ok (.ireturn, 1) := dk_172 (dk_at dksX0_askedBounds_7 1 rfl rfl)
theorem dX0_askedBounds_163 : decode cX0_askedBounds 163 = .ok (.aload_n 0, 1) := dk_42 (dk_at dksX0_askedBounds_7 2 rfl rfl)
theorem dX0_askedBounds_164 : decode cX0_askedBounds 164 = .ok (.iconst (-1), 1) := dk_2 (dk_at dksX0_askedBounds_7 3 rfl rfl)
theorem dX0_askedBounds_165 : decode cX0_askedBounds 165 = .ok (.invokevirtual 24, 3) := dk_182 0 24 (dk_at dksX0_askedBounds_7 4 rfl rfl)
theorem dX0_askedBounds_168 : decode cX0_askedBounds 168 = .ok (.aload_n 0, 1) := dk_42 (dk_at dksX0_askedBounds_7 7 rfl rfl)
theorem dX0_askedBounds_169 : decode cX0_askedBounds 169 = .ok (.invokevirtual 55, 3) := dk_182 0 55 (dk_at dksX0_askedBounds_7 8 rfl rfl)
theorem dX0_askedBounds_172 : decode cX0_askedBounds 172 = .ok (.bipush 127, 2) := dk_16 127 (dk_at dksX0_askedBounds_7 11 rfl rfl)
theorem dX0_askedBounds_174 : decode cX0_askedBounds 174 = .ok (.if_icmp .ne 7, 3) := dk_160 0 7 (dk_at dksX0_askedBounds_7 13 rfl rfl)
theorem dX0_askedBounds_177 : decode cX0_askedBounds 177 = .ok (.iconst 1, 1) := dk_4 (dk_at dksX0_askedBounds_7 16 rfl rfl)
theorem dX0_askedBounds_178 : decode cX0_askedBounds 178 = .ok (.goto 4, 3) := dk_167 0 4 (dk_at dksX0_askedBounds_7 17 rfl rfl)
theorem dX0_askedBounds_181 : decode cX0_askedBounds 181 = .ok (.iconst 0, 1) := dk_3 (dk_at dksX0_askedBounds_7 20 rfl rfl)
theorem dX0_askedBounds_182 : decode cX0_askedBounds 182 = .ok (.ireturn, 1) := dk_172 (dk_at dksX0_askedBounds_7 21 rfl rfl)
theorem q3 : (Jvm.Cond.initialized "SumJoinLaw") ∈ lw_all := lw_g (lw_at lw_m0 0 rfl) rfl
theorem q7 : (Jvm.Cond.methodLink "SumJoinLaw" (85 : Nat) ({ cls := "SumJoinLaw", name := "elder", desc := "([I)Z" } : Jvm.MethodName)) ∈ lw_all := lw_g (lw_at lw_m0 4 rfl) rfl
theorem q8 : (Jvm.Cond.static ({ cls := "SumJoinLaw", name := "elder", desc := "([I)Z" } : Jvm.MethodName)) ∈ lw_all := lw_g (lw_at lw_m0 5 rfl) rfl
theorem q9 : (Jvm.Cond.code ({ cls := "SumJoinLaw", name := "elder", desc := "([I)Z" } : Jvm.MethodName) method_5_code (7 : Nat) (Option.some Jvm.ClassFile.FieldType.boolean)) ∈ lw_all := lw_g (lw_at lw_m0 6 rfl) rfl
theorem q10 : (Jvm.Cond.methodLink "SumJoinLaw" (51 : Nat) ({ cls := "SumJoinLaw", name := "known", desc := "()Z" } : Jvm.MethodName)) ∈ lw_all := lw_g (lw_at lw_m0 7 rfl) rfl
theorem q11 : (Jvm.Cond.static ({ cls := "SumJoinLaw", name := "known", desc := "()Z" } : Jvm.MethodName)) ∈ lw_all := lw_g (lw_at lw_m0 8 rfl) rfl
theorem q12 : (Jvm.Cond.code ({ cls := "SumJoinLaw", name := "known", desc := "()Z" } : Jvm.MethodName) method_3_code (4 : Nat) (Option.some Jvm.ClassFile.FieldType.boolean)) ∈ lw_all := lw_g (lw_at lw_m0 9 rfl) rfl
theorem q13 : (Jvm.Cond.classLink "SumJoinLaw" (7 : Nat) "SumJoin") ∈ lw_all := lw_g (lw_at lw_m0 10 rfl) rfl
theorem q15 : (Jvm.Cond.methodLink "SumJoinLaw" (9 : Nat) ({ cls := "SumJoin", name := "<init>", desc := "()V" } : Jvm.MethodName)) ∈ lw_all := lw_g (lw_at lw_m0 12 rfl) rfl
theorem q29 : (Jvm.Cond.methodLink "SumJoinLaw" (10 : Nat) ({ cls := "SumJoin", name := "crc", desc := "(II)J" } : Jvm.MethodName)) ∈ lw_all := lw_g (lw_at lw_m0 26 rfl) rfl
theorem q88 : (Jvm.Cond.methodLink "SumJoinLaw" (14 : Nat) ({ cls := "SumJoin", name := "adler", desc := "(II)J" } : Jvm.MethodName)) ∈ lw_all := lw_g (lw_at lw_m0 85 rfl) rfl
theorem q92 : (Jvm.Cond.constant "SumJoinLaw" (17 : Nat) (825373492 : Int32)) ∈ lw_all := lw_g (lw_at lw_m0 89 rfl) rfl
theorem q93 : (Jvm.Cond.constant "SumJoinLaw" (18 : Nat) (892745528 : Int32)) ∈ lw_all := lw_g (lw_at lw_m0 90 rfl) rfl
theorem q94 : (Jvm.Cond.constant "SumJoinLaw" (19 : Nat) (956301312 : Int32)) ∈ lw_all := lw_g (lw_at lw_m0 91 rfl) rfl
theorem q95 : (Jvm.Cond.methodLink "SumJoinLaw" (20 : Nat) ({ cls := "SumJoin", name := "put", desc := "(IIII)Z" } : Jvm.MethodName)) ∈ lw_all := lw_g (lw_at lw_m0 92 rfl) rfl
theorem q103 : (Jvm.Cond.methodLink "SumJoinLaw" (24 : Nat) ({ cls := "SumJoin", name := "trim", desc := "(I)V" } : Jvm.MethodName)) ∈ lw_all := lw_g (lw_at lw_m0 100 rfl) rfl
theorem q107 : (Jvm.Cond.constantLong "SumJoinLaw" (28 : Nat) (3421780262 : Int64)) ∈ lw_all := lw_g (lw_at lw_m0 104 rfl) rfl
theorem q108 : (Jvm.Cond.constant "SumJoinLaw" (30 : Nat) (1466526569 : Int32)) ∈ lw_all := lw_g (lw_at lw_m0 105 rfl) rfl
theorem q109 : (Jvm.Cond.constant "SumJoinLaw" (31 : Nat) (1885693033 : Int32)) ∈ lw_all := lw_g (lw_at lw_m0 106 rfl) rfl
theorem q110 : (Jvm.Cond.constant "SumJoinLaw" (32 : Nat) (1627389952 : Int32)) ∈ lw_all := lw_g (lw_at lw_m0 107 rfl) rfl
theorem q111 : (Jvm.Cond.constantLong "SumJoinLaw" (33 : Nat) (300286872 : Int64)) ∈ lw_all := lw_g (lw_at lw_m0 108 rfl) rfl
theorem q112 : (Jvm.Cond.constantLong "SumJoinLaw" (35 : Nat) (3830005456 : Int64)) ∈ lw_all := lw_g (lw_at lw_m0 109 rfl) rfl
theorem q113 : (Jvm.Cond.methodLink "SumJoinLaw" (37 : Nat) ({ cls := "SumJoin", name := "joinAdler", desc := "(III)J" } : Jvm.MethodName)) ∈ lw_all := lw_g (lw_at lw_m0 110 rfl) rfl
theorem q121 : (Jvm.Cond.methodLink "SumJoinLaw" (41 : Nat) ({ cls := "SumJoinLaw", name := "cell", desc := "([II)I" } : Jvm.MethodName)) ∈ lw_all := lw_g (lw_at lw_m0 118 rfl) rfl
theorem q122 : (Jvm.Cond.static ({ cls := "SumJoinLaw", name := "cell", desc := "([II)I" } : Jvm.MethodName)) ∈ lw_all := lw_g (lw_at lw_m0 119 rfl) rfl
theorem q123 : (Jvm.Cond.code ({ cls := "SumJoinLaw", name := "cell", desc := "([II)I" } : Jvm.MethodName) method_2_code (2 : Nat) (Option.some Jvm.ClassFile.FieldType.int)) ∈ lw_all := lw_g (lw_at lw_m0 120 rfl) rfl
theorem q124 : (Jvm.Cond.methodLink "SumJoinLaw" (55 : Nat) ({ cls := "SumJoin", name := "size", desc := "()I" } : Jvm.MethodName)) ∈ lw_all := lw_g (lw_at lw_m0 121 rfl) rfl
theorem q128 : (Jvm.Cond.methodLink "SumJoinLaw" (59 : Nat) ({ cls := "SumJoinLaw", name := "own", desc := "([II)[J" } : Jvm.MethodName)) ∈ lw_all := lw_g (lw_at lw_m0 125 rfl) rfl
theorem q129 : (Jvm.Cond.static ({ cls := "SumJoinLaw", name := "own", desc := "([II)[J" } : Jvm.MethodName)) ∈ lw_all := lw_g (lw_at lw_m0 126 rfl) rfl
theorem q130 : (Jvm.Cond.code ({ cls := "SumJoinLaw", name := "own", desc := "([II)[J" } : Jvm.MethodName) method_4_code (8 : Nat) (Option.some (Jvm.ClassFile.FieldType.array Jvm.ClassFile.FieldType.long))) ∈ lw_all := lw_g (lw_at lw_m0 127 rfl) rfl
theorem q131 : (Jvm.Cond.constant "SumJoinLaw" (47 : Nat) (-306674912 : Int32)) ∈ lw_all := lw_g (lw_at lw_m0 128 rfl) rfl
theorem q132 : (Jvm.Cond.constant "SumJoinLaw" (48 : Nat) (65521 : Int32)) ∈ lw_all := lw_g (lw_at lw_m0 129 rfl) rfl
theorem q133 : (Jvm.Cond.constantLong "SumJoinLaw" (49 : Nat) (4294967295 : Int64)) ∈ lw_all := lw_g (lw_at lw_m0 130 rfl) rfl
theorem q134 : (Jvm.Cond.constant "SumJoinLaw" (63 : Nat) (2147483647 : Int32)) ∈ lw_all := lw_g (lw_at lw_m0 131 rfl) rfl
theorem q135 : (Jvm.Cond.methodLink "SumJoinLaw" (64 : Nat) ({ cls := "SumJoin", name := "joinCrc", desc := "(III)J" } : Jvm.MethodName)) ∈ lw_all := lw_g (lw_at lw_m0 132 rfl) rfl
theorem q150 : (Jvm.Cond.methodLink "SumJoinLaw" (89 : Nat) ({ cls := "SumJoinLaw", name := "askedDefined", desc := "([I)Z" } : Jvm.MethodName)) ∈ lw_all := lw_g (lw_at lw_m0 147 rfl) rfl
theorem q151 : (Jvm.Cond.static ({ cls := "SumJoinLaw", name := "askedDefined", desc := "([I)Z" } : Jvm.MethodName)) ∈ lw_all := lw_g (lw_at lw_m0 148 rfl) rfl
theorem q152 : (Jvm.Cond.code ({ cls := "SumJoinLaw", name := "askedDefined", desc := "([I)Z" } : Jvm.MethodName) method_10_code (20 : Nat) (Option.some Jvm.ClassFile.FieldType.boolean)) ∈ lw_all := lw_g (lw_at lw_m0 149 rfl) rfl
theorem q153 : (Jvm.Cond.methodLink "SumJoinLaw" (69 : Nat) ({ cls := "SumJoinLaw", name := "askedCell", desc := "([II)I" } : Jvm.MethodName)) ∈ lw_all := lw_g (lw_at lw_m0 150 rfl) rfl
theorem q154 : (Jvm.Cond.static ({ cls := "SumJoinLaw", name := "askedCell", desc := "([II)I" } : Jvm.MethodName)) ∈ lw_all := lw_g (lw_at lw_m0 151 rfl) rfl
theorem q155 : (Jvm.Cond.code ({ cls := "SumJoinLaw", name := "askedCell", desc := "([II)I" } : Jvm.MethodName) method_6_code (2 : Nat) (Option.some Jvm.ClassFile.FieldType.int)) ∈ lw_all := lw_g (lw_at lw_m0 152 rfl) rfl
theorem q156 : (Jvm.Cond.methodLink "SumJoinLaw" (72 : Nat) ({ cls := "SumJoinLaw", name := "askedPut", desc := "(LSumJoin;[II)[I" } : Jvm.MethodName)) ∈ lw_all := lw_g (lw_at lw_m0 153 rfl) rfl
theorem q157 : (Jvm.Cond.static ({ cls := "SumJoinLaw", name := "askedPut", desc := "(LSumJoin;[II)[I" } : Jvm.MethodName)) ∈ lw_all := lw_g (lw_at lw_m0 154 rfl) rfl
theorem q158 : (Jvm.Cond.code ({ cls := "SumJoinLaw", name := "askedPut", desc := "(LSumJoin;[II)[I" } : Jvm.MethodName) method_9_code (8 : Nat) (Option.some (Jvm.ClassFile.FieldType.array Jvm.ClassFile.FieldType.int))) ∈ lw_all := lw_g (lw_at lw_m0 155 rfl) rfl
theorem q159 : (Jvm.Cond.classLink "SumJoinLaw" (76 : Nat) "[I") ∈ lw_all := lw_g (lw_at lw_m0 156 rfl) rfl
theorem q161 : (Jvm.Cond.methodLink "SumJoinLaw" (78 : Nat) ({ cls := "SumJoinLaw", name := "askedCrc", desc := "([III)J" } : Jvm.MethodName)) ∈ lw_all := lw_g (lw_at lw_m0 158 rfl) rfl
theorem q162 : (Jvm.Cond.static ({ cls := "SumJoinLaw", name := "askedCrc", desc := "([III)J" } : Jvm.MethodName)) ∈ lw_all := lw_g (lw_at lw_m0 159 rfl) rfl
theorem q163 : (Jvm.Cond.code ({ cls := "SumJoinLaw", name := "askedCrc", desc := "([III)J" } : Jvm.MethodName) method_7_code (6 : Nat) (Option.some Jvm.ClassFile.FieldType.long)) ∈ lw_all := lw_g (lw_at lw_m0 160 rfl) rfl
theorem q164 : (Jvm.Cond.methodLink "SumJoinLaw" (82 : Nat) ({ cls := "SumJoinLaw", name := "askedAdler", desc := "([III)J" } : Jvm.MethodName)) ∈ lw_all := lw_g (lw_at lw_m0 161 rfl) rfl
theorem q165 : (Jvm.Cond.static ({ cls := "SumJoinLaw", name := "askedAdler", desc := "([III)J" } : Jvm.MethodName)) ∈ lw_all := lw_g (lw_at lw_m0 162 rfl) rfl
theorem q166 : (Jvm.Cond.code ({ cls := "SumJoinLaw", name := "askedAdler", desc := "([III)J" } : Jvm.MethodName) method_8_code (8 : Nat) (Option.some Jvm.ClassFile.FieldType.long)) ∈ lw_all := lw_g (lw_at lw_m0 163 rfl) rfl
theorem q167 : (Jvm.Cond.constantLong "SumJoinLaw" (67 : Nat) (65521 : Int64)) ∈ lw_all := lw_g (lw_at lw_m0 164 rfl) rfl
theorem q169 : (Jvm.Cond.methodLink "SumJoinLaw" (92 : Nat) ({ cls := "SumJoinLaw", name := "askedBounds", desc := "()Z" } : Jvm.MethodName)) ∈ lw_all := lw_g (lw_at lw_m0 166 rfl) rfl
theorem q170 : (Jvm.Cond.static ({ cls := "SumJoinLaw", name := "askedBounds", desc := "()Z" } : Jvm.MethodName)) ∈ lw_all := lw_g (lw_at lw_m0 167 rfl) rfl
theorem q171 : (Jvm.Cond.code ({ cls := "SumJoinLaw", name := "askedBounds", desc := "()Z" } : Jvm.MethodName) method_11_code (2 : Nat) (Option.some Jvm.ClassFile.FieldType.boolean)) ∈ lw_all := lw_g (lw_at lw_m0 168 rfl) rfl
/-! the law's own entry -/
set_option maxRecDepth 100000
abbrev cL_law : ByteArray := code
def dkwL_law_1 : List UInt8 := [3, 172]
abbrev dktL_law_1 : List UInt8 := dkwL_law_1 ++ []
def dkwL_law_0 : List UInt8 := [42, 184, 0, 85, 153, 0, 20, 42, 184, 0, 89, 153, 0, 13, 184, 0, 92, 153, 0, 7, 4, 167, 0, 4]
abbrev dktL_law_0 : List UInt8 := dkwL_law_0 ++ dktL_law_1
theorem dksL_law_0 : cL_law.data.toList.drop 0 = dktL_law_0 := by decide +kernel
theorem dksL_law_1 : cL_law.data.toList.drop 24 = dktL_law_1 := dk_seg dksL_law_0 24 rfl rfl
theorem dL_law_0 : decode cL_law 0 = .ok (.aload_n 0, 1) := dk_42 (dk_at dksL_law_0 0 rfl rfl)
theorem dL_law_1 : decode cL_law 1 = .ok (.invokestatic 85, 3) := dk_184 0 85 (dk_at dksL_law_0 1 rfl rfl)
theorem dL_law_4 : decode cL_law 4 = .ok (.ifCond .eq 20, 3) := dk_153 0 20 (dk_at dksL_law_0 4 rfl rfl)
theorem dL_law_7 : decode cL_law 7 = .ok (.aload_n 0, 1) := dk_42 (dk_at dksL_law_0 7 rfl rfl)
theorem dL_law_8 : decode cL_law 8 = .ok (.invokestatic 89, 3) := dk_184 0 89 (dk_at dksL_law_0 8 rfl rfl)
theorem dL_law_11 : decode cL_law 11 = .ok (.ifCond .eq 13, 3) := dk_153 0 13 (dk_at dksL_law_0 11 rfl rfl)
theorem dL_law_14 : decode cL_law 14 = .ok (.invokestatic 92, 3) := dk_184 0 92 (dk_at dksL_law_0 14 rfl rfl)
theorem dL_law_17 : decode cL_law 17 = .ok (.ifCond .eq 7, 3) := dk_153 0 7 (dk_at dksL_law_0 17 rfl rfl)
theorem dL_law_20 : decode cL_law 20 = .ok (.iconst 1, 1) := dk_4 (dk_at dksL_law_0 20 rfl rfl)
theorem dL_law_21 : decode cL_law 21 = .ok (.goto 4, 3) := dk_167 0 4 (dk_at dksL_law_0 21 rfl rfl)
theorem dL_law_24 : decode cL_law 24 = .ok (.iconst 0, 1) := dk_3 (dk_at dksL_law_1 0 rfl rfl)
theorem dL_law_25 : decode cL_law 25 = .ok (.ireturn, 1) := dk_172 (dk_at dksL_law_1 1 rfl rfl)
end
section
/-! THE PLAIN LAW: CRC-32 and Adler-32 over Nat, no program in sight -/
/-- one bit of the CRC -/
def sj_c1 (x : Nat) : Nat := if x % 2 = 1 then (x / 2) ^^^ 3988292384 else x / 2
/-- F done n times -/
def sj_pw (F : Nat → Nat) : Nat → Nat → Nat
  | 0, x => x
  | n + 1, x => F (sj_pw F n x)
def sj_c8 (x : Nat) : Nat := sj_pw sj_c1 8 x
/-- the CRC's register after n bytes of g from f on -/
def sj_cf (g : Nat → Nat) (f : Nat) : Nat → Nat → Nat
  | 0, x => x
  | n + 1, x => sj_c8 (sj_cf g f n x ^^^ g (f + n))
/-- the CRC-32 of n bytes of g from f on -/
def sj_crc (g : Nat → Nat) (f n : Nat) : Nat := sj_cf g f n 4294967295 ^^^ 4294967295
def sj_lin (F : Nat → Nat) : Prop := ∀ x y, F (x ^^^ y) = F x ^^^ F y
def sj_bd (F : Nat → Nat) : Prop := ∀ x, x < 4294967296 → F x < 4294967296
theorem sj_x4 (a b p : Nat) : (a ^^^ p) ^^^ (b ^^^ p) = a ^^^ b := by
  rw [Nat.xor_assoc, Nat.xor_comm b p, ← Nat.xor_assoc p p b, Nat.xor_self, Nat.zero_xor]
theorem sj_x3 (a b p : Nat) : (a ^^^ b) ^^^ p = (a ^^^ p) ^^^ b := by
  rw [Nat.xor_assoc, Nat.xor_comm b p, ← Nat.xor_assoc]
theorem sj_xc (a p : Nat) : (a ^^^ p) ^^^ p = a := by rw [Nat.xor_assoc, Nat.xor_self, Nat.xor_zero]
theorem sj_c1_lin : sj_lin sj_c1 := by
  intro x y
  unfold sj_c1
  have h := @Nat.xor_mod_two_eq_one x y
  have d := @Nat.xor_div_two x y
  by_cases hx : x % 2 = 1
  · by_cases hy : y % 2 = 1
    · rw [if_neg (by rw [h]; simp [hx, hy]), if_pos hx, if_pos hy, d, sj_x4]
    · rw [if_pos (by rw [h]; simp [hx, hy]), if_pos hx, if_neg hy, d, sj_x3]
  · by_cases hy : y % 2 = 1
    · rw [if_pos (by rw [h]; simp [hx, hy]), if_neg hx, if_pos hy, d, Nat.xor_assoc]
    · rw [if_neg (by rw [h]; simp [hx, hy]), if_neg hx, if_neg hy, d]
theorem sj_lt_xor {a b : Nat} (ha : a < 4294967296) (hb : b < 4294967296) : a ^^^ b < 4294967296 := Nat.xor_lt_two_pow (n := 32) ha hb
theorem sj_c1_bd : sj_bd sj_c1 := by
  intro x hx
  unfold sj_c1
  split
  · exact sj_lt_xor (by omega) (by omega)
  · omega
theorem sj_pw_lin {F : Nat → Nat} (h : sj_lin F) : ∀ n, sj_lin (sj_pw F n) := by
  intro n
  induction n with
  | zero => intro x y; rfl
  | succ n ih => intro x y; show F (sj_pw F n (x ^^^ y)) = _; rw [ih x y, h]; rfl
theorem sj_pw_bd {F : Nat → Nat} (h : sj_bd F) : ∀ n, sj_bd (sj_pw F n) := by
  intro n
  induction n with
  | zero => intro x hx; exact hx
  | succ n ih => intro x hx; exact h _ (ih x hx)
theorem sj_c8_lin : sj_lin sj_c8 := sj_pw_lin sj_c1_lin 8
theorem sj_c8_bd : sj_bd sj_c8 := sj_pw_bd sj_c1_bd 8
theorem sj_comp_lin {F G : Nat → Nat} (hF : sj_lin F) (hG : sj_lin G) : sj_lin (fun x => F (G x)) := fun x y => by show F (G (x ^^^ y)) = _; rw [hG, hF]
theorem sj_comp_bd {F G : Nat → Nat} (hF : sj_bd F) (hG : sj_bd G) : sj_bd (fun x => F (G x)) := fun x hx => hF _ (hG x hx)
theorem sj_lin0 {F : Nat → Nat} (h : sj_lin F) : F 0 = 0 := by
  have e := h 0 0
  rw [Nat.xor_self, Nat.xor_self] at e
  exact e
theorem sj_pw_front (F : Nat → Nat) : ∀ n x, sj_pw F (n + 1) x = sj_pw F n (F x) := by
  intro n
  induction n with
  | zero => intro x; rfl
  | succ n ih => intro x; show F (sj_pw F (n + 1) x) = F (sj_pw F n (F x)); rw [ih]
theorem sj_pw_dbl (F : Nat → Nat) : ∀ n x, sj_pw F (2 * n) x = sj_pw (fun y => F (F y)) n x := by
  intro n
  induction n with
  | zero => intro x; rfl
  | succ n ih =>
    intro x
    show sj_pw F (2 * n + 1 + 1) x = F (F (sj_pw (fun y => F (F y)) n x))
    rw [← ih]; rfl
theorem sj_c1_even (k : Nat) : sj_c1 (2 * k) = k := by
  unfold sj_c1
  rw [if_neg (by omega)]; omega
theorem sj_c8_256 (k : Nat) : sj_c8 (256 * k) = k := by
  show sj_c1 (sj_c1 (sj_c1 (sj_c1 (sj_c1 (sj_c1 (sj_c1 (sj_c1 (256 * k)))))))) = k
  rw [show 256 * k = 2 * (2 * (2 * (2 * (2 * (2 * (2 * (2 * k))))))) by omega]
  rw [sj_c1_even, sj_c1_even, sj_c1_even, sj_c1_even, sj_c1_even, sj_c1_even, sj_c1_even, sj_c1_even]
theorem sj_split (c : Nat) : c = (c % 256) ^^^ (256 * (c / 256)) := by
  apply Nat.eq_of_testBit_eq
  intro i
  rw [Nat.testBit_xor, show (256 : Nat) = 2 ^ 8 from rfl, Nat.testBit_mod_two_pow, Nat.testBit_two_pow_mul, Nat.testBit_div_two_pow]
  by_cases h : i < 8
  · simp [h, Nat.not_le.mpr h]
  · have h2 : 8 ≤ i := Nat.not_lt.mp h
    have e : i - 8 + 8 = i := by omega
    simp [h, h2, e]
/-- the table's step is eight bits' step -/
theorem sj_tab (c b : Nat) : sj_c8 ((c % 256) ^^^ b) ^^^ (c / 256) = sj_c8 (c ^^^ b) := by
  conv => rhs; rw [sj_split c]
  rw [sj_x3, sj_c8_lin (c % 256 ^^^ b) (256 * (c / 256)), sj_c8_256]
theorem sj_cf_congr {g h : Nat → Nat} {f n : Nat} (e : ∀ j, f ≤ j → j < f + n → g j = h j) (x : Nat) : sj_cf g f n x = sj_cf h f n x := by
  induction n with
  | zero => rfl
  | succ n ih =>
    show sj_c8 (sj_cf g f n x ^^^ g (f + n)) = sj_c8 (sj_cf h f n x ^^^ h (f + n))
    rw [ih (fun j h1 h2 => e j h1 (by omega)), e (f + n) (by omega) (by omega)]
theorem sj_crc_congr {g h : Nat → Nat} {f n : Nat} (e : ∀ j, f ≤ j → j < f + n → g j = h j) : sj_crc g f n = sj_crc h f n := by
  unfold sj_crc; rw [sj_cf_congr e]
theorem sj_cf_lin (g : Nat → Nat) (f : Nat) : ∀ n x y, sj_cf g f n (x ^^^ y) = sj_cf g f n x ^^^ sj_pw sj_c8 n y := by
  intro n
  induction n with
  | zero => intro x y; rfl
  | succ n ih =>
    intro x y
    show sj_c8 (sj_cf g f n (x ^^^ y) ^^^ g (f + n)) = sj_c8 (sj_cf g f n x ^^^ g (f + n)) ^^^ sj_c8 (sj_pw sj_c8 n y)
    rw [ih, sj_x3, sj_c8_lin]
theorem sj_cf_add (g : Nat → Nat) (f k : Nat) : ∀ n x, sj_cf g f (k + n) x = sj_cf g (f + k) n (sj_cf g f k x) := by
  intro n
  induction n with
  | zero => intro x; rfl
  | succ n ih =>
    intro x
    show sj_c8 (sj_cf g f (k + n) x ^^^ g (f + (k + n))) = sj_c8 (sj_cf g (f + k) n (sj_cf g f k x) ^^^ g (f + k + n))
    rw [ih, Nat.add_assoc]
/-- joining two stretches' CRCs -/
theorem sj_crc_join (g : Nat → Nat) (f k n : Nat) : sj_pw sj_c8 n (sj_crc g f k) ^^^ sj_crc g (f + k) n = sj_crc g f (k + n) := by
  unfold sj_crc
  rw [sj_cf_add]
  have e : sj_cf g f k 4294967295 = 4294967295 ^^^ (sj_cf g f k 4294967295 ^^^ 4294967295) := by
    rw [Nat.xor_comm 4294967295, sj_xc]
  conv => rhs; rw [e, sj_cf_lin]
  rw [Nat.xor_comm (sj_pw sj_c8 n _), sj_x3]
theorem sj_cf_bd {g : Nat → Nat} (hg : ∀ j, g j < 256) (f : Nat) : ∀ n x, x < 4294967296 → sj_cf g f n x < 4294967296 := by
  intro n
  induction n with
  | zero => intro x hx; exact hx
  | succ n ih => intro x hx; exact sj_c8_bd _ (sj_lt_xor (ih x hx) (Nat.lt_trans (hg _) (by decide)))
theorem sj_crc_bd {g : Nat → Nat} (hg : ∀ j, g j < 256) (f n : Nat) : sj_crc g f n < 4294967296 := sj_lt_xor (sj_cf_bd hg f n _ (by decide)) (by decide)
/-! matrices over two elements: the array holds F (2 ^ j) at j -/
theorem sj_mod_succ (v k : Nat) : v % 2 ^ (k + 1) = (v % 2 ^ k) ^^^ (if v / 2 ^ k % 2 = 1 then 2 ^ k else 0) := by
  apply Nat.eq_of_testBit_eq
  intro i
  have hb : v.testBit k = decide (v / 2 ^ k % 2 = 1) := by
    have := Nat.testBit_div_two_pow (n := k) v 0
    rw [Nat.testBit_zero, Nat.zero_add] at this
    exact this.symm
  rw [Nat.testBit_xor, Nat.testBit_mod_two_pow, Nat.testBit_mod_two_pow]
  by_cases h : v / 2 ^ k % 2 = 1
  · rw [if_pos h, Nat.testBit_two_pow]
    rw [decide_eq_true h] at hb
    rcases Nat.lt_trichotomy i k with q | q | q
    · simp [q, show i < k + 1 by omega, show ¬ k = i by omega]
    · subst q; simp [hb]
    · simp [show ¬ i < k by omega, show ¬ i < k + 1 by omega, show ¬ k = i by omega]
  · rw [if_neg h, Nat.zero_testBit]
    rw [decide_eq_false h] at hb
    rcases Nat.lt_trichotomy i k with q | q | q
    · simp [q, show i < k + 1 by omega]
    · subst q; simp [hb]
    · simp [show ¬ i < k by omega, show ¬ i < k + 1 by omega]
theorem sj_mat_step {F : Nat → Nat} (h : sj_lin F) (v k : Nat) : F (v % 2 ^ (k + 1)) = F (v % 2 ^ k) ^^^ (if v / 2 ^ k % 2 = 1 then F (2 ^ k) else 0) := by
  rw [sj_mod_succ, h]
  split
  · rfl
  · rw [sj_lin0 h]
/-- the bit's operator as a matrix -/
theorem sj_c1_one : sj_c1 1 = 3988292384 := by decide +kernel
theorem sj_c1_pow (k : Nat) : sj_c1 (2 ^ (k + 1)) = 2 ^ k := by rw [Nat.pow_succ, Nat.mul_comm]; exact sj_c1_even _
/-- what the doubling loop of combine keeps -/
theorem sj_half {F : Nat → Nat} (L x : Nat) : sj_pw F L x = sj_pw (fun y => F (F y)) (L / 2) (if L % 2 = 1 then F x else x) := by
  rw [← sj_pw_dbl]
  split
  · rename_i h
    rw [← sj_pw_front]
    congr 1; omega
  · congr 1; omega
/-! Adler-32 -/
def sj_a (g : Nat → Nat) (f : Nat) : Nat → Nat
  | 0 => 1
  | n + 1 => (sj_a g f n + g (f + n)) % 65521
def sj_b (g : Nat → Nat) (f : Nat) : Nat → Nat
  | 0 => 0
  | n + 1 => (sj_b g f n + sj_a g f (n + 1)) % 65521
def sj_adl (g : Nat → Nat) (f n : Nat) : Nat := sj_b g f n * 65536 + sj_a g f n
/-- without remainders -/
def sj_ua (g : Nat → Nat) (f : Nat) : Nat → Nat
  | 0 => 1
  | n + 1 => sj_ua g f n + g (f + n)
def sj_ub (g : Nat → Nat) (f : Nat) : Nat → Nat
  | 0 => 0
  | n + 1 => sj_ub g f n + sj_ua g f (n + 1)
theorem sj_a_ua (g : Nat → Nat) (f : Nat) : ∀ n, sj_a g f n = sj_ua g f n % 65521 := by
  intro n
  induction n with
  | zero => rfl
  | succ n ih => show (sj_a g f n + g (f + n)) % 65521 = (sj_ua g f n + g (f + n)) % 65521; rw [ih]; omega
theorem sj_b_ub (g : Nat → Nat) (f : Nat) : ∀ n, sj_b g f n = sj_ub g f n % 65521 := by
  intro n
  induction n with
  | zero => rfl
  | succ n ih => show (sj_b g f n + sj_a g f (n + 1)) % 65521 = (sj_ub g f n + sj_ua g f (n + 1)) % 65521; rw [ih, sj_a_ua]; omega
theorem sj_a_lt (g : Nat → Nat) (f n : Nat) : sj_a g f n < 65521 := by rw [sj_a_ua]; exact Nat.mod_lt _ (by decide)
theorem sj_b_lt (g : Nat → Nat) (f n : Nat) : sj_b g f n < 65521 := by rw [sj_b_ub]; exact Nat.mod_lt _ (by decide)
theorem sj_ua_bd {g : Nat → Nat} (hg : ∀ j, g j < 256) (f : Nat) : ∀ n, sj_ua g f n ≤ 1 + 255 * n := by
  intro n
  induction n with
  | zero => exact Nat.le_refl _
  | succ n ih => have := hg (f + n); show sj_ua g f n + g (f + n) ≤ _; omega
theorem sj_ub_bd {g : Nat → Nat} (hg : ∀ j, g j < 256) (f : Nat) : ∀ n, n ≤ 5552 → sj_ub g f n ≤ 1415762 * n := by
  intro n
  induction n with
  | zero => intro _; exact Nat.le_refl _
  | succ n ih => intro h; have := sj_ua_bd hg f (n + 1); have := ih (by omega); show sj_ub g f n + sj_ua g f (n + 1) ≤ _; omega
theorem sj_ua_congr {g h : Nat → Nat} {f n : Nat} (e : ∀ j, f ≤ j → j < f + n → g j = h j) : sj_ua g f n = sj_ua h f n := by
  induction n with
  | zero => rfl
  | succ n ih => show sj_ua g f n + g (f + n) = sj_ua h f n + h (f + n); rw [ih (fun j h1 h2 => e j h1 (by omega)), e (f + n) (by omega) (by omega)]
theorem sj_ub_congr {g h : Nat → Nat} {f n : Nat} (e : ∀ j, f ≤ j → j < f + n → g j = h j) : sj_ub g f n = sj_ub h f n := by
  induction n with
  | zero => rfl
  | succ n ih => show sj_ub g f n + sj_ua g f (n + 1) = sj_ub h f n + sj_ua h f (n + 1); rw [ih (fun j h1 h2 => e j h1 (by omega)), sj_ua_congr e]
theorem sj_adl_congr {g h : Nat → Nat} {f n : Nat} (e : ∀ j, f ≤ j → j < f + n → g j = h j) : sj_adl g f n = sj_adl h f n := by
  unfold sj_adl; rw [sj_a_ua, sj_b_ub, sj_a_ua, sj_b_ub, sj_ua_congr e, sj_ub_congr e]
theorem sj_ua_add (g : Nat → Nat) (f k : Nat) : ∀ n, sj_ua g f (k + n) + 1 = sj_ua g f k + sj_ua g (f + k) n := by
  intro n
  induction n with
  | zero => rfl
  | succ n ih => show sj_ua g f (k + n) + g (f + (k + n)) + 1 = sj_ua g f k + (sj_ua g (f + k) n + g (f + k + n)); rw [Nat.add_assoc f k n]; omega
theorem sj_ub_add (g : Nat → Nat) (f k : Nat) : ∀ n, sj_ub g f (k + n) + n = sj_ub g f k + sj_ub g (f + k) n + n * sj_ua g f k := by
  intro n
  induction n with
  | zero => show sj_ub g f k + 0 = sj_ub g f k + 0 + 0 * _; omega
  | succ n ih =>
    have h := sj_ua_add g f k (n + 1)
    show sj_ub g f (k + n) + sj_ua g f (k + (n + 1)) + (n + 1) = sj_ub g f k + (sj_ub g (f + k) n + sj_ua g (f + k) (n + 1)) + (n + 1) * sj_ua g f k
    rw [Nat.add_mul, Nat.one_mul]
    omega
/-- what Adler32.combine computes -/
def sj_red1 (x : Nat) : Nat := if 65521 ≤ x then x - 65521 else x
def sj_red2 (x : Nat) : Nat := if 131042 ≤ x then x - 131042 else x
def sj_ja (a1 a2 : Nat) : Nat := sj_red1 (sj_red1 (a1 + (a2 + 65521 - 1)))
def sj_jb (a1 b1 b2 n : Nat) : Nat := sj_red1 (sj_red2 ((n % 65521) * a1 % 65521 + (b1 + b2 + 65521 - n % 65521)))
theorem sj_ja_join (g : Nat → Nat) (f k n : Nat) : sj_ja (sj_a g f k) (sj_a g (f + k) n) = sj_a g f (k + n) := by
  have h := sj_ua_add g f k n
  have h1 := sj_a_ua g f k
  have h2 := sj_a_ua g (f + k) n
  have h3 := sj_a_ua g f (k + n)
  unfold sj_ja sj_red1
  generalize sj_a g f k = A1 at *
  generalize sj_a g (f + k) n = A2 at *
  generalize sj_a g f (k + n) = A at *
  split <;> (try split) <;> omega
theorem sj_jb_join (g : Nat → Nat) (f k n : Nat) : sj_jb (sj_a g f k) (sj_b g f k) (sj_b g (f + k) n) n = sj_b g f (k + n) := by
  have h := sj_ub_add g f k n
  have h1 := sj_b_ub g f k
  have h2 := sj_b_ub g (f + k) n
  have h3 := sj_b_ub g f (k + n)
  have h4 : n % 65521 * sj_a g f k % 65521 = n * sj_ua g f k % 65521 := by rw [sj_a_ua, ← Nat.mul_mod]
  unfold sj_jb sj_red1 sj_red2
  rw [h4]
  generalize sj_a g f k = A1 at *
  generalize n * sj_ua g f k = X at *
  generalize sj_b g f k = B1 at *
  generalize sj_b g (f + k) n = B2 at *
  generalize sj_b g f (k + n) = B at *
  split <;> (try split) <;> omega
/-! bytes -/
/-- the byte in an int -/
def sj_by (x : Int32) : Nat := x.toBitVec.toNat % 256
theorem sj_by_lt (x : Int32) : sj_by x < 256 := Nat.mod_lt _ (by decide)
/-- the byte i of a word, the greatest first -/
def sj_wb (w : Int32) (i : Nat) : Nat := w.toBitVec.toNat / 2 ^ (24 - 8 * i) % 256
theorem sj_wb_lt (w : Int32) (i : Nat) : sj_wb w i < 256 := Nat.mod_lt _ (by decide)
/-- a non-negative int -/
def sj_pos (x : Int32) : Nat := x.toBitVec.toNat % 2147483648
theorem sj_pos_lt (x : Int32) : sj_pos x < 2147483648 := Nat.mod_lt _ (by decide)
end
section
/-! rows on bits, shifts and unsigned numbers, to paste: each family out of a closed proof of our own, whole with what it rests on; each by itself clean at Lean in its own claim (generation 39, form 5). Take a family whole -/
/-! ===== Int32 by its bits: bt x i ===== -/
def bt (x : Int32) (i : Nat) : Bool := x.toBitVec.getLsbD i
theorem b_ext {x y : Int32} (h : ∀ i, i < 32 → bt x i = bt y i) : x = y := Int32.toBitVec_inj.mp (BitVec.eq_of_getLsbD_eq (fun i hi => h i hi))
theorem b_or (x y : Int32) (i : Nat) : bt (x ||| y) i = (bt x i || bt y i) := by unfold bt; rw [Int32.toBitVec_or, BitVec.getLsbD_or]
theorem b_and (x y : Int32) (i : Nat) : bt (x &&& y) i = (bt x i && bt y i) := by unfold bt; rw [Int32.toBitVec_and, BitVec.getLsbD_and]
theorem b_xor (x y : Int32) (i : Nat) : bt (x ^^^ y) i = (bt x i ^^ bt y i) := by unfold bt; rw [Int32.toBitVec_xor, BitVec.getLsbD_xor]
theorem b_big {x : Int32} {i : Nat} (h : 32 ≤ i) : bt x i = false := BitVec.getLsbD_of_ge _ _ h
theorem b_255 (i : Nat) : bt 255 i = decide (i < 8) := by
  rcases Nat.lt_or_ge i 32 with h | h
  · exact (by decide +kernel : ∀ i, i < 32 → bt 255 i = decide (i < 8)) i h
  · rw [b_big h, decide_eq_false (by omega)]
theorem b_65535 (i : Nat) : bt 65535 i = decide (i < 16) := by
  rcases Nat.lt_or_ge i 32 with h | h
  · exact (by decide +kernel : ∀ i, i < 32 → bt 65535 i = decide (i < 16)) i h
  · rw [b_big h, decide_eq_false (by omega)]
theorem b_m1 : ∀ i, i < 32 → bt (-1) i = true := by decide +kernel
theorem b_0 (i : Nat) : bt 0 i = false := BitVec.getLsbD_zero
theorem s_l : ∀ n, n < 32 → ((nI n &&& 31).toBitVec.smod 32).toNat = n := by decide +kernel
theorem s_u : ∀ n, n < 32 → (((nI n).toUInt32 &&& Int32.toUInt32 31).toBitVec % 32).toNat = n := by decide +kernel
theorem b_shl (n : Nat) (hn : n < 32) (x : Int32) {i : Nat} (hi : i < 32) : bt (x <<< (nI n &&& 31)) i = (decide (n ≤ i) && bt x (i - n)) := by
  unfold bt
  rw [Int32.toBitVec_shiftLeft]
  show (x.toBitVec <<< ((nI n &&& 31).toBitVec.smod 32).toNat).getLsbD i = _
  rw [s_l n hn, BitVec.getLsbD_shiftLeft]
  rcases Nat.lt_or_ge i n with h | h
  · simp [h, Nat.not_le.mpr h]
  · simp [hi, h, Nat.not_lt.mpr h]
theorem b_ushr (n : Nat) (hn : n < 32) (x : Int32) (i : Nat) : bt ((x.toUInt32 >>> ((nI n).toUInt32 &&& Int32.toUInt32 31)).toInt32) i = bt x (n + i) := by
  show (x.toUInt32 >>> ((nI n).toUInt32 &&& Int32.toUInt32 31)).toBitVec.getLsbD i = x.toUInt32.toBitVec.getLsbD (n + i)
  rw [UInt32.toBitVec_shiftRight]
  show (x.toUInt32.toBitVec >>> (((nI n).toUInt32 &&& Int32.toUInt32 31).toBitVec % 32).toNat).getLsbD i = _
  rw [s_u n hn, BitVec.getLsbD_ushiftRight]
theorem b_sshr (n : Nat) (hn : n < 32) (x : Int32) {i : Nat} (hi : i < 32) : bt (x >>> (nI n &&& 31)) i = if n + i < 32 then bt x (n + i) else bt x 31 := by
  unfold bt
  rw [Int32.toBitVec_shiftRight]
  show (x.toBitVec.sshiftRight ((nI n &&& 31).toBitVec.smod 32).toNat).getLsbD i = _
  rw [s_l n hn, BitVec.getLsbD_sshiftRight, BitVec.msb_eq_getLsbD_last]
  simp [hi]
theorem b_shl8 (x : Int32) {i : Nat} (hi : i < 32) : bt (x <<< ((8 : Int32) &&& 31)) i = (decide (8 ≤ i) && bt x (i - 8)) := b_shl 8 (by omega) x hi
theorem b_shl16 (x : Int32) {i : Nat} (hi : i < 32) : bt (x <<< ((16 : Int32) &&& 31)) i = (decide (16 ≤ i) && bt x (i - 16)) := b_shl 16 (by omega) x hi
theorem b_shl24 (x : Int32) {i : Nat} (hi : i < 32) : bt (x <<< ((24 : Int32) &&& 31)) i = (decide (24 ≤ i) && bt x (i - 24)) := b_shl 24 (by omega) x hi
theorem b_sshr8 (x : Int32) {i : Nat} (hi : i < 32) : bt (x >>> ((8 : Int32) &&& 31)) i = if 8 + i < 32 then bt x (8 + i) else bt x 31 := b_sshr 8 (by omega) x hi
/-! ===== nI under and, xor, >>>, one bit, 65535 ===== -/
theorem nx_and (a b : Nat) : nI a &&& nI b = nI (a &&& b) := by
  apply Int32.toBitVec_inj.1
  show BitVec.ofNat 32 a &&& BitVec.ofNat 32 b = BitVec.ofNat 32 (a &&& b)
  apply BitVec.eq_of_getLsbD_eq
  intro i hi
  simp [hi]
theorem nx_xor (a b : Nat) : nI a ^^^ nI b = nI (a ^^^ b) := by
  apply Int32.toBitVec_inj.1
  show BitVec.ofNat 32 a ^^^ BitVec.ofNat 32 b = BitVec.ofNat 32 (a ^^^ b)
  apply BitVec.eq_of_getLsbD_eq
  intro i hi
  simp [hi]
theorem nx_cnt : ∀ j : Fin 32, (UInt32.ofNat j.val &&& Int32.toUInt32 31).toNat % 32 = j.val := by decide +kernel
theorem nx_ush {k j : Nat} (hk : k < 65536) (hj : j < 32) : ((nI k).toUInt32 >>> ((nI j).toUInt32 &&& Int32.toUInt32 31)).toInt32 = nI (k >>> j) := by
  have hs : k >>> j ≤ k := by
    rw [Nat.shiftRight_eq_div_pow]
    exact Nat.div_le_self _ _
  have e2 : UInt32.ofNat k >>> (UInt32.ofNat j &&& Int32.toUInt32 31) = UInt32.ofNat (k >>> j) := by
    apply UInt32.toNat_inj.1
    have h1 : (UInt32.ofNat k).toNat = k := Nat.mod_eq_of_lt (by omega)
    have h2 : (UInt32.ofNat (k >>> j)).toNat = k >>> j := Nat.mod_eq_of_lt (by omega)
    rw [UInt32.toNat_shiftRight, nx_cnt ⟨j, hj⟩, h1, h2]
  show (UInt32.ofNat k >>> (UInt32.ofNat j &&& Int32.toUInt32 31)).toInt32 = _
  rw [e2]
  rfl
theorem nx_bit {k j : Nat} (hk : k < 65536) (hj : j < 16) : (((nI k).toUInt32 >>> ((nI j).toUInt32 &&& Int32.toUInt32 31)).toInt32 &&& 1) = 0 ↔ k.testBit j = false := by
  rw [nx_ush hk (by omega)]
  show nI (k >>> j) &&& nI 1 = 0 ↔ _
  rw [nx_and, Nat.and_one_is_mod, ← nI_0, nI_eq (by omega) (by omega), Nat.testBit_eq_decide_div_mod_eq, Nat.shiftRight_eq_div_pow, decide_eq_false_iff_not]
  generalize k / 2 ^ j = z
  omega
theorem nx_mod (k : Nat) : nI k &&& 65535 = nI (k % 65536) := by
  show nI k &&& nI 65535 = _
  rw [nx_and, show (65535 : Nat) = 2 ^ 16 - 1 from rfl, Nat.and_two_pow_sub_one_eq_mod]
theorem nx_m16 {k : Nat} (h : k < 65536) : nI k &&& 65535 = nI k := by rw [nx_mod, Nat.mod_eq_of_lt h]
theorem nx_mask (x : Int32) : ∃ k, k < 65536 ∧ x &&& 65535 = nI k := by
  have e : x = nI x.toBitVec.toNat := by
    apply Int32.toBitVec_inj.1
    show x.toBitVec = BitVec.ofNat 32 x.toBitVec.toNat
    simp
  refine ⟨x.toBitVec.toNat % 65536, Nat.mod_lt _ (by omega), ?_⟩
  rw [← nx_mod, ← e]
/-! ===== Int32 as a set of bits: test, set ===== -/
def nf_M (m : Int32) : Nat := 4294967296 - m.toBitVec.toNat
theorem nf_sh : ∀ l, l < 32 → ((1 : Int32) <<< (nI l &&& 31)).toBitVec = BitVec.twoPow 32 l := by decide +kernel
theorem nf_sl : ∀ l, l < 32 → (((nI l).toUInt32 &&& Int32.toUInt32 31).toBitVec % 32).toNat = l := by decide +kernel
theorem nf_tp : ∀ l, l < 32 → BitVec.twoPow 32 l ≠ 0#32 := by decide +kernel
theorem nf_bit (m : Int32) (l : Nat) (hl : l < 32) : ((m.toUInt32 >>> ((nI l).toUInt32 &&& Int32.toUInt32 31)).toInt32 &&& 1) = 0 ↔ (m &&& ((1 : Int32) <<< (nI l &&& 31))) = 0 := by
  have e : ((m.toUInt32 >>> ((nI l).toUInt32 &&& Int32.toUInt32 31)).toInt32).toBitVec = m.toBitVec >>> l := by
    show m.toBitVec >>> (((nI l).toUInt32 &&& Int32.toUInt32 31).toBitVec % 32) = m.toBitVec >>> l
    rw [BitVec.ushiftRight_eq', nf_sl l hl]
  rw [← Int32.toBitVec_inj, ← Int32.toBitVec_inj, Int32.toBitVec_and, Int32.toBitVec_and, nf_sh l hl, e, BitVec.and_twoPow]
  show (m.toBitVec >>> l &&& 1#32) = 0#32 ↔ _ = 0#32
  rw [BitVec.and_one_eq_setWidth_ofBool_getLsbD, BitVec.getLsbD_ushiftRight, Nat.add_zero]
  cases hb : m.toBitVec.getLsbD l
  · exact ⟨fun _ => by simp, fun _ => by decide⟩
  · exact ⟨fun z => absurd z (by decide), fun z => absurd ((if_pos rfl).symm.trans z) (nf_tp l hl)⟩
theorem nf_gr (m k : Int32) (h : m &&& k = 0) (hk : k ≠ 0) : nf_M (m ||| k) < nf_M m := by
  have hm := m.toBitVec.isLt
  have hm' := (m ||| k).toBitVec.isLt
  have h1 : m.toBitVec.toNat ≤ (m ||| k).toBitVec.toNat := by
    rw [Int32.toBitVec_or, BitVec.toNat_or]
    exact Nat.left_le_or
  have h2 : m.toBitVec.toNat ≠ (m ||| k).toBitVec.toNat := by
    intro e
    have e2 : m = m ||| k := Int32.toBitVec_inj.mp (BitVec.eq_of_toNat_eq e)
    apply hk
    apply Int32.toBitVec_inj.mp
    show k.toBitVec = 0#32
    apply BitVec.eq_of_getLsbD_eq
    intro i hi
    have a : m.toBitVec.getLsbD i = (m.toBitVec.getLsbD i || k.toBitVec.getLsbD i) := by rw [← BitVec.getLsbD_or, ← Int32.toBitVec_or, ← e2]
    have b : (m.toBitVec.getLsbD i && k.toBitVec.getLsbD i) = false := by
      rw [← BitVec.getLsbD_and, ← Int32.toBitVec_and, h]
      exact BitVec.getLsbD_zero
    rw [BitVec.getLsbD_zero]
    revert a b
    cases m.toBitVec.getLsbD i <;> cases k.toBitVec.getLsbD i <;> simp
  unfold nf_M
  omega
/-! ===== a byte read unsigned ===== -/
theorem bp_b (x : Int32) : x.toInt8.toInt32 &&& 255 = x &&& 255 := by
  apply Int32.toBitVec_inj.mp
  rw [Int32.toBitVec_and, Int32.toBitVec_and, Int8.toBitVec_toInt32, Int32.toBitVec_toInt8]
  apply BitVec.eq_of_getLsbD_eq
  intro i hi
  rw [BitVec.getLsbD_and, BitVec.getLsbD_and]
  have hm : ∀ i < 32, 8 ≤ i → (255 : Int32).toBitVec.getLsbD i = false := by decide
  rcases Nat.lt_or_ge i 8 with z | z
  · rw [BitVec.getLsbD_signExtend, BitVec.getLsbD_signExtend, if_pos z, if_pos hi]
    simp only [z, hi, decide_true, Bool.true_and]
  · rw [hm i hi z]; simp
/-! ===== the char cast and 65535 ===== -/
/-! ===== Int64 as a set of bits: test, set, clear ===== -/
theorem ts_nf {x : Bool} (h : ¬ x = false) : x = true := by cases x <;> first | rfl | exact absurd rfl h
theorem ts_nt {x : Bool} (h : ¬ x = true) : x = false := by cases x <;> first | rfl | exact absurd rfl h
theorem ts_bit {w : Int64} {s : UInt64} {j : Nat} (hj : j < 64) (hs : s.toNat = j) : ((w.toUInt64 >>> s).toInt64 &&& 1) = 0 ↔ w.toBitVec.getLsbD j = false := by
  have e : (w.toUInt64 >>> s).toInt64.toBitVec = w.toBitVec >>> j := by
    apply BitVec.eq_of_toNat_eq
    show (w.toUInt64 >>> s).toNat = _
    rw [UInt64.toNat_shiftRight, hs, Nat.mod_eq_of_lt hj, BitVec.toNat_ushiftRight]
    rfl
  rw [← Int64.toBitVec_inj, Int64.toBitVec_and, e]
  show w.toBitVec >>> j &&& 1#64 = 0#64 ↔ _
  constructor
  · intro h
    have t := congrArg (fun x => x.getLsbD 0) h
    simpa using t
  · intro h
    apply BitVec.eq_of_getLsbD_eq
    intro i hi
    cases i with
    | zero => simp [h]
    | succ i => simp
theorem ts_or {w m : Int64} {j : Nat} (hj : j < 64) (hm : m.toBitVec = BitVec.twoPow 64 j) : (w ||| m) = w ↔ w.toBitVec.getLsbD j = true := by
  rw [← Int64.toBitVec_inj, Int64.toBitVec_or, hm]
  constructor
  · intro h
    have t := congrArg (fun x => x.getLsbD j) h
    simp only [BitVec.getLsbD_or, BitVec.getLsbD_twoPow] at t
    simpa [hj] using t.symm
  · intro h
    apply BitVec.eq_of_getLsbD_eq
    intro i hi
    rw [BitVec.getLsbD_or, BitVec.getLsbD_twoPow]
    by_cases e : j = i
    · subst e; rw [h, Bool.true_or]
    · simp [e]
theorem ts_and {w m : Int64} {j : Nat} (hj : j < 64) (hm : m.toBitVec = BitVec.twoPow 64 j) : (w &&& (m ^^^ (-1))) = w ↔ w.toBitVec.getLsbD j = false := by
  have ha : (-1 : Int64).toBitVec = BitVec.allOnes 64 := by decide
  rw [← Int64.toBitVec_inj, Int64.toBitVec_and, Int64.toBitVec_xor, hm, ha]
  constructor
  · intro h
    have t := congrArg (fun x => x.getLsbD j) h
    simp only [BitVec.getLsbD_and, BitVec.getLsbD_xor, BitVec.getLsbD_twoPow, BitVec.getLsbD_allOnes] at t
    simpa [hj] using t.symm
  · intro h
    apply BitVec.eq_of_getLsbD_eq
    intro i hi
    rw [BitVec.getLsbD_and, BitVec.getLsbD_xor, BitVec.getLsbD_twoPow, BitVec.getLsbD_allOnes]
    by_cases e : j = i
    · subst e; rw [h, Bool.false_and]
    · simp [e, hi]
/-! ===== lN n to 2^64: shifts, and, or, masks, one bit ===== -/
theorem wb_tb (n : Nat) : (lN n).toBitVec = BitVec.ofNat 64 n := rfl
theorem wb_inj {a b : Int64} (h : a.toBitVec = b.toBitVec) : a = b := Int64.toBitVec_inj.mp h
theorem wb_tn {n : Nat} (h : n < 2 ^ 64) : (lN n).toBitVec.toNat = n := by rw [wb_tb, BitVec.toNat_ofNat, Nat.mod_eq_of_lt h]
theorem wb_of (x : Int64) : ∃ n, n < 2 ^ 64 ∧ x = lN n := ⟨x.toBitVec.toNat, x.toBitVec.isLt, wb_inj (by rw [wb_tb]; simp)⟩
theorem wb_of32 (x : Int32) : ∃ n, n < 2 ^ 32 ∧ x = nI n := ⟨x.toBitVec.toNat, x.toBitVec.isLt, Int32.toBitVec_inj.mp (by show _ = BitVec.ofNat 32 _; simp)⟩
theorem wb_c : ∀ k, k < 64 → ((nI k).toInt64 &&& 63) = lN k := by decide +kernel
theorem wb_cu : ∀ k, k < 64 → ((nI k).toInt64.toUInt64 &&& Int64.toUInt64 63) = UInt64.ofNat k := by decide +kernel
theorem wb_sm : ∀ k, k < 64 → (BitVec.ofNat 64 k).smod 64 = BitVec.ofNat 64 k := by decide +kernel
theorem wb_pw {a b : Nat} (h : a ≤ b) : 2 ^ b = 2 ^ a * 2 ^ (b - a) := by rw [← Nat.pow_add]; congr 1; omega
theorem wb_lt2 {a b : Nat} (h : a < b) : 2 ^ a < 2 ^ b := Nat.pow_lt_pow_right (by decide) h
theorem wb_mod (n : Nat) : lN n = lN (n % 2 ^ 64) := wb_inj (by rw [wb_tb, wb_tb]; apply BitVec.eq_of_toNat_eq; rw [BitVec.toNat_ofNat, BitVec.toNat_ofNat, Nat.mod_mod])
theorem wb_shr {n k : Nat} (hn : n < 2 ^ 64) (hk : k < 64) : ((lN n).toUInt64 >>> ((nI k).toInt64.toUInt64 &&& Int64.toUInt64 63)).toInt64 = lN (n / 2 ^ k) := by
  rw [wb_cu k hk]
  apply wb_inj
  apply BitVec.eq_of_toNat_eq
  show ((lN n).toUInt64 >>> UInt64.ofNat k).toNat = (BitVec.ofNat 64 _).toNat
  have h1 : (UInt64.ofNat k).toNat = k := by
    show (BitVec.ofNat 64 k).toNat = k
    rw [BitVec.toNat_ofNat, Nat.mod_eq_of_lt (by omega)]
  have h2 : (lN n).toUInt64.toNat = n := wb_tn hn
  rw [UInt64.toNat_shiftRight, h1, h2, Nat.mod_eq_of_lt hk, Nat.shiftRight_eq_div_pow, BitVec.toNat_ofNat, Nat.mod_eq_of_lt (Nat.lt_of_le_of_lt (Nat.div_le_self _ _) hn)]
theorem wb_shl (n : Nat) {k : Nat} (hk : k < 64) : lN n <<< ((nI k).toInt64 &&& 63) = lN (n * 2 ^ k) := by
  rw [wb_c k hk]
  apply wb_inj
  rw [Int64.toBitVec_shiftLeft, wb_tb, wb_tb, wb_tb, wb_sm k hk]
  apply BitVec.eq_of_toNat_eq
  rw [BitVec.shiftLeft_eq', BitVec.toNat_shiftLeft, BitVec.toNat_ofNat, BitVec.toNat_ofNat, BitVec.toNat_ofNat, Nat.mod_eq_of_lt (show k < 2 ^ 64 by omega), Nat.shiftLeft_eq, Nat.mul_mod, Nat.mod_mod, ← Nat.mul_mod]
theorem wb_and {a b : Nat} (ha : a < 2 ^ 64) (hb : b < 2 ^ 64) : lN a &&& lN b = lN (a &&& b) := by
  apply wb_inj
  rw [Int64.toBitVec_and, wb_tb, wb_tb, wb_tb]
  apply BitVec.eq_of_toNat_eq
  rw [BitVec.toNat_and, BitVec.toNat_ofNat, BitVec.toNat_ofNat, BitVec.toNat_ofNat, Nat.mod_eq_of_lt ha, Nat.mod_eq_of_lt hb, Nat.mod_eq_of_lt (Nat.and_lt_two_pow _ hb)]
theorem wb_or {a b : Nat} (ha : a < 2 ^ 64) (hb : b < 2 ^ 64) : lN a ||| lN b = lN (a ||| b) := by
  apply wb_inj
  rw [Int64.toBitVec_or, wb_tb, wb_tb, wb_tb]
  apply BitVec.eq_of_toNat_eq
  rw [BitVec.toNat_or, BitVec.toNat_ofNat, BitVec.toNat_ofNat, BitVec.toNat_ofNat, Nat.mod_eq_of_lt ha, Nat.mod_eq_of_lt hb, Nat.mod_eq_of_lt (Nat.or_lt_two_pow ha hb)]
theorem wb_mask {n k : Nat} (hn : n < 2 ^ 64) (hk : k < 64) : lN n &&& lN (2 ^ k - 1) = lN (n % 2 ^ k) := by
  rw [wb_and hn (by have := wb_lt2 hk; omega), Nat.and_two_pow_sub_one_eq_mod]
theorem wb_a1 {n : Nat} (hn : n < 2 ^ 64) : lN n &&& 1 = lN (n % 2) := wb_mask (k := 1) hn (by decide)
theorem wb_bit {n k : Nat} (hn : n < 2 ^ 64) (hk : k < 64) : ((lN n).toUInt64 >>> ((nI k).toInt64.toUInt64 &&& Int64.toUInt64 63)).toInt64 &&& 1 = lN (n / 2 ^ k % 2) := by
  rw [wb_shr hn hk, wb_a1 (Nat.lt_of_le_of_lt (Nat.div_le_self _ _) hn)]
theorem wb_xor {q k : Nat} (hk : k < 63) (h : 2 ^ k ≤ q) (h2 : q < 2 ^ (k + 1)) : lN q ^^^ lN (2 ^ k) = lN (q - 2 ^ k) := by
  obtain ⟨r, rfl⟩ : ∃ r, q = 2 ^ k + r := ⟨q - 2 ^ k, by omega⟩
  have hr : r < 2 ^ k := by rw [Nat.pow_succ] at h2; omega
  have hx : (2 ^ k + r) ^^^ 2 ^ k = r := by
    apply Nat.eq_of_testBit_eq
    intro i
    rw [Nat.testBit_xor, Nat.testBit_two_pow]
    rcases Nat.lt_trichotomy i k with h | h | h
    · rw [Nat.testBit_two_pow_add_gt h]
      simp [show ¬ k = i by omega]
    · subst h
      rw [Nat.testBit_two_pow_add_eq]
      simp
    · have a1 : 2 ^ (k + 1) ≤ 2 ^ i := Nat.pow_le_pow_right (by decide) h
      rw [Nat.testBit_lt_two_pow (show 2 ^ k + r < 2 ^ i by omega), Nat.testBit_lt_two_pow (show r < 2 ^ i by omega)]
      simp [show ¬ k = i by omega]
  have b1 := wb_lt2 (show k + 1 < 64 by omega)
  have b2 := wb_lt2 (show k < 64 by omega)
  apply wb_inj
  rw [Int64.toBitVec_xor, wb_tb, wb_tb, wb_tb]
  apply BitVec.eq_of_toNat_eq
  rw [BitVec.toNat_xor, BitVec.toNat_ofNat, BitVec.toNat_ofNat, BitVec.toNat_ofNat, Nat.mod_eq_of_lt (by omega : 2 ^ k + r < 2 ^ 64), Nat.mod_eq_of_lt b2, hx, Nat.add_sub_cancel_left, Nat.mod_eq_of_lt (by omega)]
/-! ===== lN: masks, 'or' of parts that don't overlap is a sum ===== -/
theorem u_tn {n : Nat} (h : n < 2 ^ 64) : (UInt64.ofNat n).toNat = n := Nat.mod_eq_of_lt h
theorem g_and {a b c : Nat} (ha : a < 2 ^ 64) (hb : b < 2 ^ 64) (hc : a &&& b = c) : lN a &&& lN b = lN c := by
  subst hc
  have h : UInt64.ofNat a &&& UInt64.ofNat b = UInt64.ofNat (a &&& b) := UInt64.toNat_inj.mp (by rw [UInt64.toNat_and, u_tn ha, u_tn hb, u_tn (Nat.and_lt_two_pow a hb)])
  have h2 := congrArg UInt64.toInt64 h
  exact h2
theorem g_and1 {a : Nat} (ha : a < 2 ^ 64) : lN a &&& 1 = lN (a % 2) := g_and (b := 1) ha (by decide) (Nat.and_two_pow_sub_one_eq_mod a 1)
theorem g_mask {a s p : Nat} (hp : 2 ^ s = p) (hs : s < 64) (ha : a < 2 ^ 64) : lN a &&& lN (p - 1) = lN (a % p) := by
  subst hp
  have := Nat.pow_lt_pow_right (show 1 < 2 by decide) hs
  exact g_and ha (by omega) (Nat.and_two_pow_sub_one_eq_mod a s)
theorem g_or {k p a b : Nat} (hp : 2 ^ k = p) (ha : a < p) (h : b * p + a < 2 ^ 64) : lN (b * p) ||| lN a = lN (b * p + a) := by
  subst hp
  have h1 : b * 2 ^ k ||| a = b * 2 ^ k + a := by rw [← Nat.shiftLeft_eq, Nat.shiftLeft_add_eq_or_of_lt ha]
  have h3 : UInt64.ofNat (b * 2 ^ k) ||| UInt64.ofNat a = UInt64.ofNat (b * 2 ^ k + a) := UInt64.toNat_inj.mp (by rw [UInt64.toNat_or, u_tn (by omega), u_tn (by omega), u_tn h, h1])
  have h2 := congrArg UInt64.toInt64 h3
  exact h2
theorem g_or' {k p a b : Nat} (hp : 2 ^ k = p) (ha : a < p) (h : a + b * p < 2 ^ 64) : lN a ||| lN (b * p) = lN (a + b * p) := by
  rw [Int64.or_comm, g_or hp ha (by omega), Nat.add_comm]
theorem g_ushr {a k p : Nat} {y : UInt64} (hy : y = UInt64.ofNat k) (hk : k < 64) (hp : 2 ^ k = p) (ha : a < 2 ^ 64) : ((lN a).toUInt64 >>> y).toInt64 = lN (a / p) := by
  subst hy hp
  have h : UInt64.ofNat a >>> UInt64.ofNat k = UInt64.ofNat (a / 2 ^ k) := UInt64.toNat_inj.mp (by rw [UInt64.toNat_shiftRight, u_tn ha, u_tn (by omega), u_tn (Nat.lt_of_le_of_lt (Nat.div_le_self _ _) ha), Nat.mod_eq_of_lt hk, Nat.shiftRight_eq_div_pow])
  have h2 := congrArg UInt64.toInt64 h
  exact h2
theorem g_shl {a k p : Nat} {y : Int64} (hy : y.toBitVec.smod 64 = BitVec.ofNat 64 k) (hk : k < 64) (hp : 2 ^ k = p) (ha : a < 2 ^ 64) : lN a <<< y = lN (a * p) := by
  subst hp
  apply Int64.toBitVec_inj.mp
  rw [Int64.toBitVec_shiftLeft, hy]
  apply BitVec.eq_of_toNat_eq
  have hb : (lN a).toBitVec.toNat = a := Nat.mod_eq_of_lt ha
  have hk' : (BitVec.ofNat 64 k).toNat = k := Nat.mod_eq_of_lt (by omega)
  have h : ((lN a).toBitVec <<< BitVec.ofNat 64 k).toNat = (a * 2 ^ k) % 2 ^ 64 := by simp only [BitVec.shiftLeft_eq', BitVec.toNat_shiftLeft, hb, hk', Nat.shiftLeft_eq]
  exact h
/-! ===== lN to 2^62 under >> and >>> ===== -/
theorem pf_lI {a : Nat} (h : a < 2 ^ 63) : (lN a).toInt = (a : Int) := lg_ofNat_toInt h
theorem pf_shr {a d : Nat} {D : Int64} (hD : (D.toBitVec.smod 64).toNat = d) (h : a < 2 ^ 62) : lN a >>> D = lN (a / 2 ^ d) := by
  have hd : a / 2 ^ d ≤ a := Nat.div_le_self _ _
  apply Int64.toInt_inj.mp
  have e : (lN a >>> D).toInt = (lN a).toInt >>> d := by
    rw [← hD]
    exact BitVec.toInt_sshiftRight ..
  rw [e, Int.shiftRight_eq_div_pow, pf_lI (by omega), pf_lI (by omega)]
  rfl
theorem pf_ushr {a d : Nat} {D : UInt64} (hD : D.toNat % 64 = d) (h : a < 2 ^ 62) : ((lN a).toUInt64 >>> D).toInt64 = lN (a / 2 ^ d) := by
  have hd : a / 2 ^ d ≤ a := Nat.div_le_self _ _
  have e : (lN a).toUInt64 >>> D = UInt64.ofNat (a / 2 ^ d) := UInt64.toNat_inj.mp (by
    rw [UInt64.toNat_shiftRight, hD, Nat.shiftRight_eq_div_pow, UInt64.toNat_ofNat']
    show (UInt64.ofNat a).toNat / 2 ^ d = _
    rw [UInt64.toNat_ofNat', Nat.mod_eq_of_lt (by omega), Nat.mod_eq_of_lt (by omega)])
  rw [e]
  rfl
theorem pf_andw (x : Int64) : ∃ m, m < 2 ^ 32 ∧ x &&& 4294967295 = lN m := ⟨x.toBitVec.toNat % 2 ^ 32, Nat.mod_lt _ (by decide), Int64.toBitVec_inj.mp (BitVec.eq_of_toNat_eq (by
  show (x.toBitVec &&& 4294967295#64).toNat = (BitVec.ofNat 64 (x.toBitVec.toNat % 2 ^ 32)).toNat
  rw [BitVec.toNat_and, show (4294967295#64).toNat = 2 ^ 32 - 1 from by decide, Nat.and_two_pow_sub_one_eq_mod, BitVec.toNat_ofNat]
  omega))⟩
/-! ===== Int64 as an unsigned number: uN x ===== -/
def uN (x : Int64) : Nat := x.toUInt64.toNat
theorem uN_lt (x : Int64) : uN x < 18446744073709551616 := x.toUInt64.toNat_lt
theorem uN_inj {x y : Int64} (h : uN x = uN y) : x = y := congrArg UInt64.toInt64 (UInt64.toNat_inj.mp h)
theorem uN_add (x y : Int64) : uN (x + y) = (uN x + uN y) % 18446744073709551616 := by
  show (x.toUInt64 + y.toUInt64).toNat = _
  exact UInt64.toNat_add _ _
theorem uN_mul (x y : Int64) : uN (x * y) = (uN x * uN y) % 18446744073709551616 := by
  show (x.toUInt64 * y.toUInt64).toNat = _
  exact UInt64.toNat_mul _ _
theorem uN_shl (x : Int64) : uN (x <<< ((1 : Int32).toInt64 &&& 63)) = (2 * uN x) % 18446744073709551616 := by
  have h : (((1 : Int32).toInt64 &&& 63).toBitVec.smod 64).toNat = 1 := by decide
  show (x.toBitVec <<< (((1 : Int32).toInt64 &&& 63).toBitVec.smod 64).toNat).toNat = _
  rw [h, BitVec.toNat_shiftLeft, Nat.shiftLeft_eq, Nat.mul_comm]
  rfl
theorem uN_shr (x : Int64) (s : UInt64) : uN (x.toUInt64 >>> s).toInt64 = uN x / 2 ^ (s.toNat % 64) := by
  show (x.toUInt64 >>> s).toNat = _
  rw [UInt64.toNat_shiftRight, Nat.shiftRight_eq_div_pow]
  rfl
theorem uN_s32 (x : Int64) : uN (x.toUInt64 >>> ((32 : Int32).toInt64.toUInt64 &&& Int64.toUInt64 63)).toInt64 = uN x / 4294967296 := by
  have h : ((32 : Int32).toInt64.toUInt64 &&& Int64.toUInt64 63).toNat % 64 = 32 := by decide
  rw [uN_shr, h]
theorem uN_s63 (x : Int64) : uN (x.toUInt64 >>> ((63 : Int32).toInt64.toUInt64 &&& Int64.toUInt64 63)).toInt64 = uN x / 9223372036854775808 := by
  have h : ((63 : Int32).toInt64.toUInt64 &&& Int64.toUInt64 63).toNat % 64 = 63 := by decide
  rw [uN_shr, h]
theorem uN_lo (x : Int64) : uN (x &&& 4294967295) = uN x % 4294967296 := by
  show (x.toUInt64 &&& Int64.toUInt64 4294967295).toNat = _
  rw [UInt64.toNat_and]
  exact Nat.and_two_pow_sub_one_eq_mod _ 32
theorem uN_bit (x : Int64) : (x &&& 1) = 0 ↔ uN x % 2 = 0 := by
  have h : uN (x &&& 1) = uN x % 2 := by
    show (x.toUInt64 &&& Int64.toUInt64 1).toNat = _
    rw [UInt64.toNat_and]
    exact Nat.and_two_pow_sub_one_eq_mod _ 1
  rw [← h]
  exact ⟨fun z => by rw [z]; rfl, fun z => uN_inj (z.trans rfl)⟩
theorem uN_or {x y : Int64} (hy : uN y < 2) : uN ((x <<< ((1 : Int32).toInt64 &&& 63)) ||| y) = (2 * uN x) % 18446744073709551616 + uN y := by
  have h1 : uN ((x <<< ((1 : Int32).toInt64 &&& 63)) ||| y) = uN (x <<< ((1 : Int32).toInt64 &&& 63)) ||| uN y := UInt64.toNat_or _ _
  have h2 : (2 * uN x) % 18446744073709551616 = 2 ^ 1 * (uN x % 9223372036854775808) := by omega
  rw [h1, uN_shl, h2]
  exact (Nat.two_pow_add_eq_or_of_lt (i := 1) hy _).symm
theorem nat_xor {a : Nat} (h : a < 18446744073709551616) : a ^^^ 2 ^ 63 = (a + 9223372036854775808) % 18446744073709551616 := by
  have h1 : (a ^^^ 2 ^ 63) % 2 ^ 63 = a % 2 ^ 63 := by rw [Nat.xor_mod_two_pow, Nat.mod_self, Nat.xor_zero]
  have h2 : (a ^^^ 2 ^ 63) / 2 ^ 63 = (a / 2 ^ 63) ^^^ 1 := by rw [Nat.xor_div_two_pow, Nat.div_self (Nat.two_pow_pos 63)]
  have h3 : a / 2 ^ 63 = 0 ∨ a / 2 ^ 63 = 1 := by omega
  generalize a ^^^ 2 ^ 63 = t at h1 h2
  rcases h3 with h3 | h3
  · rw [h3] at h2
    have h2 : t / 2 ^ 63 = 1 := h2
    omega
  · rw [h3] at h2
    have h2 : t / 2 ^ 63 = 0 := h2
    omega
theorem uN_xor (x : Int64) : uN (x ^^^ (-9223372036854775808)) = (uN x + 9223372036854775808) % 18446744073709551616 := by
  rw [← nat_xor (uN_lt x)]
  exact UInt64.toNat_xor _ _
theorem uN_int (x : Int64) : x.toInt = if 2 * uN x < 18446744073709551616 then (uN x : Int) else (uN x : Int) - 18446744073709551616 := BitVec.toInt_eq_toNat_cond _
theorem uN_le (x y : Int64) : (x ^^^ (-9223372036854775808)) ≤ (y ^^^ (-9223372036854775808)) ↔ uN x ≤ uN y := by
  have hx := uN_lt x
  have hy := uN_lt y
  rw [Int64.le_iff_toInt_le, uN_int, uN_int, uN_xor, uN_xor]
  omega
theorem uN_sk (x : Int64) {k : Nat} (hk : k < 64) : uN (x.toUInt64 >>> ((nI k).toInt64.toUInt64 &&& Int64.toUInt64 63)).toInt64 = uN x / 2 ^ k := by
  have h : ((nI k).toInt64.toUInt64 &&& Int64.toUInt64 63).toNat % 64 = k := by
    rw [nI_l (by omega), UInt64.toNat_and]
    have e : (lN k).toUInt64.toNat = k % 2 ^ 64 := rfl
    have e2 : (Int64.toUInt64 63).toNat = 2 ^ 6 - 1 := by decide
    rw [e, e2, Nat.and_two_pow_sub_one_eq_mod]
    omega
  rw [uN_shr, h]
/-! ===== unsigned comparison by xor with the least ===== -/
theorem lN_bv (n : Nat) : (lN n).toBitVec = BitVec.ofNat 64 n := rfl
theorem lN_nat {n : Nat} (h : n < 2 ^ 64) : (lN n).toBitVec.toNat = n := by rw [lN_bv, BitVec.toNat_ofNat]; exact Nat.mod_eq_of_lt h
theorem lN_xor (a b : Nat) : lN a ^^^ lN b = lN (a ^^^ b) := by
  apply Int64.toBitVec_inj.mp; rw [Int64.toBitVec_xor, lN_bv, lN_bv, lN_bv]; apply BitVec.eq_of_getLsbD_eq; intro i hi; simp [BitVec.getLsbD_ofNat, Nat.testBit_xor, hi]
theorem lN_ti {m : Nat} (h : m < 2 ^ 64) : (lN m).toInt = if m < 2 ^ 63 then (m : Int) else (m : Int) - 2 ^ 64 := by
  have c := BitVec.toInt_eq_toNat_cond (lN m).toBitVec
  rw [lN_nat h] at c
  show (lN m).toBitVec.toInt = _
  rw [c]
  split <;> split <;> omega
theorem xor63 {x : Nat} (h : x < 2 ^ 63) : x ^^^ 2 ^ 63 = 2 ^ 63 + x := by
  apply Nat.eq_of_testBit_eq
  intro i
  rw [Nat.testBit_xor, Nat.testBit_two_pow]
  rcases Nat.lt_trichotomy i 63 with z | z | z
  · rw [Nat.testBit_two_pow_add_gt z, decide_eq_false (by omega)]; simp
  · subst z; rw [Nat.testBit_two_pow_add_eq]; simp
  · have hp : 2 ^ 64 ≤ 2 ^ i := Nat.pow_le_pow_right (by decide) z
    rw [Nat.testBit_lt_two_pow (show x < 2 ^ i by omega), Nat.testBit_lt_two_pow (show 2 ^ 63 + x < 2 ^ i by omega), decide_eq_false (by omega)]; rfl
theorem xorS {a : Nat} (h : a < 2 ^ 64) : (lN a ^^^ (-9223372036854775808)).toInt = (a : Int) - 2 ^ 63 := by
  rw [show (-9223372036854775808 : Int64) = lN (2 ^ 63) from by decide +kernel, lN_xor]
  rcases Nat.lt_or_ge a (2 ^ 63) with z | z
  · rw [xor63 z, lN_ti (by omega), if_neg (by omega)]; omega
  · obtain ⟨x, rfl⟩ : ∃ x, a = 2 ^ 63 + x := ⟨a - 2 ^ 63, by omega⟩
    rw [← xor63 (by omega), Nat.xor_assoc, Nat.xor_self, Nat.xor_zero, lN_ti (by omega), if_pos (by omega), xor63 (by omega)]; omega
theorem ultL {a b : Nat} (ha : a < 2 ^ 64) (hb : b < 2 ^ 64) : ((lN b ^^^ (-9223372036854775808)) ≤ (lN a ^^^ (-9223372036854775808))) ↔ b ≤ a := by
  rw [Int64.le_iff_toInt_le, xorS ha, xorS hb]; omega
/-! ===== Int64 masks of n low bits ===== -/
theorem cr_bits (W U M : BitVec 64) : ((W &&& U) &&& (U &&& (M ^^^ BitVec.allOnes 64))) = 0#64 ↔ (W &&& U) &&& M = W &&& U := by
  constructor
  · intro h
    apply BitVec.eq_of_getLsbD_eq
    intro i hi
    have e := congrArg (fun x => BitVec.getLsbD x i) h
    simp only [BitVec.getLsbD_and, BitVec.getLsbD_xor, BitVec.getLsbD_allOnes, BitVec.getLsbD_zero, hi, decide_true] at e ⊢
    revert e
    cases W.getLsbD i <;> cases U.getLsbD i <;> cases M.getLsbD i <;> decide
  · intro h
    apply BitVec.eq_of_getLsbD_eq
    intro i hi
    have e := congrArg (fun x => BitVec.getLsbD x i) h
    simp only [BitVec.getLsbD_and, BitVec.getLsbD_xor, BitVec.getLsbD_allOnes, BitVec.getLsbD_zero, hi, decide_true] at e ⊢
    revert e
    cases W.getLsbD i <;> cases U.getLsbD i <;> cases M.getLsbD i <;> decide
theorem cr_mask (w U m : Int64) (n : Nat) (hm : m.toBitVec.toNat = 2 ^ n - 1) : ((w &&& U) &&& (U &&& (m ^^^ (-1)))) = 0 ↔ (w &&& U).toBitVec.toNat < 2 ^ n := by
  have e0 : (-1 : Int64).toBitVec = BitVec.allOnes 64 := by decide
  have z0 : (0 : Int64).toBitVec = 0#64 := by decide
  rw [← Int64.toBitVec_inj, z0, Int64.toBitVec_and, Int64.toBitVec_and, Int64.toBitVec_and, Int64.toBitVec_xor, e0, cr_bits]
  generalize w.toBitVec &&& U.toBitVec = T
  rw [← BitVec.toNat_inj, BitVec.toNat_and, hm, Nat.and_two_pow_sub_one_eq_mod]
  constructor
  · intro h
    have t := Nat.mod_lt T.toNat (Nat.two_pow_pos n)
    rw [h] at t
    exact t
  · exact Nat.mod_eq_of_lt
theorem cr_shr (t : Int64) (x : UInt64) (n : Nat) (hx : x.toNat % 64 = n) : (t.toUInt64 >>> x).toInt64 = 0 ↔ t.toBitVec.toNat < 2 ^ n := by
  rw [← Int64.toBitVec_inj, ← BitVec.toNat_inj]
  show (t.toUInt64 >>> x).toNat = 0 ↔ t.toUInt64.toNat < 2 ^ n
  rw [UInt64.toNat_shiftRight, hx, Nat.shiftRight_eq_div_pow]
  constructor
  · intro h
    have d : t.toUInt64.toNat / 2 ^ n < 1 := by
      rw [h]
      decide
    have e := (Nat.div_lt_iff_lt_mul (Nat.two_pow_pos n)).mp d
    rw [Nat.one_mul] at e
    exact e
  · exact Nat.div_eq_of_lt
theorem cr_amt (s : Int64) : ∃ n, n < 64 ∧ s &&& 63 = lN n ∧ (s.toUInt64 &&& Int64.toUInt64 63).toNat % 64 = n := by
  have e : (s.toUInt64 &&& Int64.toUInt64 63).toNat = s.toUInt64.toNat % 2 ^ 6 := by
    rw [UInt64.toNat_and, show (Int64.toUInt64 63).toNat = 2 ^ 6 - 1 from by decide, Nat.and_two_pow_sub_one_eq_mod]
  refine ⟨s.toUInt64.toNat % 2 ^ 6, by omega, ?_, by omega⟩
  rw [← Int64.toBitVec_inj, ← BitVec.toNat_inj]
  show (s.toUInt64 &&& Int64.toUInt64 63).toNat = (BitVec.ofNat 64 (s.toUInt64.toNat % 2 ^ 6)).toNat
  rw [e, BitVec.toNat_ofNat]
  omega
end
section
/-! BETWEEN THE MACHINE's NUMBERS AND NAT: nI, lN under the instructions that the methods use -/
theorem zj_m1 : (-1 : Int32) = nI 4294967295 := by decide +kernel
theorem zj_poly : (-306674912 : Int32) = nI 3988292384 := by decide +kernel
theorem zj_inj {a b : Nat} (ha : a < 4294967296) (hb : b < 4294967296) : nI a = nI b ↔ a = b := by
  constructor
  · intro h
    have h2 := congrArg (fun x : Int32 => x.toBitVec.toNat) h
    rw [show (nI a).toBitVec.toNat = a from pk_tn ha, show (nI b).toBitVec.toNat = b from pk_tn hb] at h2
    exact h2
  · intro h; rw [h]
theorem zj_and1 {c : Nat} (h : c < 4294967296) : nI c &&& 1 = nI (c % 2) := pk_andN h 1 (by decide +kernel)
theorem zj_bit {c : Nat} (h : c < 4294967296) : nI c &&& 1 = 1 ↔ c % 2 = 1 := by
  rw [zj_and1 h]
  exact nI_eq (by omega) (by decide)
theorem zj_shr1 {c : Nat} (h : c < 4294967296) : ((nI c).toUInt32 >>> ((1 : Int32).toUInt32 &&& Int32.toUInt32 31)).toInt32 = nI (c / 2) := pk_ushrN h 1 1 (by decide +kernel)
theorem zj_shr8 {c : Nat} (h : c < 4294967296) : ((nI c).toUInt32 >>> ((8 : Int32).toUInt32 &&& Int32.toUInt32 31)).toInt32 = nI (c / 256) := pk_ushrN h 8 8 (by decide +kernel)
theorem zj_not (c : Nat) : nI c ^^^ (-1) = nI (c ^^^ 4294967295) := by rw [zj_m1, nx_xor]
theorem zj_by (x : Int32) : x &&& 255 = nI (sj_by x) := pk_and x 8 (by decide +kernel)
theorem zj_pos (x : Int32) : x &&& 2147483647 = nI (sj_pos x) := pk_and x 31 (by decide +kernel)
theorem zj_tn (x : Int32) : x = nI x.toBitVec.toNat := by
  apply Int32.toBitVec_inj.mp
  show x.toBitVec = BitVec.ofNat 32 x.toBitVec.toNat
  simp
theorem zj_idx (c : Nat) (x : Int32) : (nI c ^^^ x) &&& 255 = nI ((c % 256) ^^^ sj_by x) := by
  conv => lhs; rw [zj_tn x, nx_xor]
  rw [zj_by]
  congr 1
  show (BitVec.ofNat 32 (c ^^^ x.toBitVec.toNat)).toNat % 256 = (c % 256) ^^^ (x.toBitVec.toNat % 256)
  rw [BitVec.toNat_ofNat, show (256 : Nat) = 2 ^ 8 from rfl, Nat.mod_mod_of_dvd _ (Nat.pow_dvd_pow 2 (by decide)), Nat.xor_mod_two_pow]
theorem zj_i2l {v : Nat} (h : v < 4294967296) : (nI v).toInt64 &&& 4294967295 = lN v := by
  apply Int64.toBitVec_inj.mp
  rw [Int64.toBitVec_and, Int32.toBitVec_toInt64]
  apply BitVec.eq_of_getLsbD_eq
  intro i hi
  rw [BitVec.getLsbD_and, BitVec.getLsbD_signExtend]
  have hm : ∀ i < 64, (4294967295 : Int64).toBitVec.getLsbD i = decide (i < 32) := by decide +kernel
  rw [hm i hi]
  show _ = (BitVec.ofNat 64 v).getLsbD i
  rw [BitVec.getLsbD_ofNat]
  by_cases q : i < 32
  · simp only [hi, q, decide_true, if_true, Bool.true_and, Bool.and_true]
    show (BitVec.ofNat 32 v).getLsbD i = _
    rw [BitVec.getLsbD_ofNat]
    simp [q]
  · have hz : v.testBit i = false := Nat.testBit_lt_two_pow (Nat.lt_of_lt_of_le h (Nat.pow_le_pow_right (show 0 < 2 by decide) (Nat.not_lt.mp q)))
    simp [q, hz]
theorem zj_byB (x : Int32) : sj_by x.toInt8.toInt32 = sj_by x := by
  have h := bp_b x
  rw [zj_by, zj_by] at h
  exact (zj_inj (Nat.lt_trans (sj_by_lt _) (by decide)) (Nat.lt_trans (sj_by_lt _) (by decide))).mp h
theorem zj_sh (w : Int32) (k : Nat) (hk : k ≤ 24) : sj_by (w >>> (nI k &&& 31)) = w.toBitVec.toNat / 2 ^ k % 256 := by
  unfold sj_by
  apply Nat.eq_of_testBit_eq
  intro i
  rw [show (256 : Nat) = 2 ^ 8 from rfl, Nat.testBit_mod_two_pow, Nat.testBit_mod_two_pow, Nat.testBit_div_two_pow]
  by_cases q : i < 8
  · have h := b_sshr k (by omega) w (i := i) (by omega)
    rw [if_pos (by omega)] at h
    have h2 : (w >>> (nI k &&& 31)).toBitVec.toNat.testBit i = w.toBitVec.toNat.testBit (k + i) := h
    rw [h2, Nat.add_comm]
  · simp [q]
theorem zj_w0 (w : Int32) : sj_by (w >>> ((24 : Int32) &&& 31)).toInt8.toInt32 = sj_wb w 0 := by rw [zj_byB]; exact zj_sh w 24 (by decide)
theorem zj_w1 (w : Int32) : sj_by (w >>> ((16 : Int32) &&& 31)).toInt8.toInt32 = sj_wb w 1 := by rw [zj_byB]; exact zj_sh w 16 (by decide)
theorem zj_w2 (w : Int32) : sj_by (w >>> ((8 : Int32) &&& 31)).toInt8.toInt32 = sj_wb w 2 := by rw [zj_byB]; exact zj_sh w 8 (by decide)
theorem zj_w3 (w : Int32) : sj_by w.toInt8.toInt32 = sj_wb w 3 := by
  rw [zj_byB]
  show w.toBitVec.toNat % 256 = w.toBitVec.toNat / 2 ^ 0 % 256
  rw [Nat.pow_zero, Nat.div_one]
/-- the law's byte of a word -/
theorem zj_u (w : Int32) {k : Nat} (hk : k < 32) : (w.toUInt32 >>> ((nI k).toUInt32 &&& Int32.toUInt32 31)).toInt32 &&& 255 = nI (w.toBitVec.toNat / 2 ^ k % 256) := by
  rw [zj_by]
  unfold sj_by
  rw [pk_ushr w (nI k) k (s_u k hk)]
theorem zj_wbU (w : Int32) (j : Nat) : (w.toUInt32 >>> ((nI (24 - 8 * j)).toUInt32 &&& Int32.toUInt32 31)).toInt32 &&& 255 = nI (sj_wb w j) := zj_u w (by omega)
theorem zj_mod {a d : Nat} (ha : a < 2147483648) (h0 : 0 < d) (hd : d < 2147483648) : nI a - nI a / nI d * nI d = nI (a % d) := pk_rem ha h0 hd
theorem zj_lmod {a : Nat} (ha : a < 2 ^ 63) : lN a - lN a / 65521 * 65521 = lN (a % 65521) := pk_lRem (b := 65521) ha (by decide) (by decide)
theorem zj_shl16 (b : Nat) : lN b <<< ((16 : Int32).toInt64 &&& 63) = lN (b * 65536) := wb_shl b (k := 16) (by decide)
theorem zj_shl1 (b : Nat) : lN b <<< ((1 : Int32).toInt64 &&& 63) = lN (b * 2) := wb_shl b (k := 1) (by decide)
theorem zj_or {a b : Nat} (ha : a < 65536) (hb : b < 65536) : lN (b * 65536) ||| lN a = lN (b * 65536 + a) := g_or (k := 16) (by decide) ha (by omega)
theorem zj_or' {a b : Nat} (ha : a < 65536) (hb : b < 65536) : lN a ||| lN (b * 65536) = lN (b * 65536 + a) := by rw [g_or' (k := 16) (by decide) ha (by omega), Nat.add_comm]
theorem zj_lsr16 {a : Nat} (h : a < 2 ^ 62) : lN a >>> ((16 : Int32).toInt64 &&& 63) = lN (a / 65536) := pf_shr (d := 16) (by decide +kernel) h
theorem zj_lsr1 {a : Nat} (h : a < 2 ^ 62) : lN a >>> ((1 : Int32).toInt64 &&& 63) = lN (a / 2) := pf_shr (d := 1) (by decide +kernel) h
theorem zj_l16 {a : Nat} (h : a < 2 ^ 64) : lN a &&& 65535 = lN (a % 65536) := wb_mask (k := 16) h (by decide)
theorem zj_l1 {a : Nat} (h : a < 2 ^ 64) : lN a &&& 1 = lN (a % 2) := wb_a1 h
theorem zj_cmp0 (x y : Int64) : lg_cmp x y = 0 ↔ x = y := by
  unfold lg_cmp
  constructor
  · intro h
    split at h
    · exact absurd h (by decide)
    · split at h
      · assumption
      · exact absurd h (by decide)
  · intro h
    subst h
    rw [if_neg (by simp), if_pos rfl]
theorem zj_cmpl (x y : Int64) : lg_cmp x y < 0 ↔ x < y := by
  unfold lg_cmp
  constructor
  · intro h
    split at h
    · exact absurd h (by decide)
    · split at h
      · exact absurd h (by decide)
      · rename_i h1 h2
        rw [gt_iff_lt, Int64.lt_iff_toInt_lt] at h1
        rw [Int64.lt_iff_toInt_lt]
        have : x.toInt ≠ y.toInt := fun q => h2 (Int64.toInt_inj.mp q)
        omega
  · intro h
    rw [Int64.lt_iff_toInt_lt] at h
    rw [if_neg (by rw [gt_iff_lt, Int64.lt_iff_toInt_lt]; omega), if_neg (fun q => by subst q; omega)]
    decide
theorem zj_cmpg (x y : Int64) : 0 < lg_cmp x y ↔ y < x := by
  unfold lg_cmp
  constructor
  · intro h
    split at h
    · assumption
    · split at h
      · exact absurd h (by decide)
      · exact absurd h (by decide)
  · intro h
    rw [if_pos h]
    decide
theorem zj_l0 : (0 : Int64) = lN 0 := rfl
theorem zj_lc {a b : Nat} (ha : a < 2 ^ 63) (hb : b < 2 ^ 63) : lg_cmp (lN a) (lN b) = 0 ↔ a = b := by rw [zj_cmp0, pk_lEQ ha hb]
theorem zj_ll {a b : Nat} (ha : a < 2 ^ 63) (hb : b < 2 ^ 63) : lg_cmp (lN a) (lN b) < 0 ↔ a < b := by rw [zj_cmpl, pk_lLT ha hb]
theorem zj_lg {a b : Nat} (ha : a < 2 ^ 63) (hb : b < 2 ^ 63) : 0 < lg_cmp (lN a) (lN b) ↔ b < a := by rw [zj_cmpg, pk_lLT hb ha]
theorem zj_c1 {c : Nat} (h : c < 4294967296) : sj_c1 c = if c % 2 = 1 then (c / 2) ^^^ 3988292384 else c / 2 := rfl
theorem zj_clamp {n : Nat} (h : n < 2147483648) : (nI n).toNatClampNeg = n := nI_clamp h
/-- the bytes of a text after one word -/
def sj_wd (t : Nat → Nat) (k : Nat) (w : Int32) : Nat → Nat := fun j => if k ≤ j ∧ j < k + 4 then sj_wb w (j - k) else t j
theorem zj_put4 {a : Nat → Int32} {k : Nat} (w : Int32) {x0 x1 x2 x3 : Int32} (h0 : sj_by x0 = sj_wb w 0) (h1 : sj_by x1 = sj_wb w 1) (h2 : sj_by x2 = sj_wb w 2) (h3 : sj_by x3 = sj_wb w 3) (j : Nat) : sj_by (upd (upd (upd (upd a k x0) (k + 1) x1) (k + 2) x2) (k + 3) x3 j) = sj_wd (fun j => sj_by (a j)) k w j := by
  unfold sj_wd upd
  by_cases q3 : j = k + 3
  · subst q3; rw [if_pos rfl, if_pos (by omega), h3]; congr 1; omega
  · rw [if_neg q3]
    by_cases q2 : j = k + 2
    · subst q2; rw [if_pos rfl, if_pos (by omega), h2]; congr 1; omega
    · rw [if_neg q2]
      by_cases q1 : j = k + 1
      · subst q1; rw [if_pos rfl, if_pos (by omega), h1]; congr 1; omega
      · rw [if_neg q1]
        by_cases q0 : j = k
        · subst q0; rw [if_pos rfl, if_pos (by omega), h0]; congr 1; omega
        · rw [if_neg q0, if_neg (by omega)]
/-- the bytes of a text after sixteen -/
def sj_w4 (w0 w1 w2 w3 : Int32) (i : Nat) : Int32 := if i = 0 then w0 else if i = 1 then w1 else if i = 2 then w2 else w3
def sj_pt (t : Nat → Nat) (n : Nat) (w0 w1 w2 w3 : Int32) : Nat → Nat := fun j => if n ≤ j ∧ j < n + 16 then sj_wb (sj_w4 w0 w1 w2 w3 ((j - n) / 4)) ((j - n) % 4) else t j
theorem zj_put16 (t : Nat → Nat) (n : Nat) (w0 w1 w2 w3 : Int32) (j : Nat) : sj_wd (sj_wd (sj_wd (sj_wd t n w0) (n + 4) w1) (n + 8) w2) (n + 12) w3 j = sj_pt t n w0 w1 w2 w3 j := by
  unfold sj_wd sj_pt sj_w4
  by_cases q3 : n + 12 ≤ j ∧ j < n + 12 + 4
  · rw [if_pos q3, if_pos (by omega), if_neg (by omega), if_neg (by omega), if_neg (by omega)]; congr 1; omega
  · rw [if_neg q3]
    by_cases q2 : n + 8 ≤ j ∧ j < n + 8 + 4
    · rw [if_pos q2, if_pos (by omega), if_neg (by omega), if_neg (by omega), if_pos (by omega)]; congr 1; omega
    · rw [if_neg q2]
      by_cases q1 : n + 4 ≤ j ∧ j < n + 4 + 4
      · rw [if_pos q1, if_pos (by omega), if_neg (by omega), if_pos (by omega)]; congr 1; omega
      · rw [if_neg q1]
        by_cases q0 : n ≤ j ∧ j < n + 4
        · rw [if_pos q0, if_pos (by omega), if_pos (by omega)]; congr 1; omega
        · rw [if_neg q0, if_neg (by omega)]
end
section
/-! WHAT EVERY CONTRACT HERE SHARES: the start's predicate, the end's, one lemma a kind of call, one for loops -/
abbrev zCl : List vw_C := [(RX1, TX1, 2), (RX2, TX2, 1), (RX3, TX3, 2)]
/-- the tables' word on int[][], as a state has it -/
def zA_O (U : State) : Prop := ∀ a : Array Value, (Cond.arrayOver (.array .int)).before a U = true
theorem zA_O.of {a : Array Value} {u U : State} (hvm : u.vm.Alike U.vm) (h : (Cond.arrayOver (.array .int)).before a u = true) : zA_O U := by
  intro a2
  obtain ⟨comp, c, k, h1, h2, h3, h4, h5⟩ := arrayOverA_spec h
  obtain ⟨k', hk', he⟩ := hvm.2.2 _ _ h3
  have hi : (U.vm.classes.findIdx? fun (x : Class) => match x.kind with | .array component _ => component == comp | _ => false) = some c := by
    rw [hvm.findIdx?_eq _ (fun _ => rfl)]
    exact h2
  have hkind : k'.kind = .array comp (.array .int) := by rw [he]; exact h4
  have f1 : U.vm.findClass (FieldType.array .int).toString = some comp := by rw [hvm.findClass]; exact h1
  have f2 : U.vm.findClass ("[" ++ (FieldType.array .int).toString) = some c := by rw [hvm.findClass]; exact h5
  unfold Cond.before Cond.holds
  simp only [Cond.value]
  rw [f1, Option.bind_some]
  refine (congrArg (fun o : Option Nat => (o.bind (fun c => (U.vm.classes[c]?).map fun (k : Class) => match k.kind with | .array _ ty => decide (ty = FieldType.array .int) && decide (U.vm.findClass ("[" ++ (FieldType.array .int).toString) = some c) | _ => false) == some true)) hi).trans ?_
  simp [hk', hkind, f2]
theorem zA_O.moved {u U : State} (hvm : u.vm.Alike U.vm) (h : zA_O u) : zA_O U := zA_O.of hvm (h #[])
/-- what stands outside the world and is only read: the CRC's table, the script -/
def zX (zt : Option Nat) (zs : Option (Nat × Nat × (Nat → Int32))) (A : Nat → Prop) (U : State) (H : Heap) : Prop :=
  (∀ t, zt = some t → va_Z "CRC32" "crc_table" "[I" (.ref t) A U H ∧ va_T .int t 256 (fun j => .int (nI (sj_c8 j))) A U H) ∧ (∀ q, zs = some q → va_T .int q.1 q.2.1 (fun j => .int (q.2.2 j)) A U H) ∧ (∀ t, zt = some t → zA_O U)
theorem zX.moved {zt : Option Nat} {zs : Option (Nat × Nat × (Nat → Int32))} {A : Nat → Prop} {u U : State} {H : Heap} (hvm : u.vm.Alike U.vm) (h : zX zt zs A u H) : zX zt zs A U H :=
  ⟨fun t e => ⟨va_Z.moved hvm (h.1 t e).1, va_T.moved hvm (h.1 t e).2⟩, fun q e => va_T.moved hvm (h.2.1 q e), fun t e => zA_O.moved hvm (h.2.2 t e)⟩
theorem zX.to {zt zt' : Option Nat} {zs zs' : Option (Nat × Nat × (Nat → Int32))} {A B : Nat → Prop} {s U : State} {H0 H : Heap} {locs : List Loc} (h : zX zt zs A s H0) (hS : va_S A H0 H locs) (hvm : s.vm.Alike U.vm) (hAB : ∀ q, B q → A q) (h1 : ∀ t, zt' = some t → zt = some t) (h2 : ∀ q, zs' = some q → zs = some q) : zX zt' zs' B U H :=
  ⟨fun t e => ⟨va_Z.narrow (va_Z.kept (va_Z.moved hvm (h.1 t (h1 t e)).1) hS.2.1) hAB, va_T.narrow (va_T.kept (va_T.moved hvm (h.1 t (h1 t e)).2) hS.2.1) hAB⟩, fun q e => va_T.narrow (va_T.kept (va_T.moved hvm (h.2.1 q (h2 q e))) hS.2.1) hAB, fun t e => zA_O.moved hvm (h.2.2 t (h1 t e))⟩
/-- a contract's start -/
def zP (D : va_G) (sz : Nat) (ws : va_W) (tys : List (ClassId × FieldType)) (zt : Option Nat) (zs : Option (Nat × Nat × (Nat → Int32))) (U : State) : Prop :=
  U.heap.size = sz ∧ va_P D zCl ws U.heap ∧ va_K D zCl tys U ∧ va_D (fun _ => True) ws ∧ zX zt zs (va_A ws sz) U U.heap
/-- a contract's end: the world behind it -/
def zB {S : Type} (D : va_G) (A : Nat → Prop) (ws : S → va_W) (tys : S → List (ClassId × FieldType)) (u : S) (t : State) : Prop :=
  va_P D zCl (ws u) t.heap ∧ va_K D zCl (tys u) t ∧ va_D A (ws u)
/-- the same where a new cell is answered -/
def zBr {S : Type} (D : va_G) (A : Nat → Prop) (ws : S → Nat → va_W) (tys : S → Nat → List (ClassId × FieldType)) (u : S) (a : Nat) (t : State) : Prop :=
  va_P D zCl (ws u a) t.heap ∧ va_K D zCl (tys u a) t ∧ va_D A (ws u a)
theorem zP.blind {av : List Value} {D : va_G} {sz : Nat} {ws : va_W} {tys : List (ClassId × FieldType)} {zt : Option Nat} {zs : Option (Nat × Nat × (Nat → Int32))} : FrameBlind (va_Pc av (zP D sz ws tys zt zs)) := fun a U g mk q => by
  obtain ⟨q0, q1, qP, qK, qD, qX⟩ := q
  exact ⟨q0, q1, qP, va_K.moved (u := U) (U := U.calling g mk a) (Vm.Alike.refl U.vm) qK, qD, zX.moved (u := U) (U := U.calling g mk a) (Vm.Alike.refl U.vm) qX⟩
theorem z_fm {α β : Type} {l : List β} {f : β → Option α} {w : List α} (h : l.map f = w.map some) : l.filterMap f = w := by
  have e := congrArg (List.filterMap (fun x : Option α => x)) h
  rw [List.filterMap_map, List.filterMap_map] at e
  have e2 : l.filterMap f = w.filterMap some := e
  rw [e2, List.filterMap_some]
section ZPRE
variable {D : va_G} {s : State} {H : Heap} {A : Nat → Prop} {locs : List Loc} {ws wc : va_W} {tys tyc : List (ClassId × FieldType)} {zt zt' : Option Nat} {zs zs' : Option (Nat × Nat × (Nat → Int32))} {As : List Value}
theorem z_pre (hK : va_K D zCl tys s) (hP : va_P D zCl ws H) (hD : va_D A ws) (hS : va_S A s.heap H locs) (hA : ∀ q, s.heap.size ≤ q → A q) (hX : zX zt zs A s s.heap) (isC itC : List Nat) (hC : isC.map (fun i => ws[i]?) = wc.map some) (hn : va_nd isC = true) (htC : itC.filterMap (fun i => tys[i]?) = tyc) (h1 : ∀ t, zt' = some t → zt = some t) (h2 : ∀ q, zs' = some q → zs = some q) : PreS s H (va_Pc As (zP D H.size wc tyc zt' zs')) As :=
  ⟨zP.blind, fun U hU hW => ⟨rfl, by rw [hU], by rw [hU]; exact hP.sub isC (z_fm hC), va_K.moved hW.alike (hK.sub itC htC), (hD.sub isC hn hC).weaken (fun _ _ _ _ => trivial), by rw [hU]; exact hX.to hS hW.alike (va_free hD hS hA isC hC) h1 h2⟩⟩
theorem z_preV {q0 ci b : Nat} {fs : List Value} {r : vw_C} (he : ws[q0]? = some (b, .inr (ci, fs))) (hc : zCl[ci]? = some r) (hK : va_K D zCl tys s) (hP : va_P D zCl ws H) (hD : va_D A ws) (hS : va_S A s.heap H locs) (hA : ∀ q, s.heap.size ≤ q → A q) (hX : zX zt zs A s s.heap) (isC itC : List Nat) (hC : isC.map (fun i => ws[i]?) = wc.map some) (hn : va_nd isC = true) (htC : itC.filterMap (fun i => tys[i]?) = tyc) (h1 : ∀ t, zt' = some t → zt = some t) (h2 : ∀ q, zs' = some q → zs = some q) : PreV s H r.1 b (va_Pc (.ref b :: As) (zP D H.size wc tyc zt' zs')) As :=
  ⟨zP.blind, va_recv hK hP hc he, (z_pre hK hP hD hS hA hX isC itC hC hn htC h1 h2).2⟩
end ZPRE
section ZGO
variable {p : Program} {l : Launch} {e : Env} {R : Room} {s : State} {m : MethodId} {args : Array Value} {below : List Frame} {meth : Method} {c : Code} {H : Heap} {locs : List Loc} {cells slots mc ms : Nat} {Q : State → Prop}
variable {pc : Nat} {ls : Array Slot} {rest st0 : List Value} {a : Array Value} {A : Nat → Prop} {D : va_G} {ws wc wr : va_W} {tys : List (ClassId × FieldType)} {S : Type}
theorem z_goi {post : Int32 → S → Prop} {w1 : S → va_W} {ty1 : S → List (ClassId × FieldType)} (hr : va_Run p l e R s m args below meth c H locs cells slots mc ms (F0 m pc ls st0) rest (va_Qi post (zB D (va_A wc H.size) w1 ty1) (va_A wc H.size) a) (va_A wc H.size)) (hK : va_K D zCl tys s) (hP : va_P D zCl ws H) (hD : va_D A ws) (hS : va_S A s.heap H locs) (hA : ∀ q, s.heap.size ≤ q → A q) (isC isR : List Nat) (hC : isC.map (fun i => ws[i]?) = wc.map some) (hR : isR.map (fun i => ws[i]?) = wr.map some) (hn : va_nd isR = true) (hdis : ∀ i ∈ isR, i ∉ isC)
    (kk : ∀ (r : Int32) (u : S) (H1 : Heap) (locs1 : List Loc), post r u → va_K D zCl (tys ++ ty1 u) s → va_P D zCl (wr ++ w1 u) H1 → va_D A (wr ++ w1 u) → va_S A s.heap H1 locs1 → W p l e R s m args below meth c H1 locs1 (cells + mc) (slots + ms) Q (F0 m (pc + 3) ls (.int r :: rest))) : W p l e R s m args below meth c H locs cells slots Q (F0 m pc ls st0) := by
  have hF := va_free (wc := wc) hD hS hA isC hC
  refine va_calli hr hS (fun q _ h => hF q h) hF (fun r u t H1 locs1 ht hvm hp hB hz hk hS1 => ?_)
  obtain ⟨hP1, hK1, hD1⟩ := hB
  rw [ht] at hP1
  obtain ⟨hP, hD⟩ := va_join hP hD isC isR hC hR hn hdis hk hF hP1 hD1
  exact kk r u H1 locs1 hp (hK.app (va_K.moved hvm.symm hK1)) hP hD hS1
theorem z_gol {post : Int64 → S → Prop} {w1 : S → va_W} {ty1 : S → List (ClassId × FieldType)} (hr : va_Run p l e R s m args below meth c H locs cells slots mc ms (F0 m pc ls st0) rest (va_Ql post (zB D (va_A wc H.size) w1 ty1) (va_A wc H.size) a) (va_A wc H.size)) (hK : va_K D zCl tys s) (hP : va_P D zCl ws H) (hD : va_D A ws) (hS : va_S A s.heap H locs) (hA : ∀ q, s.heap.size ≤ q → A q) (isC isR : List Nat) (hC : isC.map (fun i => ws[i]?) = wc.map some) (hR : isR.map (fun i => ws[i]?) = wr.map some) (hn : va_nd isR = true) (hdis : ∀ i ∈ isR, i ∉ isC)
    (kk : ∀ (r : Int64) (u : S) (H1 : Heap) (locs1 : List Loc), post r u → va_K D zCl (tys ++ ty1 u) s → va_P D zCl (wr ++ w1 u) H1 → va_D A (wr ++ w1 u) → va_S A s.heap H1 locs1 → W p l e R s m args below meth c H1 locs1 (cells + mc) (slots + ms) Q (F0 m (pc + 3) ls (.long r :: rest))) : W p l e R s m args below meth c H locs cells slots Q (F0 m pc ls st0) := by
  have hF := va_free (wc := wc) hD hS hA isC hC
  refine va_calll hr hS (fun q _ h => hF q h) hF (fun r u t H1 locs1 ht hvm hp hB hz hk hS1 => ?_)
  obtain ⟨hP1, hK1, hD1⟩ := hB
  rw [ht] at hP1
  obtain ⟨hP, hD⟩ := va_join hP hD isC isR hC hR hn hdis hk hF hP1 hD1
  exact kk r u H1 locs1 hp (hK.app (va_K.moved hvm.symm hK1)) hP hD hS1
theorem z_gov {post : S → Prop} {w1 : S → va_W} {ty1 : S → List (ClassId × FieldType)} (hr : va_Run p l e R s m args below meth c H locs cells slots mc ms (F0 m pc ls st0) rest (va_Qv post (zB D (va_A wc H.size) w1 ty1) (va_A wc H.size) a) (va_A wc H.size)) (hK : va_K D zCl tys s) (hP : va_P D zCl ws H) (hD : va_D A ws) (hS : va_S A s.heap H locs) (hA : ∀ q, s.heap.size ≤ q → A q) (isC isR : List Nat) (hC : isC.map (fun i => ws[i]?) = wc.map some) (hR : isR.map (fun i => ws[i]?) = wr.map some) (hn : va_nd isR = true) (hdis : ∀ i ∈ isR, i ∉ isC)
    (kk : ∀ (u : S) (H1 : Heap) (locs1 : List Loc), post u → va_K D zCl (tys ++ ty1 u) s → va_P D zCl (wr ++ w1 u) H1 → va_D A (wr ++ w1 u) → va_S A s.heap H1 locs1 → W p l e R s m args below meth c H1 locs1 (cells + mc) (slots + ms) Q (F0 m (pc + 3) ls rest)) : W p l e R s m args below meth c H locs cells slots Q (F0 m pc ls st0) := by
  have hF := va_free (wc := wc) hD hS hA isC hC
  refine va_callv hr hS (fun q _ h => hF q h) hF (fun u t H1 locs1 ht hvm hp hB hz hk hS1 => ?_)
  obtain ⟨hP1, hK1, hD1⟩ := hB
  rw [ht] at hP1
  obtain ⟨hP, hD⟩ := va_join hP hD isC isR hC hR hn hdis hk hF hP1 hD1
  exact kk u H1 locs1 hp (hK.app (va_K.moved hvm.symm hK1)) hP hD hS1
theorem z_gor {post : S → Prop} {w1 : S → Nat → va_W} {ty1 : S → Nat → List (ClassId × FieldType)} (hr : va_Run p l e R s m args below meth c H locs cells slots mc ms (F0 m pc ls st0) rest (va_Qr post (zBr D (va_A wc H.size) w1 ty1) (va_A wc H.size) a) (va_A wc H.size)) (hK : va_K D zCl tys s) (hP : va_P D zCl ws H) (hD : va_D A ws) (hS : va_S A s.heap H locs) (hA : ∀ q, s.heap.size ≤ q → A q) (isC isR : List Nat) (hC : isC.map (fun i => ws[i]?) = wc.map some) (hR : isR.map (fun i => ws[i]?) = wr.map some) (hn : va_nd isR = true) (hdis : ∀ i ∈ isR, i ∉ isC)
    (kk : ∀ (u : S) (ra : Nat) (H1 : Heap) (locs1 : List Loc), post u → va_K D zCl (tys ++ ty1 u ra) s → va_P D zCl (wr ++ w1 u ra) H1 → va_D A (wr ++ w1 u ra) → va_S A s.heap H1 locs1 → W p l e R s m args below meth c H1 locs1 (cells + mc) (slots + ms) Q (F0 m (pc + 3) ls (.ref ra :: rest))) : W p l e R s m args below meth c H locs cells slots Q (F0 m pc ls st0) := by
  have hF := va_free (wc := wc) hD hS hA isC hC
  refine va_callr hr hS (fun q _ h => hF q h) hF (fun u ra t H1 locs1 ht hvm hp hB hz hk hS1 => ?_)
  obtain ⟨hP1, hK1, hD1⟩ := hB
  rw [ht] at hP1
  obtain ⟨hP, hD⟩ := va_join hP hD isC isR hC hR hn hdis hk hF hP1 hD1
  exact kk u ra H1 locs1 hp (hK.app (va_K.moved hvm.symm hK1)) hP hD hS1
/-- a loop: from its head at i with I i, given the head at i + 1, or out -/
theorem z_loop {σ : Type} (N : Nat) (C S' : Nat → Nat) (I : Nat → σ → Heap → List Loc → Array Slot → Prop) {st : List Value}
    (step : ∀ (i : Nat) (u : σ) (H : Heap) (locs : List Loc) (ls : Array Slot), i ≤ N → (i < N → ∀ (u' : σ) (H' : Heap) (locs' : List Loc) (ls' : Array Slot), I (i + 1) u' H' locs' ls' → W p l e R s m args below meth c H' locs' (C (i + 1)) (S' (i + 1)) Q (F0 m pc ls' st)) → I i u H locs ls → W p l e R s m args below meth c H locs (C i) (S' i) Q (F0 m pc ls st))
    (i0 : Nat) (u0 : σ) (hi : i0 ≤ N) (h0 : I i0 u0 H locs ls) (hc : cells ≤ C i0) (hs : slots ≤ S' i0) : W p l e R s m args below meth c H locs cells slots Q (F0 m pc ls st) := by
  have key : ∀ (n i : Nat) (u : σ) (H : Heap) (locs : List Loc) (ls : Array Slot), i + n = N → I i u H locs ls → W p l e R s m args below meth c H locs (C i) (S' i) Q (F0 m pc ls st) := by
    intro n
    induction n with
    | zero => intro i u H locs ls h hI; exact step i u H locs ls (by omega) (fun h2 => by omega) hI
    | succ n ih => intro i u H locs ls h hI; exact step i u H locs ls (by omega) (fun _ u' H' locs' ls' hI' => ih (i + 1) u' H' locs' ls' (by omega) hI') hI
  exact W.widen hc hs (key (N - i0) i0 u0 H locs ls (by omega) h0)
end ZGO
/-- a cell's contents as another function that agrees on its places -/
theorem z_arrV {d : ClassId} {n : Nat} {f g : Nat → Value} (h : ∀ j, j < n → f j = g j) : arrV d n f = arrV d n g := by
  unfold arrV
  congr 1
  apply Array.ext
  · simp
  · intro j h1 h2
    simp only [Array.getElem_ofFn]
    exact h j (by simpa using h1)
theorem z_setP {D : va_G} {ws : va_W} {H : Heap} (hP : va_P D zCl ws H) (i : Nat) {a : Nat} {x y : va_E} (he : ws[i]? = some (a, x)) (hxy : va_at D zCl (a, x) H → va_at D zCl (a, y) H) : va_P D zCl (ws.set i (a, y)) H := by
  intro k q hq
  by_cases h : i = k
  · subst h
    rw [List.getElem?_set_self (List.getElem?_eq_some_iff.mp he).1] at hq
    cases hq
    exact hxy (hP i _ he)
  · rw [List.getElem?_set_ne h] at hq
    exact hP k q hq
theorem z_setPi {D : va_G} {ws : va_W} {H : Heap} (hP : va_P D zCl ws H) (i : Nat) {a : Nat} {d : ClassId} {n : Nat} {f : Nat → Int32} (g : Nat → Int32) (he : ws[i]? = some (a, .inl (d, n, .inl f))) (h : ∀ j, j < n → f j = g j) : va_P D zCl (ws.set i (a, .inl (d, n, .inl g))) H :=
  z_setP hP i he (fun hc => by
    have e : vp_cell d (n, .inl f) = vp_cell d (n, .inl g) := by
      show arrV d n (fun j => .int (f j)) = arrV d n (fun j => .int (g j))
      exact z_arrV (fun j hj => by rw [h j hj])
    show H[a]? = some (vp_cell d (n, .inl g))
    rw [← e]
    exact hc)
theorem z_setPl {D : va_G} {ws : va_W} {H : Heap} (hP : va_P D zCl ws H) (i : Nat) {a : Nat} {d : ClassId} {n : Nat} {f : Nat → Int64} (g : Nat → Int64) (he : ws[i]? = some (a, .inl (d, n, .inr (.inl f)))) (h : ∀ j, j < n → f j = g j) : va_P D zCl (ws.set i (a, .inl (d, n, .inr (.inl g)))) H :=
  z_setP hP i he (fun hc => by
    have e : vp_cell d (n, .inr (.inl f)) = vp_cell d (n, .inr (.inl g)) := by
      show arrV d n (fun j => .long (f j)) = arrV d n (fun j => .long (g j))
      exact z_arrV (fun j hj => by rw [h j hj])
    show H[a]? = some (vp_cell d (n, .inr (.inl g)))
    rw [← e]
    exact hc)
theorem z_setD {A : Nat → Prop} {ws : va_W} (hD : va_D A ws) (i : Nat) {a : Nat} {x : va_E} (y : va_E) (he : ws[i]? = some (a, x)) : va_D A (ws.set i (a, y)) := hD.set he
end
section
/-! CRC32: contracts -/
set_option maxHeartbeats 4000000 in
set_option maxRecDepth 100000 in
/-- CRC32(): v is 0 -/
theorem mX2_init (l : Launch) (D : va_G) (sz : Nat) (h0 : Nat) : Met l yX2_init (ws_ yX2_init cX2_init 1 none) ({ frames := 1, cells := 0, slots := 0, locals := 12 }) (va_Pc [.ref h0] (zP D sz [(h0, .inr (1, [.int 0]))] [] none none)) (va_Qv (fun (_ : Unit) => True) (zB D (va_A [(h0, .inr (1, [.int 0]))] sz) (fun (_ : Unit) => [(h0, .inr (1, [.int 0]))]) (fun (_ : Unit) => [])) (va_A [(h0, .inr (1, [.int 0]))] sz)) 0 0 (va_A [(h0, .inr (1, [.int 0]))] sz) := by
  refine Met.ofW (cc := cX2_init) (maxL := 1) (ret := none) (by decide) rfl ?_
  intro p e s m args below meth c s₁ B hml hv
  obtain ⟨rfl, hsz, hP, hK, hD0, hX⟩ := hv
  have hx := B.exec
  have hb := B.bytes
  have hr := B.returns
  have hts := atoms_spec (ws := ws_ yX2_init cX2_init 1 none) B.pre
  have hts : ∀ w ∈ lw_all, w.before _ s = true := fun w h => hts w (List.mem_cons_of_mem _ h)
  have hown : s.vm.findClass RX2 = some m.cls := findClass_of_methodNamed B.named
  have hlocks := B.notSynchronized
  have hin : meth.name = "<init>" := (name_of_methodNamed B.named B.method).1
  subst hsz
  have hD := hD0.self (sz := s.heap.size)
  generalize hAe : va_A [(h0, .inr (1, [.int 0]))] s.heap.size = A at hD hX ⊢
  have hA : ∀ q : Nat, s.heap.size ≤ q → A q := fun q h => by rw [← hAe]; exact Or.inr h
  have hS : va_S A s.heap s.heap [] := va_S.rf
  have hP : va_P D zCl [(h0, .inr (1, [.int 0]))] s.heap := hP
  have hl := lv_entry ([.ref h0]) (n := 1) (Nat.le_of_ble_eq_true rfl)
  rw [lg_entry_eq]
  generalize (lg_sl ([.ref h0]) ++ List.replicate (1 - (lg_sl ([.ref h0])).length) Slot.unset).toArray = ls at hl ⊢
  have hl : lv_has ls 1 [(0, .ref h0)] := hl
  refine lv_aload_n hx hb dX2_init_0 rfl (lv_at hl 0 rfl) ?_
  refine W.objInit hx hb hown (hts _ q50) (hts _ q19) (hts _ q20) rfl (by rw [hml]; exact hl.1) rfl dX2_init_1 (Nat.le_of_ble_eq_true rfl) (Nat.le_of_ble_eq_true rfl) ?_
  refine W.eq (g2 := F0 m 4 ls []) rfl ?_
  refine lv_aload_n hx hb dX2_init_4 rfl (lv_at hl 0 rfl) ?_
  refine lv_iconst (v := 0) hx hb dX2_init_5 (by decide) ?_
  refine va_put (D := D) (ci := 1) (v := .int 0) (ty := .int) (C := RX2) (T := TX2) (N := 1) hx hb hts in_X2 tyX2 tyX2_ok nmX2 hown hK hP hD hS 0 rfl rfl 0 (by decide) (hts _ q51) (fun _ h9 => h9) rfl (by decide +kernel) rfl rfl (Nat.le_of_ble_eq_true rfl) dX2_init_6 (fun H locs hP hD hS => ?_)
  have hP : va_P D zCl [(h0, .inr (1, [.int 0]))] H := hP
  have hD : va_D A [(h0, .inr (1, [.int 0]))] := hD
  have hP9 := hP.sub (ws' := [(h0, .inr (1, [.int 0]))]) [0] rfl
  have hD9 := hD.sub (ws' := [(h0, .inr (1, [.int 0]))]) [0] (by decide) rfl
  have hK9 := hK.sub (tys' := []) [] rfl
  exact W.vret hx hb hr (fun t ht hW => ⟨⟨(), rfl, trivial, by rw [ht]; exact hP9, va_K.moved hW.alike hK9, hD9⟩, hS.F ht⟩) hS.2.2 dX2_init_9
set_option maxHeartbeats 4000000 in
set_option maxRecDepth 100000 in
/-- getValue: v without sign -/
theorem mX2_getValue (l : Launch) (D : va_G) (sz : Nat) (h0 : Nat) (v : Nat) (hv : v < 4294967296) : Met l yX2_getValue (ws_ yX2_getValue cX2_getValue 1 (some .long)) ({ frames := 0, cells := 0, slots := 0, locals := 0 }) (va_Pc [.ref h0] (zP D sz [(h0, .inr (1, [.int (nI v)]))] [] none none)) (va_Ql (fun (r : Int64) (_ : Unit) => r = lN v) (zB D (va_A [(h0, .inr (1, [.int (nI v)]))] sz) (fun (_ : Unit) => [(h0, .inr (1, [.int (nI v)]))]) (fun (_ : Unit) => [])) (va_A [(h0, .inr (1, [.int (nI v)]))] sz)) 0 0 (va_A [(h0, .inr (1, [.int (nI v)]))] sz) := by
  refine Met.ofW (cc := cX2_getValue) (maxL := 1) (ret := (some .long)) (by decide) rfl ?_
  intro p e s m args below meth c s₁ B hml hv
  obtain ⟨rfl, hsz, hP, hK, hD0, hX⟩ := hv
  have hx := B.exec
  have hb := B.bytes
  have hr := B.returns
  have hts := atoms_spec (ws := ws_ yX2_getValue cX2_getValue 1 (some .long)) B.pre
  have hts : ∀ w ∈ lw_all, w.before _ s = true := fun w h => hts w (List.mem_cons_of_mem _ h)
  have hown : s.vm.findClass RX2 = some m.cls := findClass_of_methodNamed B.named
  have hlocks := B.notSynchronized
  subst hsz
  have hD := hD0.self (sz := s.heap.size)
  generalize hAe : va_A [(h0, .inr (1, [.int (nI v)]))] s.heap.size = A at hD hX ⊢
  have hA : ∀ q : Nat, s.heap.size ≤ q → A q := fun q h => by rw [← hAe]; exact Or.inr h
  have hS : va_S A s.heap s.heap [] := va_S.rf
  have hP : va_P D zCl [(h0, .inr (1, [.int (nI v)]))] s.heap := hP
  have hl := lv_entry ([.ref h0]) (n := 1) (Nat.le_of_ble_eq_true rfl)
  rw [lg_entry_eq]
  generalize (lg_sl ([.ref h0]) ++ List.replicate (1 - (lg_sl ([.ref h0])).length) Slot.unset).toArray = ls at hl ⊢
  have hl : lv_has ls 1 [(0, .ref h0)] := hl
  refine lv_aload_n hx hb dX2_getValue_0 rfl (lv_at hl 0 rfl) ?_
  refine va_get (D := D) (ci := 1) (v := .int (nI v)) (C := RX2) (T := TX2) (N := 1) hx hb hts in_X2 hown hK hP 0 rfl rfl 0 (by decide) (hts _ q51) (fun _ h9 => h9) rfl dX2_getValue_1 ?_
  refine lv_i2l hx hb dX2_getValue_4 rfl ?_
  refine lv_topl (fun x_1 e_1 => ?_)
  have e_1 : x_1 = (nI v).toInt64 := by refine e_1.trans ?_; rfl
  subst e_1
  refine lv_ldc2 (v := 4294967295) hx hb hown (hts _ q65) dX2_getValue_5 ?_
  refine lv_land hx hb dX2_getValue_8 ?_
  refine lv_topl (fun x_2 e_2 => ?_)
  have e_2 : x_2 = lN v := by refine e_2.trans ?_; exact zj_i2l hv
  subst e_2
  have hP9 := hP.sub (ws' := [(h0, .inr (1, [.int (nI v)]))]) [0] rfl
  have hD9 := hD.sub (ws' := [(h0, .inr (1, [.int (nI v)]))]) [0] (by decide) rfl
  have hK9 := hK.sub (tys' := []) [] rfl
  exact W.lret (v := (lN v)) hx hb hr (fun t ht hW => ⟨⟨(lN v), (), rfl, rfl, by rw [ht]; exact hP9, va_K.moved hW.alike hK9, hD9⟩, hS.F ht⟩) hS.2.2 dX2_getValue_9
set_option maxHeartbeats 4000000 in
set_option maxRecDepth 100000 in
/-- gf2_matrix_times: the matrix of F times v is F v -/
theorem mX2_times (l : Launch) (D : va_G) (sz : Nat) (q : Nat) (dL : ClassId) (F : Nat → Nat) (v : Nat) (hF : sj_lin F) (hv : v < 4294967296) : Met l yX2_gf2_matrix_times (ws_ yX2_gf2_matrix_times cX2_gf2_matrix_times 6 (some .long)) ({ frames := 0, cells := 0, slots := 0, locals := 0 }) (va_Pc [.ref q, .long (lN v)] (zP D sz [(q, .inl (dL, 32, .inr (.inl (fun j => lN (F (2 ^ j))))))] [(dL, .long)] none none)) (va_Ql (fun (r : Int64) (_ : Unit) => r = lN (F v)) (zB D (va_A [(q, .inl (dL, 32, .inr (.inl (fun j => lN (F (2 ^ j))))))] sz) (fun (_ : Unit) => [(q, .inl (dL, 32, .inr (.inl (fun j => lN (F (2 ^ j))))))]) (fun (_ : Unit) => [])) (va_A [(q, .inl (dL, 32, .inr (.inl (fun j => lN (F (2 ^ j))))))] sz)) 0 0 (va_A [(q, .inl (dL, 32, .inr (.inl (fun j => lN (F (2 ^ j))))))] sz) := by
  refine Met.ofW (cc := cX2_gf2_matrix_times) (maxL := 6) (ret := (some .long)) (by decide) rfl ?_
  intro p e s m args below meth c s₁ B hml hv
  obtain ⟨rfl, hsz, hP, hK, hD0, hX⟩ := hv
  have hx := B.exec
  have hb := B.bytes
  have hr := B.returns
  have hts := atoms_spec (ws := ws_ yX2_gf2_matrix_times cX2_gf2_matrix_times 6 (some .long)) B.pre
  have hts : ∀ w ∈ lw_all, w.before _ s = true := fun w h => hts w (List.mem_cons_of_mem _ h)
  have hown : s.vm.findClass RX2 = some m.cls := findClass_of_methodNamed B.named
  have hlocks := B.notSynchronized
  subst hsz
  have hD := hD0.self (sz := s.heap.size)
  generalize hAe : va_A [(q, .inl (dL, 32, .inr (.inl (fun j => lN (F (2 ^ j))))))] s.heap.size = A at hD hX ⊢
  have hA : ∀ q : Nat, s.heap.size ≤ q → A q := fun q h => by rw [← hAe]; exact Or.inr h
  have hS : va_S A s.heap s.heap [] := va_S.rf
  have hP : va_P D zCl [(q, .inl (dL, 32, .inr (.inl (fun j => lN (F (2 ^ j))))))] s.heap := hP
  have hl := lv_entry ([.ref q, .long (lN v)]) (n := 6) (Nat.le_of_ble_eq_true rfl)
  rw [lg_entry_eq]
  generalize (lg_sl ([.ref q, .long (lN v)]) ++ List.replicate (6 - (lg_sl ([.ref q, .long (lN v)])).length) Slot.unset).toArray = ls at hl ⊢
  have hl : lv_has ls 6 [(0, .ref q), (1, .long (lN v))] := hl
  refine lv_lconst (v := 0) hx hb dX2_gf2_matrix_times_0 (by rfl) ?_
  refine lv_lstore_n (lv' := [(3, .long 0), (0, .ref q), (1, .long (lN v))]) hx hb dX2_gf2_matrix_times_1 rfl hl (by decide) rfl (fun ls hl => ?_)
  refine lv_iconst (v := 0) hx hb dX2_gf2_matrix_times_2 (by decide) ?_
  refine lv_istore (lv' := [(5, .int 0), (3, .long 0), (0, .ref q), (1, .long (lN v))]) hx hb dX2_gf2_matrix_times_3 hl (by decide) rfl (fun ls hl => ?_)
  have hv0 : lN v = lN (v / 2 ^ 0) := by rw [Nat.pow_zero, Nat.div_one]
  have hs0 : (0 : Int64) = lN (F (v % 2 ^ 0)) := by rw [Nat.pow_zero, Nat.mod_one, sj_lin0 hF]; rfl
  rw [hv0, hs0] at hl
  have hl : lv_has ls 6 [(5, .int (nI 0)), (3, .long (lN (F (v % 2 ^ 0)))), (0, .ref q), (1, .long (lN (v / 2 ^ 0)))] := hl
  refine z_loop (σ := Unit) (32) (fun i => 0) (fun i => 0) (fun i _ H locs ls => va_P D zCl [(q, .inl (dL, 32, .inr (.inl (fun j => lN (F (2 ^ j))))))] H ∧ va_D A [(q, .inl (dL, 32, .inr (.inl (fun j => lN (F (2 ^ j))))))] ∧ va_S A s.heap H locs ∧ lv_has ls 6 [(0, .ref q), (1, .long (lN (v / 2 ^ i))), (3, .long (lN (F (v % 2 ^ i)))), (5, .int (nI i))] ∧ True) ?_ (0) () (by omega) ⟨hP.sub (ws' := [(q, .inl (dL, 32, .inr (.inl (fun j => lN (F (2 ^ j))))))]) [0] rfl, hD.sub (ws' := [(q, .inl (dL, 32, .inr (.inl (fun j => lN (F (2 ^ j))))))]) [0] (by decide) rfl, hS, lv_sub (l' := [(0, .ref q), (1, .long (lN (v / 2 ^ 0))), (3, .long (lN (F (v % 2 ^ 0)))), (5, .int (nI 0))]) hl [2, 3, 1, 0] rfl, trivial⟩ (by omega) (by omega)
  intro i u H locs ls hi ih hI
  obtain ⟨hP, hD, hS, hl, hJ⟩ := hI
  have hP : va_P D zCl [(q, .inl (dL, 32, .inr (.inl (fun j => lN (F (2 ^ j))))))] H := hP
  have hD : va_D A [(q, .inl (dL, 32, .inr (.inl (fun j => lN (F (2 ^ j))))))] := hD
  have hl : lv_has ls 6 [(0, .ref q), (1, .long (lN (v / 2 ^ i))), (3, .long (lN (F (v % 2 ^ i)))), (5, .int (nI i))] := hl
  have hJ : True := hJ
  refine W.widen (k := 0) (n := 0) (Nat.le_refl _) (Nat.le_refl _) ?_
  have hvi : v / 2 ^ i < 4294967296 := Nat.lt_of_le_of_lt (Nat.div_le_self _ _) hv
  refine lv_lload_n hx hb dX2_gf2_matrix_times_5 rfl (lv_at hl 1 rfl) ?_
  refine lv_lconst (v := 0) hx hb dX2_gf2_matrix_times_6 (by rfl) ?_
  refine W.lcmp hx hb dX2_gf2_matrix_times_7 ?_
  refine lv_if_eq (tgt := 36) hx hb dX2_gf2_matrix_times_8 (by decide) (fun c0 => ?_) (fun c0 => ?_)
  · skip
    have hz : v / 2 ^ i = 0 := (zj_lc (by omega) (by decide)).mp c0
    have hlt : v < 2 ^ i := (Nat.div_eq_zero_iff.mp hz).elim (fun h => absurd h (Nat.ne_of_gt (Nat.two_pow_pos i))) id
    have hm : v % 2 ^ i = v := Nat.mod_eq_of_lt hlt
    refine lv_lload_n hx hb dX2_gf2_matrix_times_36 rfl (lv_at hl 2 rfl) ?_
    rw [hm]
    have hP9 := hP.sub (ws' := [(q, .inl (dL, 32, .inr (.inl (fun j => lN (F (2 ^ j))))))]) [0] rfl
    have hD9 := hD.sub (ws' := [(q, .inl (dL, 32, .inr (.inl (fun j => lN (F (2 ^ j))))))]) [0] (by decide) rfl
    have hK9 := hK.sub (tys' := []) [] rfl
    exact W.lret (v := (lN (F v))) hx hb hr (fun t ht hW => ⟨⟨(lN (F v)), (), rfl, rfl, by rw [ht]; exact hP9, va_K.moved hW.alike hK9, hD9⟩, hS.F ht⟩) hS.2.2 dX2_gf2_matrix_times_37
  · skip
    have hnz : v / 2 ^ i ≠ 0 := fun h => c0 ((zj_lc (by omega) (by decide)).mpr h)
    have hi32 : i < 32 := by
      rcases Nat.lt_or_ge i 32 with h | h
      · exact h
      · exact absurd (Nat.div_eq_of_lt (Nat.lt_of_lt_of_le hv (Nat.pow_le_pow_right (n := 2) (by decide) h))) hnz
    refine lv_lload_n hx hb dX2_gf2_matrix_times_11 rfl (lv_at hl 1 rfl) ?_
    refine lv_lconst (v := 1) hx hb dX2_gf2_matrix_times_12 (by rfl) ?_
    refine lv_land hx hb dX2_gf2_matrix_times_13 ?_
    refine lv_topl (fun x_1 e_1 => ?_)
    have e_1 : x_1 = lN (v / 2 ^ i % 2) := by refine e_1.trans ?_; exact zj_l1 (by omega)
    subst e_1
    refine lv_lconst (v := 0) hx hb dX2_gf2_matrix_times_14 (by rfl) ?_
    refine W.lcmp hx hb dX2_gf2_matrix_times_15 ?_
    refine lv_if_eq (tgt := 26) hx hb dX2_gf2_matrix_times_16 (by decide) (fun c1 => ?_) (fun c1 => ?_)
    · skip
      have cb : ¬ v / 2 ^ i % 2 = 1 := by have h9 := (zj_lc (a := v / 2 ^ i % 2) (b := 0) (by omega) (by decide)).mp c1; omega
      have hacc : F (v % 2 ^ (i + 1)) = F (v % 2 ^ i) := by rw [sj_mat_step hF, if_neg cb, Nat.xor_zero]
      refine lv_lload_n hx hb dX2_gf2_matrix_times_26 rfl (lv_at hl 1 rfl) ?_
      refine lv_iconst (v := 1) hx hb dX2_gf2_matrix_times_27 (by decide) ?_
      refine lv_lshr hx hb dX2_gf2_matrix_times_28 rfl ?_
      refine lv_topl (fun x_2 e_2 => ?_)
      have e_2 : x_2 = lN (v / 2 ^ (i + 1)) := by refine e_2.trans ?_; rw [zj_lsr1 (by omega), Nat.div_div_eq_div_mul, ← Nat.pow_succ]
      subst e_2
      refine lv_lstore_n (lv' := [(1, .long (lN (v / 2 ^ (i + 1)))), (0, .ref q), (3, .long (lN (F (v % 2 ^ i)))), (5, .int (nI i))]) hx hb dX2_gf2_matrix_times_29 rfl hl (by decide) rfl (fun ls hl => ?_)
      refine lv_iinc (v := nI (i + 1)) (lv' := [(5, .int (nI (i + 1))), (1, .long (lN (v / 2 ^ (i + 1)))), (0, .ref q), (3, .long (lN (F (v % 2 ^ i))))]) hx hb dX2_gf2_matrix_times_30 hl (k := 3) rfl (by exact nI_1 i) (by decide) rfl (fun ls hl => ?_)
      refine lv_goto (tgt := 5) hx hb dX2_gf2_matrix_times_33 (by decide) ?_
      rw [← hacc] at hl
      refine W.widen (k := 0) (n := 0) (Nat.le_of_ble_eq_true rfl) (Nat.le_of_ble_eq_true rfl) ?_
      exact ih (by omega) () H locs ls ⟨hP.sub (ws' := [(q, .inl (dL, 32, .inr (.inl (fun j => lN (F (2 ^ j))))))]) [0] rfl, hD.sub (ws' := [(q, .inl (dL, 32, .inr (.inl (fun j => lN (F (2 ^ j))))))]) [0] (by decide) rfl, hS, lv_sub (l' := [(0, .ref q), (1, .long (lN (v / 2 ^ (i + 1)))), (3, .long (lN (F (v % 2 ^ (i + 1))))), (5, .int (nI (i + 1)))]) hl [2, 1, 3, 0] rfl, trivial⟩
    · skip
      have cb : v / 2 ^ i % 2 = 1 := by have h9 : ¬ v / 2 ^ i % 2 = 0 := fun h => c1 ((zj_lc (a := v / 2 ^ i % 2) (b := 0) (by omega) (by decide)).mpr h); omega
      have hacc : F (v % 2 ^ (i + 1)) = F (v % 2 ^ i) ^^^ F (2 ^ i) := by rw [sj_mat_step hF, if_pos cb]
      refine lv_lload_n hx hb dX2_gf2_matrix_times_19 rfl (lv_at hl 2 rfl) ?_
      refine lv_aload_n hx hb dX2_gf2_matrix_times_20 rfl (lv_at hl 0 rfl) ?_
      refine lv_iload hx hb dX2_gf2_matrix_times_21 (lv_at hl 3 rfl) ?_
      refine va_lald hx hb hK hP 0 0 rfl rfl (vp_in_nI hi32 (by decide)) dX2_gf2_matrix_times_23 ?_
      refine lv_topl (fun x_3 e_3 => ?_)
      have e_3 : x_3 = lN (F (2 ^ i)) := by refine e_3.trans ?_; rw [nI_clamp (by omega)]
      subst e_3
      refine lv_lxor hx hb dX2_gf2_matrix_times_24 ?_
      refine lv_topl (fun x_4 e_4 => ?_)
      have e_4 : x_4 = lN (F (v % 2 ^ (i + 1))) := by refine e_4.trans ?_; rw [hacc, lN_xor]
      subst e_4
      refine lv_lstore_n (lv' := [(3, .long (lN (F (v % 2 ^ (i + 1))))), (0, .ref q), (1, .long (lN (v / 2 ^ i))), (5, .int (nI i))]) hx hb dX2_gf2_matrix_times_25 rfl hl (by decide) rfl (fun ls hl => ?_)
      refine lv_lload_n hx hb dX2_gf2_matrix_times_26 rfl (lv_at hl 2 rfl) ?_
      refine lv_iconst (v := 1) hx hb dX2_gf2_matrix_times_27 (by decide) ?_
      refine lv_lshr hx hb dX2_gf2_matrix_times_28 rfl ?_
      refine lv_topl (fun x_5 e_5 => ?_)
      have e_5 : x_5 = lN (v / 2 ^ (i + 1)) := by refine e_5.trans ?_; rw [zj_lsr1 (by omega), Nat.div_div_eq_div_mul, ← Nat.pow_succ]
      subst e_5
      refine lv_lstore_n (lv' := [(1, .long (lN (v / 2 ^ (i + 1)))), (3, .long (lN (F (v % 2 ^ (i + 1))))), (0, .ref q), (5, .int (nI i))]) hx hb dX2_gf2_matrix_times_29 rfl hl (by decide) rfl (fun ls hl => ?_)
      refine lv_iinc (v := nI (i + 1)) (lv' := [(5, .int (nI (i + 1))), (1, .long (lN (v / 2 ^ (i + 1)))), (3, .long (lN (F (v % 2 ^ (i + 1))))), (0, .ref q)]) hx hb dX2_gf2_matrix_times_30 hl (k := 3) rfl (by exact nI_1 i) (by decide) rfl (fun ls hl => ?_)
      refine lv_goto (tgt := 5) hx hb dX2_gf2_matrix_times_33 (by decide) ?_
      refine W.widen (k := 0) (n := 0) (Nat.le_of_ble_eq_true rfl) (Nat.le_of_ble_eq_true rfl) ?_
      exact ih (by omega) () H locs ls ⟨hP.sub (ws' := [(q, .inl (dL, 32, .inr (.inl (fun j => lN (F (2 ^ j))))))]) [0] rfl, hD.sub (ws' := [(q, .inl (dL, 32, .inr (.inl (fun j => lN (F (2 ^ j))))))]) [0] (by decide) rfl, hS, lv_sub (l' := [(0, .ref q), (1, .long (lN (v / 2 ^ (i + 1)))), (3, .long (lN (F (v % 2 ^ (i + 1))))), (5, .int (nI (i + 1)))]) hl [3, 1, 2, 0] rfl, trivial⟩
set_option maxHeartbeats 4000000 in
set_option maxRecDepth 100000 in
/-- gf2_matrix_square: the matrix of F twice -/
theorem mX2_square (l : Launch) (D : va_G) (sz : Nat) (q0 : Nat) (q1 : Nat) (dL : ClassId) (g : Nat → Int64) (F : Nat → Nat) (hF : sj_lin F) (hFb : sj_bd F) : Met l yX2_gf2_matrix_square (ws_ yX2_gf2_matrix_square cX2_gf2_matrix_square 3 none) ({ frames := 1, cells := 0, slots := 0, locals := 25 }) (va_Pc [.ref q0, .ref q1] (zP D sz [(q0, .inl (dL, 32, .inr (.inl g))), (q1, .inl (dL, 32, .inr (.inl (fun j => lN (F (2 ^ j))))))] [(dL, .long)] none none)) (va_Qv (fun (_ : Unit) => True) (zB D (va_A [(q0, .inl (dL, 32, .inr (.inl g))), (q1, .inl (dL, 32, .inr (.inl (fun j => lN (F (2 ^ j))))))] sz) (fun (_ : Unit) => [(q0, .inl (dL, 32, .inr (.inl (fun j => lN (F (F (2 ^ j))))))), (q1, .inl (dL, 32, .inr (.inl (fun j => lN (F (2 ^ j))))))]) (fun (_ : Unit) => [])) (va_A [(q0, .inl (dL, 32, .inr (.inl g))), (q1, .inl (dL, 32, .inr (.inl (fun j => lN (F (2 ^ j))))))] sz)) 0 0 (va_A [(q0, .inl (dL, 32, .inr (.inl g))), (q1, .inl (dL, 32, .inr (.inl (fun j => lN (F (2 ^ j))))))] sz) := by
  refine Met.ofW (cc := cX2_gf2_matrix_square) (maxL := 3) (ret := none) (by decide) rfl ?_
  intro p e s m args below meth c s₁ B hml hv
  obtain ⟨rfl, hsz, hP, hK, hD0, hX⟩ := hv
  have hx := B.exec
  have hb := B.bytes
  have hr := B.returns
  have hts := atoms_spec (ws := ws_ yX2_gf2_matrix_square cX2_gf2_matrix_square 3 none) B.pre
  have hts : ∀ w ∈ lw_all, w.before _ s = true := fun w h => hts w (List.mem_cons_of_mem _ h)
  have hown : s.vm.findClass RX2 = some m.cls := findClass_of_methodNamed B.named
  have hlocks := B.notSynchronized
  subst hsz
  have hD := hD0.self (sz := s.heap.size)
  generalize hAe : va_A [(q0, .inl (dL, 32, .inr (.inl g))), (q1, .inl (dL, 32, .inr (.inl (fun j => lN (F (2 ^ j))))))] s.heap.size = A at hD hX ⊢
  have hA : ∀ q : Nat, s.heap.size ≤ q → A q := fun q h => by rw [← hAe]; exact Or.inr h
  have hS : va_S A s.heap s.heap [] := va_S.rf
  have hP : va_P D zCl [(q0, .inl (dL, 32, .inr (.inl g))), (q1, .inl (dL, 32, .inr (.inl (fun j => lN (F (2 ^ j))))))] s.heap := hP
  have hl := lv_entry ([.ref q0, .ref q1]) (n := 3) (Nat.le_of_ble_eq_true rfl)
  rw [lg_entry_eq]
  generalize (lg_sl ([.ref q0, .ref q1]) ++ List.replicate (3 - (lg_sl ([.ref q0, .ref q1])).length) Slot.unset).toArray = ls at hl ⊢
  have hl : lv_has ls 3 [(0, .ref q0), (1, .ref q1)] := hl
  refine lv_iconst (v := nI 0) hx hb dX2_gf2_matrix_square_0 (by rfl) ?_
  refine lv_istore_n (lv' := [(2, .int (nI 0)), (0, .ref q0), (1, .ref q1)]) hx hb dX2_gf2_matrix_square_1 rfl hl (by decide) rfl (fun ls hl => ?_)
  refine z_loop (σ := (Nat → Int64)) (32) (fun i => 0) (fun i => 0) (fun i u H locs ls => va_P D zCl [(q0, .inl (dL, 32, .inr (.inl u))), (q1, .inl (dL, 32, .inr (.inl (fun j => lN (F (2 ^ j))))))] H ∧ va_D A [(q0, .inl (dL, 32, .inr (.inl u))), (q1, .inl (dL, 32, .inr (.inl (fun j => lN (F (2 ^ j))))))] ∧ va_S A s.heap H locs ∧ lv_has ls 3 [(0, .ref q0), (1, .ref q1), (2, .int (nI i))] ∧ ∀ j, j < i → u j = lN (F (F (2 ^ j)))) ?_ (0) g (by omega) ⟨hP.sub (ws' := [(q0, .inl (dL, 32, .inr (.inl g))), (q1, .inl (dL, 32, .inr (.inl (fun j => lN (F (2 ^ j))))))]) [0, 1] rfl, hD.sub (ws' := [(q0, .inl (dL, 32, .inr (.inl g))), (q1, .inl (dL, 32, .inr (.inl (fun j => lN (F (2 ^ j))))))]) [0, 1] (by decide) rfl, hS, lv_sub (l' := [(0, .ref q0), (1, .ref q1), (2, .int (nI 0))]) hl [1, 2, 0] rfl, fun j hj => absurd hj (Nat.not_lt_zero j)⟩ (by omega) (by omega)
  intro i u H locs ls hi ih hI
  obtain ⟨g1, rfl⟩ : ∃ z, z = u := ⟨_, rfl⟩
  obtain ⟨hP, hD, hS, hl, hJ⟩ := hI
  have hP : va_P D zCl [(q0, .inl (dL, 32, .inr (.inl g1))), (q1, .inl (dL, 32, .inr (.inl (fun j => lN (F (2 ^ j))))))] H := hP
  have hD : va_D A [(q0, .inl (dL, 32, .inr (.inl g1))), (q1, .inl (dL, 32, .inr (.inl (fun j => lN (F (2 ^ j))))))] := hD
  have hl : lv_has ls 3 [(0, .ref q0), (1, .ref q1), (2, .int (nI i))] := hl
  have hJ : ∀ j, j < i → g1 j = lN (F (F (2 ^ j))) := hJ
  refine W.widen (k := 0) (n := 0) (Nat.le_refl _) (Nat.le_refl _) ?_
  refine lv_iload_n hx hb dX2_gf2_matrix_square_2 rfl (lv_at hl 2 rfl) ?_
  refine lv_bipush (v := 32) hx hb dX2_gf2_matrix_square_3 (by decide +kernel) ?_
  refine lv_icmp_ge (tgt := 24) hx hb dX2_gf2_matrix_square_5 (by decide) (fun c0 => ?_) (fun c0 => ?_)
  · skip
    have hi32 : 32 ≤ i := Nat.not_lt.mp (fun h => nI_ge h (by decide) c0)
    have hP := z_setPl hP 0 (fun j => lN (F (F (2 ^ j)))) rfl (fun j hj => hJ j (by omega))
    have hD := z_setD hD 0 (.inl (dL, 32, .inr (.inl (fun j => lN (F (F (2 ^ j))))))) rfl
    have hP : va_P D zCl [(q0, .inl (dL, 32, .inr (.inl (fun j => lN (F (F (2 ^ j))))))), (q1, .inl (dL, 32, .inr (.inl (fun j => lN (F (2 ^ j))))))] H := hP
    have hD : va_D A [(q0, .inl (dL, 32, .inr (.inl (fun j => lN (F (F (2 ^ j))))))), (q1, .inl (dL, 32, .inr (.inl (fun j => lN (F (2 ^ j))))))] := hD
    have hP9 := hP.sub (ws' := [(q0, .inl (dL, 32, .inr (.inl (fun j => lN (F (F (2 ^ j))))))), (q1, .inl (dL, 32, .inr (.inl (fun j => lN (F (2 ^ j))))))]) [0, 1] rfl
    have hD9 := hD.sub (ws' := [(q0, .inl (dL, 32, .inr (.inl (fun j => lN (F (F (2 ^ j))))))), (q1, .inl (dL, 32, .inr (.inl (fun j => lN (F (2 ^ j))))))]) [0, 1] (by decide) rfl
    have hK9 := hK.sub (tys' := []) [] rfl
    exact W.vret hx hb hr (fun t ht hW => ⟨⟨(), rfl, trivial, by rw [ht]; exact hP9, va_K.moved hW.alike hK9, hD9⟩, hS.F ht⟩) hS.2.2 dX2_gf2_matrix_square_24
  · skip
    have hi32 : i < 32 := Nat.lt_of_not_le (fun h => c0 (nI_le h (by omega)))
    have hb2 : 2 ^ i < 4294967296 := Nat.pow_lt_pow_right (n := 32) (by decide) hi32
    refine lv_aload_n hx hb dX2_gf2_matrix_square_8 rfl (lv_at hl 0 rfl) ?_
    refine lv_iload_n hx hb dX2_gf2_matrix_square_9 rfl (lv_at hl 2 rfl) ?_
    refine lv_aload_n hx hb dX2_gf2_matrix_square_10 rfl (lv_at hl 1 rfl) ?_
    refine lv_aload_n hx hb dX2_gf2_matrix_square_11 rfl (lv_at hl 1 rfl) ?_
    refine lv_iload_n hx hb dX2_gf2_matrix_square_12 rfl (lv_at hl 2 rfl) ?_
    refine va_lald hx hb hK hP 1 0 rfl rfl (vp_in_nI hi32 (by decide)) dX2_gf2_matrix_square_13 ?_
    refine lv_topl (fun x_1 e_1 => ?_)
    have e_1 : x_1 = lN (F (2 ^ i)) := by refine e_1.trans ?_; rw [nI_clamp (by omega)]
    subst e_1
    refine z_gol (wr := [(q0, .inl (dL, 32, .inr (.inl g1)))]) (va_runS (As := [.ref q1, .long (lN (F (2 ^ i)))]) (rest := [.int (nI i), .ref q0]) ⟨hx, hb, hml, hown, hts⟩ (mX2_times l D H.size q1 dL F (F (2 ^ i)) hF (hFb _ hb2)) (va_cwS 2 hts (lw_S q146 q147 q5 q148) rfl rfl rfl (by decide +kernel) ⟨(Nat.le_of_ble_eq_true rfl), (Nat.le_of_ble_eq_true rfl)⟩) (z_pre hK hP hD hS hA hX [1] [0] rfl (by decide) rfl (fun _ h9 => h9) (fun _ h9 => h9)) rfl rfl hl.1 rfl (lv_room (Nat.le_of_ble_eq_true rfl)) dX2_gf2_matrix_square_14 ⟨(Nat.le_of_ble_eq_true rfl), (Nat.le_of_ble_eq_true rfl)⟩) hK hP hD hS hA [1] [0] rfl rfl (by decide) (by decide) (fun r_3 u_2 H locs h_4 _ hP hD hS => ?_)
    have hP : va_P D zCl [(q0, .inl (dL, 32, .inr (.inl g1))), (q1, .inl (dL, 32, .inr (.inl (fun j => lN (F (2 ^ j))))))] H := hP
    have hD : va_D A [(q0, .inl (dL, 32, .inr (.inl g1))), (q1, .inl (dL, 32, .inr (.inl (fun j => lN (F (2 ^ j))))))] := hD
    have h_4 : r_3 = lN (F (F (2 ^ i))) := h_4
    subst h_4
    refine va_last hx hb hK hP hD hS 0 0 rfl rfl (vp_in_nI hi32 (by decide)) dX2_gf2_matrix_square_17 (fun H locs hP hD hS => ?_)
    rw [show vp_updL g1 ((nI i) : Int32).toNatClampNeg (lN (F (F (2 ^ i)))) = vp_updL g1 i (lN (F (F (2 ^ i)))) by rw [nI_clamp (by omega)]] at hP hD
    have hP : va_P D zCl [(q0, .inl (dL, 32, .inr (.inl (vp_updL g1 i (lN (F (F (2 ^ i)))))))), (q1, .inl (dL, 32, .inr (.inl (fun j => lN (F (2 ^ j))))))] H := hP
    have hD : va_D A [(q0, .inl (dL, 32, .inr (.inl (vp_updL g1 i (lN (F (F (2 ^ i)))))))), (q1, .inl (dL, 32, .inr (.inl (fun j => lN (F (2 ^ j))))))] := hD
    refine lv_iinc (v := nI (i + 1)) (lv' := [(2, .int (nI (i + 1))), (0, .ref q0), (1, .ref q1)]) hx hb dX2_gf2_matrix_square_18 hl (k := 2) rfl (by exact nI_1 i) (by decide) rfl (fun ls hl => ?_)
    refine lv_goto (tgt := 2) hx hb dX2_gf2_matrix_square_21 (by decide) ?_
    refine W.widen (k := 0) (n := 0) (Nat.le_of_ble_eq_true rfl) (Nat.le_of_ble_eq_true rfl) ?_
    exact ih (by omega) (vp_updL g1 i (lN (F (F (2 ^ i))))) H locs ls ⟨hP.sub (ws' := [(q0, .inl (dL, 32, .inr (.inl (vp_updL g1 i (lN (F (F (2 ^ i)))))))), (q1, .inl (dL, 32, .inr (.inl (fun j => lN (F (2 ^ j))))))]) [0, 1] rfl, hD.sub (ws' := [(q0, .inl (dL, 32, .inr (.inl (vp_updL g1 i (lN (F (F (2 ^ i)))))))), (q1, .inl (dL, 32, .inr (.inl (fun j => lN (F (2 ^ j))))))]) [0, 1] (by decide) rfl, hS, lv_sub (l' := [(0, .ref q0), (1, .ref q1), (2, .int (nI (i + 1)))]) hl [1, 2, 0] rfl, lt_s (p := fun j => vp_updL g1 i (lN (F (F (2 ^ i)))) j = lN (F (F (2 ^ j)))) (fun j hj => by rw [pk_uLn (Nat.ne_of_lt hj)]; exact hJ j hj) pk_uLs⟩
set_option maxHeartbeats 4000000 in
set_option maxRecDepth 100000 in
/-- update: the CRC of n bytes from f on, by the table -/
theorem mX2_update (l : Launch) (D : va_G) (sz : Nat) (h0 : Nat) (q : Nat) (dB : ClassId) (t : Nat) (a : Nat → Int32) (f : Nat) (n : Nat) (hfn : f + n ≤ 4096) : Met l yX2_update (ws_ yX2_update cX2_update 5 none) ({ frames := 0, cells := 0, slots := 0, locals := 0 }) (va_Pc [.ref h0, .ref q, .int (nI f), .int (nI n)] (zP D sz [(h0, .inr (1, [.int 0])), (q, .inl (dB, 4096, .inl a))] [(dB, .byte)] (some t) none)) (va_Qv (fun (_ : Unit) => True) (zB D (va_A [(h0, .inr (1, [.int 0])), (q, .inl (dB, 4096, .inl a))] sz) (fun (_ : Unit) => [(h0, .inr (1, [.int (nI (sj_crc (fun j => sj_by (a j)) f n))])), (q, .inl (dB, 4096, .inl a))]) (fun (_ : Unit) => [])) (va_A [(h0, .inr (1, [.int 0])), (q, .inl (dB, 4096, .inl a))] sz)) 0 0 (va_A [(h0, .inr (1, [.int 0])), (q, .inl (dB, 4096, .inl a))] sz) := by
  refine Met.ofW (cc := cX2_update) (maxL := 5) (ret := none) (by decide) rfl ?_
  intro p e s m args below meth c s₁ B hml hv
  obtain ⟨rfl, hsz, hP, hK, hD0, hX⟩ := hv
  have hx := B.exec
  have hb := B.bytes
  have hr := B.returns
  have hts := atoms_spec (ws := ws_ yX2_update cX2_update 5 none) B.pre
  have hts : ∀ w ∈ lw_all, w.before _ s = true := fun w h => hts w (List.mem_cons_of_mem _ h)
  have hown : s.vm.findClass RX2 = some m.cls := findClass_of_methodNamed B.named
  have hlocks := B.notSynchronized
  subst hsz
  have hD := hD0.self (sz := s.heap.size)
  generalize hAe : va_A [(h0, .inr (1, [.int 0])), (q, .inl (dB, 4096, .inl a))] s.heap.size = A at hD hX ⊢
  have hA : ∀ q : Nat, s.heap.size ≤ q → A q := fun q h => by rw [← hAe]; exact Or.inr h
  have hS : va_S A s.heap s.heap [] := va_S.rf
  have hP : va_P D zCl [(h0, .inr (1, [.int 0])), (q, .inl (dB, 4096, .inl a))] s.heap := hP
  have hZt : va_Z "CRC32" "crc_table" "[I" (.ref t) A s s.heap := (hX.1 t rfl).1
  have hTt : va_T .int t 256 (fun j => .int (nI (sj_c8 j))) A s s.heap := (hX.1 t rfl).2
  have hl := lv_entry ([.ref h0, .ref q, .int (nI f), .int (nI n)]) (n := 5) (Nat.le_of_ble_eq_true rfl)
  rw [lg_entry_eq]
  generalize (lg_sl ([.ref h0, .ref q, .int (nI f), .int (nI n)]) ++ List.replicate (5 - (lg_sl ([.ref h0, .ref q, .int (nI f), .int (nI n)])).length) Slot.unset).toArray = ls at hl ⊢
  have hl : lv_has ls 5 [(0, .ref h0), (1, .ref q), (2, .int (nI f)), (3, .int (nI n))] := hl
  have hg : ∀ j, (fun j => sj_by (a j)) j < 256 := fun j => sj_by_lt _
  generalize hge : (fun j => sj_by (a j)) = g at hg ⊢
  have hgj : ∀ j, sj_by (a j) = g j := fun j => by rw [← hge]
  refine lv_aload_n hx hb dX2_update_0 rfl (lv_at hl 0 rfl) ?_
  refine va_get (D := D) (ci := 1) (v := .int 0) (C := RX2) (T := TX2) (N := 1) hx hb hts in_X2 hown hK hP 0 rfl rfl 0 (by decide) (hts _ q51) (fun _ h9 => h9) rfl dX2_update_1 ?_
  refine lv_iconst (v := (-1)) hx hb dX2_update_4 (by decide) ?_
  refine lv_ixor hx hb dX2_update_5 ?_
  refine lv_topi (fun x_1 e_1 => ?_)
  have e_1 : x_1 = nI (sj_cf g f 0 4294967295) := by refine e_1.trans ?_; show (0 : Int32) ^^^ (-1) = nI 4294967295; decide +kernel
  subst e_1
  refine lv_istore (lv' := [(4, .int (nI (sj_cf g f 0 4294967295))), (0, .ref h0), (1, .ref q), (2, .int (nI f)), (3, .int (nI n))]) hx hb dX2_update_6 hl (by decide) rfl (fun ls hl => ?_)
  have hl0 : lv_has ls 5 [(4, .int (nI (sj_cf g f 0 4294967295))), (0, .ref h0), (1, .ref q), (2, .int (nI (f + 0))), (3, .int (nI (n - 0)))] := hl
  have hl := hl0
  refine z_loop (σ := Unit) (n) (fun i => 0) (fun i => 0) (fun i _ H locs ls => va_P D zCl [(h0, .inr (1, [.int 0])), (q, .inl (dB, 4096, .inl a))] H ∧ va_D A [(h0, .inr (1, [.int 0])), (q, .inl (dB, 4096, .inl a))] ∧ va_S A s.heap H locs ∧ lv_has ls 5 [(0, .ref h0), (1, .ref q), (2, .int (nI (f + i))), (3, .int (nI (n - i))), (4, .int (nI (sj_cf g f i 4294967295)))] ∧ True) ?_ (0) () (by omega) ⟨hP.sub (ws' := [(h0, .inr (1, [.int 0])), (q, .inl (dB, 4096, .inl a))]) [0, 1] rfl, hD.sub (ws' := [(h0, .inr (1, [.int 0])), (q, .inl (dB, 4096, .inl a))]) [0, 1] (by decide) rfl, hS, lv_sub (l' := [(0, .ref h0), (1, .ref q), (2, .int (nI (f + 0))), (3, .int (nI (n - 0))), (4, .int (nI (sj_cf g f 0 4294967295)))]) hl [1, 2, 3, 4, 0] rfl, trivial⟩ (by omega) (by omega)
  intro i u H locs ls hi ih hI
  obtain ⟨hP, hD, hS, hl, hJ⟩ := hI
  have hP : va_P D zCl [(h0, .inr (1, [.int 0])), (q, .inl (dB, 4096, .inl a))] H := hP
  have hD : va_D A [(h0, .inr (1, [.int 0])), (q, .inl (dB, 4096, .inl a))] := hD
  have hl : lv_has ls 5 [(0, .ref h0), (1, .ref q), (2, .int (nI (f + i))), (3, .int (nI (n - i))), (4, .int (nI (sj_cf g f i 4294967295)))] := hl
  have hJ : True := hJ
  refine W.widen (k := 0) (n := 0) (Nat.le_refl _) (Nat.le_refl _) ?_
  have hcb : sj_cf g f i 4294967295 < 4294967296 := sj_cf_bd hg f i _ (by decide)
  obtain ⟨xn, exn⟩ : ∃ y : Int32, y = (nI (n - i)) + (-1) := ⟨_, rfl⟩
  refine lv_iinc (v := xn) (lv' := [(3, .int xn), (0, .ref h0), (1, .ref q), (2, .int (nI (f + i))), (4, .int (nI (sj_cf g f i 4294967295)))]) hx hb dX2_update_8 hl (k := 3) rfl (by rw [exn]; rfl) (by decide) rfl (fun ls hl => ?_)
  refine lv_iload_n hx hb dX2_update_11 rfl (lv_at hl 0 rfl) ?_
  refine lv_if_lt (tgt := 43) hx hb dX2_update_12 (by decide) (fun c0 => ?_) (fun c0 => ?_)
  · skip
    have hin9 : i = n := by
      rcases Nat.lt_or_ge i n with h | h
      · have e9 : xn = nI (n - i - 1) := by rw [exn, show n - i = (n - i - 1) + 1 by omega]; exact pk_m1 _
        rw [e9] at c0; exact absurd c0 (nI_pos (by omega))
      · omega
    refine lv_aload_n hx hb dX2_update_43 rfl (lv_at hl 1 rfl) ?_
    refine lv_iload hx hb dX2_update_44 (lv_at hl 4 rfl) ?_
    refine lv_iconst (v := (-1)) hx hb dX2_update_46 (by decide) ?_
    refine lv_ixor hx hb dX2_update_47 ?_
    refine lv_topi (fun x_2 e_2 => ?_)
    have e_2 : x_2 = nI (sj_crc g f n) := by refine e_2.trans ?_; rw [← hin9]; exact zj_not _
    subst e_2
    refine va_put (D := D) (ci := 1) (v := .int (nI (sj_crc g f n))) (ty := .int) (C := RX2) (T := TX2) (N := 1) hx hb hts in_X2 tyX2 tyX2_ok nmX2 hown hK hP hD hS 0 rfl rfl 0 (by decide) (hts _ q51) (fun _ h9 => h9) rfl (by decide +kernel) rfl rfl (Nat.le_of_ble_eq_true rfl) dX2_update_48 (fun H locs hP hD hS => ?_)
    have hP : va_P D zCl [(h0, .inr (1, [.int (nI (sj_crc g f n))])), (q, .inl (dB, 4096, .inl a))] H := hP
    have hD : va_D A [(h0, .inr (1, [.int (nI (sj_crc g f n))])), (q, .inl (dB, 4096, .inl a))] := hD
    have hP9 := hP.sub (ws' := [(h0, .inr (1, [.int (nI (sj_crc g f n))])), (q, .inl (dB, 4096, .inl a))]) [0, 1] rfl
    have hD9 := hD.sub (ws' := [(h0, .inr (1, [.int (nI (sj_crc g f n))])), (q, .inl (dB, 4096, .inl a))]) [0, 1] (by decide) rfl
    have hK9 := hK.sub (tys' := []) [] rfl
    exact W.vret hx hb hr (fun t ht hW => ⟨⟨(), rfl, trivial, by rw [ht]; exact hP9, va_K.moved hW.alike hK9, hD9⟩, hS.F ht⟩) hS.2.2 dX2_update_51
  · skip
    have hin9 : i < n := by
      rcases Nat.lt_or_ge i n with h | h
      · exact h
      · exfalso; apply c0; rw [exn, show n - i = 0 by omega]; decide +kernel
    have e9 : xn = nI (n - (i + 1)) := by rw [exn, show n - i = (n - (i + 1)) + 1 by omega]; exact pk_m1 _
    rw [e9] at hl
    refine va_gets (v := .ref t) hx hb hZt hS hown (hts _ q59) (fun _ h9 => h9) dX2_update_15 ?_
    refine lv_iload hx hb dX2_update_18 (lv_at hl 4 rfl) ?_
    refine lv_aload_n hx hb dX2_update_20 rfl (lv_at hl 2 rfl) ?_
    refine lv_iload_n hx hb dX2_update_21 rfl (lv_at hl 3 rfl) ?_
    refine lv_iinc (v := nI (f + (i + 1))) (lv' := [(2, .int (nI (f + (i + 1)))), (3, .int (nI (n - (i + 1)))), (0, .ref h0), (1, .ref q), (4, .int (nI (sj_cf g f i 4294967295)))]) hx hb dX2_update_22 hl (k := 3) rfl (by exact nI_1 (f + i)) (by decide) rfl (fun ls hl => ?_)
    refine va_bald hx hb hK hP 1 0 rfl rfl (vp_in_nI (n := f + i) (by omega) (by decide)) dX2_update_25 ?_
    refine lv_topi (fun x_3 e_3 => ?_)
    have e_3 : x_3 = a (f + i) := by refine e_3.trans ?_; rw [nI_clamp (by omega)]
    subst e_3
    refine lv_ixor hx hb dX2_update_26 ?_
    refine lv_topi (fun xb exb => ?_)
    refine lv_sipush (v := 255) hx hb dX2_update_27 (by decide +kernel) ?_
    refine lv_iand hx hb dX2_update_30 ?_
    refine lv_topi (fun x_4 e_4 => ?_)
    have e_4 : x_4 = nI ((sj_cf g f i 4294967295 % 256) ^^^ g (f + i)) := by refine e_4.trans ?_; rw [exb, ← hgj]; exact zj_idx _ _
    subst e_4
    refine va_ti (v := .int (nI (sj_c8 ((nI ((sj_cf g f i 4294967295 % 256) ^^^ g (f + i))) : Int32).toNatClampNeg))) hx hb hTt hS (vp_in_nI (Nat.xor_lt_two_pow (n := 8) (Nat.mod_lt _ (by decide)) (hg _)) (by decide)) rfl dX2_update_31 ?_
    refine lv_topi (fun x_5 e_5 => ?_)
    have e_5 : x_5 = nI (sj_c8 ((sj_cf g f i 4294967295 % 256) ^^^ g (f + i))) := by refine e_5.trans ?_; rw [nI_clamp (Nat.lt_trans (Nat.xor_lt_two_pow (n := 8) (Nat.mod_lt _ (by decide)) (hg _)) (by decide))]
    subst e_5
    refine lv_iload hx hb dX2_update_32 (lv_at hl 4 rfl) ?_
    refine lv_bipush (v := 8) hx hb dX2_update_34 (by decide +kernel) ?_
    refine lv_iushr hx hb dX2_update_36 rfl ?_
    refine lv_topi (fun x_6 e_6 => ?_)
    have e_6 : x_6 = nI (sj_cf g f i 4294967295 / 256) := by refine e_6.trans ?_; exact zj_shr8 hcb
    subst e_6
    refine lv_ixor hx hb dX2_update_37 ?_
    refine lv_topi (fun x_7 e_7 => ?_)
    have e_7 : x_7 = nI (sj_cf g f (i + 1) 4294967295) := by refine e_7.trans ?_; rw [nx_xor, sj_tab]; rfl
    subst e_7
    refine lv_istore (lv' := [(4, .int (nI (sj_cf g f (i + 1) 4294967295))), (2, .int (nI (f + (i + 1)))), (3, .int (nI (n - (i + 1)))), (0, .ref h0), (1, .ref q)]) hx hb dX2_update_38 hl (by decide) rfl (fun ls hl => ?_)
    refine lv_goto (tgt := 8) hx hb dX2_update_40 (by decide) ?_
    refine W.widen (k := 0) (n := 0) (Nat.le_of_ble_eq_true rfl) (Nat.le_of_ble_eq_true rfl) ?_
    exact ih (by omega) () H locs ls ⟨hP.sub (ws' := [(h0, .inr (1, [.int 0])), (q, .inl (dB, 4096, .inl a))]) [0, 1] rfl, hD.sub (ws' := [(h0, .inr (1, [.int 0])), (q, .inl (dB, 4096, .inl a))]) [0, 1] (by decide) rfl, hS, lv_sub (l' := [(0, .ref h0), (1, .ref q), (2, .int (nI (f + (i + 1)))), (3, .int (nI (n - (i + 1)))), (4, .int (nI (sj_cf g f (i + 1) 4294967295)))]) hl [3, 4, 1, 2, 0] rfl, trivial⟩
set_option maxHeartbeats 4000000 in
set_option maxRecDepth 100000 in
/-- combine: n bytes of zeros behind x1, and x2 -/
theorem mX2_combine (l : Launch) (D : va_G) (sz : Nat) (x1 : Nat) (x2 : Nat) (n : Nat) (hx1 : x1 < 4294967296) (hn : n ≤ 4096) : Met l yX2_combine (ws_ yX2_combine cX2_combine 11 (some .long)) ({ frames := 2, cells := 2, slots := 64, locals := 47 }) (va_Pc [.long (lN x1), .long (lN x2), .long (lN n)] (zP D sz [] [] none none)) (va_Ql (fun (r : Int64) (_ : Unit) => r = lN (if n = 0 then x1 else sj_pw sj_c8 n x1 ^^^ x2)) (zB D (va_A [] sz) (fun (_ : Unit) => []) (fun (_ : Unit) => [])) (va_A [] sz)) 2 64 (va_A [] sz) := by
  refine Met.ofW (cc := cX2_combine) (maxL := 11) (ret := (some .long)) (by decide) rfl ?_
  intro p e s m args below meth c s₁ B hml hv
  obtain ⟨rfl, hsz, hP, hK, hD0, hX⟩ := hv
  have hx := B.exec
  have hb := B.bytes
  have hr := B.returns
  have hts := atoms_spec (ws := ws_ yX2_combine cX2_combine 11 (some .long)) B.pre
  have hts : ∀ w ∈ lw_all, w.before _ s = true := fun w h => hts w (List.mem_cons_of_mem _ h)
  have hown : s.vm.findClass RX2 = some m.cls := findClass_of_methodNamed B.named
  have hlocks := B.notSynchronized
  subst hsz
  have hD := hD0.self (sz := s.heap.size)
  generalize hAe : va_A [] s.heap.size = A at hD hX ⊢
  have hA : ∀ q : Nat, s.heap.size ≤ q → A q := fun q h => by rw [← hAe]; exact Or.inr h
  have hS : va_S A s.heap s.heap [] := va_S.rf
  have hP : va_P D zCl [] s.heap := hP
  have hl := lv_entry ([.long (lN x1), .long (lN x2), .long (lN n)]) (n := 11) (Nat.le_of_ble_eq_true rfl)
  rw [lg_entry_eq]
  generalize (lg_sl ([.long (lN x1), .long (lN x2), .long (lN n)]) ++ List.replicate (11 - (lg_sl ([.long (lN x1), .long (lN x2), .long (lN n)])).length) Slot.unset).toArray = ls at hl ⊢
  have hl : lv_has ls 11 [(0, .long (lN x1)), (2, .long (lN x2)), (4, .long (lN n))] := hl
  refine lv_bipush (v := 32) hx hb dX2_combine_0 (by decide +kernel) ?_
  refine va_newa (atype := .long) (ty := .long) (N' := 32) (a0 := (32, .inr (.inl (fun _ => 0)))) hx hb (hts _ q149) rfl hK hP hD hS hA (fun _ => rfl) (by decide) (by decide +kernel) (Nat.le_of_ble_eq_true rfl) (Nat.le_of_ble_eq_true rfl) (Nat.le_of_ble_eq_true rfl) dX2_combine_2 (fun q8 dL H hK hP hD hS => ?_)
  have hK : va_K D zCl [(dL, .long)] s := hK
  have hP : va_P D zCl [(q8, .inl (dL, 32, .inr (.inl (fun _ => 0))))] H := hP
  have hD : va_D A [(q8, .inl (dL, 32, .inr (.inl (fun _ => 0))))] := hD
  refine lv_astore (lv' := [(8, .ref q8), (0, .long (lN x1)), (2, .long (lN x2)), (4, .long (lN n))]) hx hb dX2_combine_4 hl (by decide) rfl (fun ls hl => ?_)
  refine lv_bipush (v := 32) hx hb dX2_combine_6 (by decide +kernel) ?_
  refine va_newa (atype := .long) (ty := .long) (N' := 32) (a0 := (32, .inr (.inl (fun _ => 0)))) hx hb (hts _ q149) rfl hK hP hD hS hA (fun _ => rfl) (by decide) (by decide +kernel) (Nat.le_of_ble_eq_true rfl) (Nat.le_of_ble_eq_true rfl) (Nat.le_of_ble_eq_true rfl) dX2_combine_8 (fun q9 dM H hK hP hD hS => ?_)
  have hK : va_K D zCl [(dL, .long), (dM, .long)] s := hK
  have hP : va_P D zCl [(q8, .inl (dL, 32, .inr (.inl (fun _ => 0)))), (q9, .inl (dM, 32, .inr (.inl (fun _ => 0))))] H := hP
  have hD : va_D A [(q8, .inl (dL, 32, .inr (.inl (fun _ => 0)))), (q9, .inl (dM, 32, .inr (.inl (fun _ => 0))))] := hD
  refine lv_astore (lv' := [(9, .ref q9), (8, .ref q8), (0, .long (lN x1)), (2, .long (lN x2)), (4, .long (lN n))]) hx hb dX2_combine_10 hl (by decide) rfl (fun ls hl => ?_)
  refine lv_lload hx hb dX2_combine_12 (lv_at hl 4 rfl) ?_
  refine lv_lconst (v := 0) hx hb dX2_combine_14 (by rfl) ?_
  refine W.lcmp hx hb dX2_combine_15 ?_
  refine lv_if_gt (tgt := 21) hx hb dX2_combine_16 (by decide) (fun c0 => ?_) (fun c0 => ?_)
  · skip
    have hpos : 0 < n := (zj_lg (a := n) (b := 0) (by omega) (by decide)).mp c0
    have hdd : dM = dL := Option.some.inj ((hK.2 1 _ rfl).2.symm.trans (hK.2 0 _ rfl).2)
    rw [hdd] at hP hD hK
    have hK : va_K D zCl [(dL, .long), (dL, .long)] s := hK
    have hP : va_P D zCl [(q8, .inl (dL, 32, .inr (.inl (fun _ => 0)))), (q9, .inl (dL, 32, .inr (.inl (fun _ => 0))))] H := hP
    have hD : va_D A [(q8, .inl (dL, 32, .inr (.inl (fun _ => 0)))), (q9, .inl (dL, 32, .inr (.inl (fun _ => 0))))] := hD
    refine lv_aload hx hb dX2_combine_21 (lv_at hl 0 rfl) ?_
    refine lv_iconst (v := 0) hx hb dX2_combine_23 (by decide) ?_
    refine lv_ldc2 (v := 3988292384) hx hb hown (hts _ q142) dX2_combine_24 ?_
    refine va_last hx hb hK hP hD hS 1 0 rfl rfl (pk_in 0 32 (by decide)) dX2_combine_27 (fun H locs hP hD hS => ?_)
    rw [show vp_updL (fun _ => 0) (0 : Int32).toNatClampNeg 3988292384 = vp_updL (fun _ => 0) 0 (lN 3988292384) by rfl] at hP hD
    have hP : va_P D zCl [(q8, .inl (dL, 32, .inr (.inl (fun _ => 0)))), (q9, .inl (dL, 32, .inr (.inl (vp_updL (fun _ => 0) 0 (lN 3988292384)))))] H := hP
    have hD : va_D A [(q8, .inl (dL, 32, .inr (.inl (fun _ => 0)))), (q9, .inl (dL, 32, .inr (.inl (vp_updL (fun _ => 0) 0 (lN 3988292384)))))] := hD
    refine lv_lconst (v := lN (2 ^ 0)) hx hb dX2_combine_28 (by rfl) ?_
    refine lv_lstore (lv' := [(6, .long (lN (2 ^ 0))), (9, .ref q9), (8, .ref q8), (0, .long (lN x1)), (2, .long (lN x2)), (4, .long (lN n))]) hx hb dX2_combine_29 hl (by decide) rfl (fun ls hl => ?_)
    refine lv_iconst (v := nI (0 + 1)) hx hb dX2_combine_31 (by decide +kernel) ?_
    refine lv_istore (lv' := [(10, .int (nI (0 + 1))), (6, .long (lN (2 ^ 0))), (9, .ref q9), (8, .ref q8), (0, .long (lN x1)), (2, .long (lN x2)), (4, .long (lN n))]) hx hb dX2_combine_32 hl (by decide) rfl (fun ls hl => ?_)
    refine z_loop (σ := (Nat → Int64)) (31) (fun i => 2) (fun i => 64) (fun i u H locs ls => va_P D zCl [(q8, .inl (dL, 32, .inr (.inl (fun _ => 0)))), (q9, .inl (dL, 32, .inr (.inl u)))] H ∧ va_D A [(q8, .inl (dL, 32, .inr (.inl (fun _ => 0)))), (q9, .inl (dL, 32, .inr (.inl u)))] ∧ va_S A s.heap H locs ∧ lv_has ls 11 [(0, .long (lN x1)), (2, .long (lN x2)), (4, .long (lN n)), (6, .long (lN (2 ^ i))), (8, .ref q8), (9, .ref q9), (10, .int (nI (i + 1)))] ∧ ∀ j, j < i + 1 → u j = lN (sj_c1 (2 ^ j))) ?_ (0) (vp_updL (fun _ => 0) 0 (lN 3988292384)) (by omega) ⟨hP.sub (ws' := [(q8, .inl (dL, 32, .inr (.inl (fun _ => 0)))), (q9, .inl (dL, 32, .inr (.inl (vp_updL (fun _ => 0) 0 (lN 3988292384)))))]) [0, 1] rfl, hD.sub (ws' := [(q8, .inl (dL, 32, .inr (.inl (fun _ => 0)))), (q9, .inl (dL, 32, .inr (.inl (vp_updL (fun _ => 0) 0 (lN 3988292384)))))]) [0, 1] (by decide) rfl, hS, lv_sub (l' := [(0, .long (lN x1)), (2, .long (lN x2)), (4, .long (lN n)), (6, .long (lN (2 ^ 0))), (8, .ref q8), (9, .ref q9), (10, .int (nI (0 + 1)))]) hl [4, 5, 6, 1, 3, 2, 0] rfl, fun j hj => by rw [show j = 0 by omega, Nat.pow_zero, sj_c1_one]; exact pk_uLs⟩ (Nat.le_refl 2) (Nat.le_refl 64)
    intro i u H locs ls hi ih hI
    obtain ⟨g1, rfl⟩ : ∃ z, z = u := ⟨_, rfl⟩
    obtain ⟨hP, hD, hS, hl, hJ⟩ := hI
    have hP : va_P D zCl [(q8, .inl (dL, 32, .inr (.inl (fun _ => 0)))), (q9, .inl (dL, 32, .inr (.inl g1)))] H := hP
    have hD : va_D A [(q8, .inl (dL, 32, .inr (.inl (fun _ => 0)))), (q9, .inl (dL, 32, .inr (.inl g1)))] := hD
    have hl : lv_has ls 11 [(0, .long (lN x1)), (2, .long (lN x2)), (4, .long (lN n)), (6, .long (lN (2 ^ i))), (8, .ref q8), (9, .ref q9), (10, .int (nI (i + 1)))] := hl
    have hJ : ∀ j, j < i + 1 → g1 j = lN (sj_c1 (2 ^ j)) := hJ
    refine W.widen (k := 2) (n := 64) (Nat.le_refl _) (Nat.le_refl _) ?_
    refine lv_iload hx hb dX2_combine_34 (lv_at hl 6 rfl) ?_
    refine lv_bipush (v := 32) hx hb dX2_combine_36 (by decide +kernel) ?_
    refine lv_icmp_ge (tgt := 60) hx hb dX2_combine_38 (by decide) (fun c1 => ?_) (fun c1 => ?_)
    · skip
      have hi31 : 31 ≤ i := Nat.not_lt.mp (fun h => nI_ge (a := i + 1) (b := 32) (by omega) (by decide) c1)
      have hP := z_setPl hP 1 (fun j => lN (sj_c1 (2 ^ j))) rfl (fun j hj => hJ j (by omega))
      have hD := z_setD hD 1 (.inl (dL, 32, .inr (.inl (fun j => lN (sj_c1 (2 ^ j)))))) rfl
      have hP : va_P D zCl [(q8, .inl (dL, 32, .inr (.inl (fun _ => 0)))), (q9, .inl (dL, 32, .inr (.inl (fun j => lN (sj_c1 (2 ^ j))))))] H := hP
      have hD : va_D A [(q8, .inl (dL, 32, .inr (.inl (fun _ => 0)))), (q9, .inl (dL, 32, .inr (.inl (fun j => lN (sj_c1 (2 ^ j))))))] := hD
      refine lv_aload hx hb dX2_combine_60 (lv_at hl 4 rfl) ?_
      refine lv_aload hx hb dX2_combine_62 (lv_at hl 5 rfl) ?_
      refine z_gov (wr := []) (va_runS (As := [.ref q8, .ref q9]) (rest := []) ⟨hx, hb, hml, hown, hts⟩ (mX2_square l D H.size q8 q9 dL (fun _ => 0) sj_c1 sj_c1_lin sj_c1_bd) (va_cwS 2 hts (lw_S q143 q144 q5 q145) rfl rfl rfl (by decide +kernel) ⟨(Nat.le_of_ble_eq_true rfl), (Nat.le_of_ble_eq_true rfl)⟩) (z_pre hK hP hD hS hA hX [0, 1] [0] rfl (by decide) rfl (fun _ h9 => h9) (fun _ h9 => h9)) rfl rfl hl.1 rfl (lv_room (Nat.le_of_ble_eq_true rfl)) dX2_combine_64 ⟨(Nat.le_of_ble_eq_true rfl), (Nat.le_of_ble_eq_true rfl)⟩) hK hP hD hS hA [0, 1] [] rfl rfl (by decide) (by decide) (fun u_2 H locs h_4 _ hP hD hS => ?_)
      have hP : va_P D zCl [(q8, .inl (dL, 32, .inr (.inl (fun j => lN (sj_c1 (sj_c1 (2 ^ j))))))), (q9, .inl (dL, 32, .inr (.inl (fun j => lN (sj_c1 (2 ^ j))))))] H := hP
      have hD : va_D A [(q8, .inl (dL, 32, .inr (.inl (fun j => lN (sj_c1 (sj_c1 (2 ^ j))))))), (q9, .inl (dL, 32, .inr (.inl (fun j => lN (sj_c1 (2 ^ j))))))] := hD
      refine lv_aload hx hb dX2_combine_67 (lv_at hl 5 rfl) ?_
      refine lv_aload hx hb dX2_combine_69 (lv_at hl 4 rfl) ?_
      refine z_gov (wr := []) (va_runS (As := [.ref q9, .ref q8]) (rest := []) ⟨hx, hb, hml, hown, hts⟩ (mX2_square l D H.size q9 q8 dL (fun j => lN (sj_c1 (2 ^ j))) (fun y => sj_c1 (sj_c1 y)) (sj_comp_lin sj_c1_lin sj_c1_lin) (sj_comp_bd sj_c1_bd sj_c1_bd)) (va_cwS 2 hts (lw_S q143 q144 q5 q145) rfl rfl rfl (by decide +kernel) ⟨(Nat.le_of_ble_eq_true rfl), (Nat.le_of_ble_eq_true rfl)⟩) (z_pre hK hP hD hS hA hX [1, 0] [0] rfl (by decide) rfl (fun _ h9 => h9) (fun _ h9 => h9)) rfl rfl hl.1 rfl (lv_room (Nat.le_of_ble_eq_true rfl)) dX2_combine_71 ⟨(Nat.le_of_ble_eq_true rfl), (Nat.le_of_ble_eq_true rfl)⟩) hK hP hD hS hA [1, 0] [] rfl rfl (by decide) (by decide) (fun u_5 H locs h_7 _ hP hD hS => ?_)
      have hP : va_P D zCl [(q9, .inl (dL, 32, .inr (.inl (fun j => lN ((fun y => sj_c1 (sj_c1 y)) ((fun y => sj_c1 (sj_c1 y)) (2 ^ j))))))), (q8, .inl (dL, 32, .inr (.inl (fun j => lN ((fun y => sj_c1 (sj_c1 y)) (2 ^ j))))))] H := hP
      have hD : va_D A [(q9, .inl (dL, 32, .inr (.inl (fun j => lN ((fun y => sj_c1 (sj_c1 y)) ((fun y => sj_c1 (sj_c1 y)) (2 ^ j))))))), (q8, .inl (dL, 32, .inr (.inl (fun j => lN ((fun y => sj_c1 (sj_c1 y)) (2 ^ j))))))] := hD
      have hP : va_P D zCl [(q9, .inl (dL, 32, .inr (.inl (fun j => lN ((fun y => sj_c1 (sj_c1 (sj_c1 (sj_c1 y)))) (2 ^ j)))))), (q8, .inl (dL, 32, .inr (.inl (fun j => lN (sj_c1 (sj_c1 (2 ^ j)))))))] H := hP
      have hD : va_D A [(q9, .inl (dL, 32, .inr (.inl (fun j => lN ((fun y => sj_c1 (sj_c1 (sj_c1 (sj_c1 y)))) (2 ^ j)))))), (q8, .inl (dL, 32, .inr (.inl (fun j => lN (sj_c1 (sj_c1 (2 ^ j)))))))] := hD
      clear hJ hi31 c1
      have hl2 := sj_comp_lin sj_c1_lin sj_c1_lin
      have hb2 := sj_comp_bd sj_c1_bd sj_c1_bd
      have hl4 : sj_lin (fun y => sj_c1 (sj_c1 (sj_c1 (sj_c1 y)))) := sj_comp_lin (F := fun x => sj_c1 (sj_c1 x)) (G := fun x => sj_c1 (sj_c1 x)) hl2 hl2
      have hb4 : sj_bd (fun y => sj_c1 (sj_c1 (sj_c1 (sj_c1 y)))) := sj_comp_bd (F := fun x => sj_c1 (sj_c1 x)) (G := fun x => sj_c1 (sj_c1 x)) hb2 hb2
      have hT0 : sj_pw (fun y => (fun y => sj_c1 (sj_c1 (sj_c1 (sj_c1 y)))) ((fun y => sj_c1 (sj_c1 (sj_c1 (sj_c1 y)))) y)) n x1 = sj_pw sj_c8 n x1 := congrArg (fun F : Nat → Nat => sj_pw F n x1) (funext fun y => rfl)
      generalize sj_pw sj_c8 n x1 = T at hT0 ⊢
      refine z_loop (σ := Nat × Nat × (Nat → Nat) × (Nat → Int64)) (7) (fun i => 2) (fun i => 64) (fun i u H locs ls => va_P D zCl [(q9, .inl (dL, 32, .inr (.inl (fun j => lN (u.2.2.1 (2 ^ j)))))), (q8, .inl (dL, 32, .inr (.inl u.2.2.2)))] H ∧ va_D A [(q9, .inl (dL, 32, .inr (.inl (fun j => lN (u.2.2.1 (2 ^ j)))))), (q8, .inl (dL, 32, .inr (.inl u.2.2.2)))] ∧ va_S A s.heap H locs ∧ lv_has ls 11 [(0, .long (lN u.2.1)), (2, .long (lN x2)), (4, .long (lN u.1)), (8, .ref q8), (9, .ref q9)] ∧ sj_lin u.2.2.1 ∧ sj_bd u.2.2.1 ∧ 0 < u.1 ∧ u.1 < 4 ^ (7 - i) ∧ u.2.1 < 4294967296 ∧ sj_pw (fun y => u.2.2.1 (u.2.2.1 y)) u.1 u.2.1 = T) ?_ (0) (n, x1, (fun y => sj_c1 (sj_c1 (sj_c1 (sj_c1 y)))), (fun j => lN (sj_c1 (sj_c1 (2 ^ j))))) (by omega) ⟨hP.sub (ws' := [(q9, .inl (dL, 32, .inr (.inl (fun j => lN ((fun y => sj_c1 (sj_c1 (sj_c1 (sj_c1 y)))) (2 ^ j)))))), (q8, .inl (dL, 32, .inr (.inl (fun j => lN (sj_c1 (sj_c1 (2 ^ j)))))))]) [0, 1] rfl, hD.sub (ws' := [(q9, .inl (dL, 32, .inr (.inl (fun j => lN ((fun y => sj_c1 (sj_c1 (sj_c1 (sj_c1 y)))) (2 ^ j)))))), (q8, .inl (dL, 32, .inr (.inl (fun j => lN (sj_c1 (sj_c1 (2 ^ j)))))))]) [0, 1] (by decide) rfl, hS, lv_sub (l' := [(0, .long (lN x1)), (2, .long (lN x2)), (4, .long (lN n)), (8, .ref q8), (9, .ref q9)]) hl [0, 1, 2, 4, 5] rfl, hl4, hb4, hpos, Nat.lt_of_le_of_lt hn (by decide), hx1, hT0⟩ (Nat.le_refl 2) (Nat.le_refl 64)
      intro i u H locs ls hi2 ih2 hI
      obtain ⟨Lr, xr, Fr, gr⟩ := u
      obtain ⟨hP, hD, hS, hl, hJ2⟩ := hI
      have hP : va_P D zCl [(q9, .inl (dL, 32, .inr (.inl (fun j => lN (Fr (2 ^ j)))))), (q8, .inl (dL, 32, .inr (.inl gr)))] H := hP
      have hD : va_D A [(q9, .inl (dL, 32, .inr (.inl (fun j => lN (Fr (2 ^ j)))))), (q8, .inl (dL, 32, .inr (.inl gr)))] := hD
      have hl : lv_has ls 11 [(0, .long (lN xr)), (2, .long (lN x2)), (4, .long (lN Lr)), (8, .ref q8), (9, .ref q9)] := hl
      have hJ2 : sj_lin Fr ∧ sj_bd Fr ∧ 0 < Lr ∧ Lr < 4 ^ (7 - i) ∧ xr < 4294967296 ∧ sj_pw (fun y => Fr (Fr y)) Lr xr = T := hJ2
      refine W.widen (k := 2) (n := 64) (Nat.le_refl _) (Nat.le_refl _) ?_
      obtain ⟨hlF, hbF, hL0, hL4, hxr, hT⟩ := hJ2
      have hi7 : i < 7 := by
        rcases Nat.lt_or_ge i 7 with h | h
        · exact h
        · rw [show 7 - i = 0 by omega, Nat.pow_zero] at hL4; omega
      have hp4 : 4 ^ (7 - i) = 4 ^ (7 - (i + 1)) * 4 := by rw [show 7 - i = (7 - (i + 1)) + 1 by omega, Nat.pow_succ]
      have hL7 : Lr < 4294967296 := Nat.lt_of_lt_of_le hL4 (Nat.le_trans (Nat.pow_le_pow_right (by decide) (show 7 - i ≤ 7 by omega)) (by decide))
      have hl2 := sj_comp_lin hlF hlF
      have hb2 := sj_comp_bd hbF hbF
      have hl4 := sj_comp_lin hl2 hl2
      have hb4 := sj_comp_bd hb2 hb2
      have hH1 := sj_half (F := fun y => Fr (Fr y)) Lr xr
      rw [hT] at hH1
      refine lv_aload hx hb dX2_combine_74 (lv_at hl 3 rfl) ?_
      refine lv_aload hx hb dX2_combine_76 (lv_at hl 4 rfl) ?_
      refine z_gov (wr := []) (va_runS (As := [.ref q8, .ref q9]) (rest := []) ⟨hx, hb, hml, hown, hts⟩ (mX2_square l D H.size q8 q9 dL gr Fr hlF hbF) (va_cwS 2 hts (lw_S q143 q144 q5 q145) rfl rfl rfl (by decide +kernel) ⟨(Nat.le_of_ble_eq_true rfl), (Nat.le_of_ble_eq_true rfl)⟩) (z_pre hK hP hD hS hA hX [1, 0] [0] rfl (by decide) rfl (fun _ h9 => h9) (fun _ h9 => h9)) rfl rfl hl.1 rfl (lv_room (Nat.le_of_ble_eq_true rfl)) dX2_combine_78 ⟨(Nat.le_of_ble_eq_true rfl), (Nat.le_of_ble_eq_true rfl)⟩) hK hP hD hS hA [1, 0] [] rfl rfl (by decide) (by decide) (fun u_8 H locs h_10 _ hP hD hS => ?_)
      have hP : va_P D zCl [(q8, .inl (dL, 32, .inr (.inl (fun j => lN (Fr (Fr (2 ^ j))))))), (q9, .inl (dL, 32, .inr (.inl (fun j => lN (Fr (2 ^ j))))))] H := hP
      have hD : va_D A [(q8, .inl (dL, 32, .inr (.inl (fun j => lN (Fr (Fr (2 ^ j))))))), (q9, .inl (dL, 32, .inr (.inl (fun j => lN (Fr (2 ^ j))))))] := hD
      refine lv_lload hx hb dX2_combine_81 (lv_at hl 2 rfl) ?_
      refine lv_lconst (v := 1) hx hb dX2_combine_83 (by rfl) ?_
      refine lv_land hx hb dX2_combine_84 ?_
      refine lv_topl (fun x_11 e_11 => ?_)
      have e_11 : x_11 = lN (Lr % 2) := by refine e_11.trans ?_; exact zj_l1 (by omega)
      subst e_11
      refine lv_lconst (v := 0) hx hb dX2_combine_85 (by rfl) ?_
      refine W.lcmp hx hb dX2_combine_86 ?_
      refine lv_if_eq (tgt := 97) hx hb dX2_combine_87 (by decide) (fun c2 => ?_) (fun c2 => ?_)
      · skip
        have cb : ¬ Lr % 2 = 1 := by have h9 := (zj_lc (a := Lr % 2) (b := 0) (by omega) (by decide)).mp c2; omega
        rw [if_neg cb] at hH1
        have hE := hH1
        have hXX := hxr
        refine lv_lload hx hb dX2_combine_97 (lv_at hl 2 rfl) ?_
        refine lv_iconst (v := 1) hx hb dX2_combine_99 (by decide) ?_
        refine lv_lshr hx hb dX2_combine_100 rfl ?_
        refine lv_topl (fun x_12 e_12 => ?_)
        have e_12 : x_12 = lN (Lr / 2) := by refine e_12.trans ?_; exact zj_lsr1 (by omega)
        subst e_12
        refine lv_lstore (lv' := [(4, .long (lN (Lr / 2))), (0, .long (lN xr)), (2, .long (lN x2)), (8, .ref q8), (9, .ref q9)]) hx hb dX2_combine_101 hl (by decide) rfl (fun ls hl => ?_)
        refine lv_lload hx hb dX2_combine_103 (lv_at hl 0 rfl) ?_
        refine lv_lconst (v := 0) hx hb dX2_combine_105 (by rfl) ?_
        refine W.lcmp hx hb dX2_combine_106 ?_
        refine lv_if_ne (tgt := 113) hx hb dX2_combine_107 (by decide) (fun d1 => ?_) (fun d1 => ?_)
        · skip
          have hnz : Lr / 2 ≠ 0 := fun h => d1 ((zj_lc (a := Lr / 2) (b := 0) (by omega) (by decide)).mpr h)
          have hH2 := sj_half (F := fun y => Fr (Fr (Fr (Fr y)))) (Lr / 2) xr
          rw [← hE] at hH2
          refine lv_aload hx hb dX2_combine_113 (lv_at hl 4 rfl) ?_
          refine lv_aload hx hb dX2_combine_115 (lv_at hl 3 rfl) ?_
          refine z_gov (wr := []) (va_runS (As := [.ref q9, .ref q8]) (rest := []) ⟨hx, hb, hml, hown, hts⟩ (mX2_square l D H.size q9 q8 dL (fun j => lN (Fr (2 ^ j))) (fun y => Fr (Fr y)) hl2 hb2) (va_cwS 2 hts (lw_S q143 q144 q5 q145) rfl rfl rfl (by decide +kernel) ⟨(Nat.le_of_ble_eq_true rfl), (Nat.le_of_ble_eq_true rfl)⟩) (z_pre hK hP hD hS hA hX [1, 0] [0] rfl (by decide) rfl (fun _ h9 => h9) (fun _ h9 => h9)) rfl rfl hl.1 rfl (lv_room (Nat.le_of_ble_eq_true rfl)) dX2_combine_117 ⟨(Nat.le_of_ble_eq_true rfl), (Nat.le_of_ble_eq_true rfl)⟩) hK hP hD hS hA [1, 0] [] rfl rfl (by decide) (by decide) (fun u_13 H locs h_15 _ hP hD hS => ?_)
          have hP : va_P D zCl [(q9, .inl (dL, 32, .inr (.inl (fun j => lN ((fun y => Fr (Fr y)) ((fun y => Fr (Fr y)) (2 ^ j))))))), (q8, .inl (dL, 32, .inr (.inl (fun j => lN ((fun y => Fr (Fr y)) (2 ^ j))))))] H := hP
          have hD : va_D A [(q9, .inl (dL, 32, .inr (.inl (fun j => lN ((fun y => Fr (Fr y)) ((fun y => Fr (Fr y)) (2 ^ j))))))), (q8, .inl (dL, 32, .inr (.inl (fun j => lN ((fun y => Fr (Fr y)) (2 ^ j))))))] := hD
          have hP : va_P D zCl [(q9, .inl (dL, 32, .inr (.inl (fun j => lN ((fun y => Fr (Fr (Fr (Fr y)))) (2 ^ j)))))), (q8, .inl (dL, 32, .inr (.inl (fun j => lN (Fr (Fr (2 ^ j)))))))] H := hP
          have hD : va_D A [(q9, .inl (dL, 32, .inr (.inl (fun j => lN ((fun y => Fr (Fr (Fr (Fr y)))) (2 ^ j)))))), (q8, .inl (dL, 32, .inr (.inl (fun j => lN (Fr (Fr (2 ^ j)))))))] := hD
          refine lv_lload hx hb dX2_combine_120 (lv_at hl 0 rfl) ?_
          refine lv_lconst (v := 1) hx hb dX2_combine_122 (by rfl) ?_
          refine lv_land hx hb dX2_combine_123 ?_
          refine lv_topl (fun x_16 e_16 => ?_)
          have e_16 : x_16 = lN (Lr / 2 % 2) := by refine e_16.trans ?_; exact zj_l1 (by omega)
          subst e_16
          refine lv_lconst (v := 0) hx hb dX2_combine_124 (by rfl) ?_
          refine W.lcmp hx hb dX2_combine_125 ?_
          refine lv_if_eq (tgt := 136) hx hb dX2_combine_126 (by decide) (fun c3 => ?_) (fun c3 => ?_)
          · skip
            have cb : ¬ Lr / 2 % 2 = 1 := by have h9 := (zj_lc (a := Lr / 2 % 2) (b := 0) (by omega) (by decide)).mp c3; omega
            rw [if_neg cb] at hH2
            have hH3 := hH2.symm
            refine lv_lload hx hb dX2_combine_136 (lv_at hl 0 rfl) ?_
            refine lv_iconst (v := 1) hx hb dX2_combine_138 (by decide) ?_
            refine lv_lshr hx hb dX2_combine_139 rfl ?_
            refine lv_topl (fun x_17 e_17 => ?_)
            have e_17 : x_17 = lN (Lr / 2 / 2) := by refine e_17.trans ?_; exact zj_lsr1 (by omega)
            subst e_17
            refine lv_lstore (lv' := [(4, .long (lN (Lr / 2 / 2))), (0, .long (lN xr)), (2, .long (lN x2)), (8, .ref q8), (9, .ref q9)]) hx hb dX2_combine_140 hl (by decide) rfl (fun ls hl => ?_)
            refine lv_lload hx hb dX2_combine_142 (lv_at hl 0 rfl) ?_
            refine lv_lconst (v := 0) hx hb dX2_combine_144 (by rfl) ?_
            refine W.lcmp hx hb dX2_combine_145 ?_
            refine lv_if_ne (tgt := 74) hx hb dX2_combine_146 (by decide) (fun d3 => ?_) (fun d3 => ?_)
            · skip
              have hnz2 : Lr / 2 / 2 ≠ 0 := fun h => d3 ((zj_lc (a := Lr / 2 / 2) (b := 0) (by omega) (by decide)).mpr h)
              refine W.widen (k := 2) (n := 64) (Nat.le_of_ble_eq_true rfl) (Nat.le_of_ble_eq_true rfl) ?_
              exact ih2 (hi7) (Lr / 2 / 2, xr, (fun y => Fr (Fr (Fr (Fr y)))), (fun j => lN (Fr (Fr (2 ^ j))))) H locs ls ⟨hP.sub (ws' := [(q9, .inl (dL, 32, .inr (.inl (fun j => lN ((fun y => Fr (Fr (Fr (Fr y)))) (2 ^ j)))))), (q8, .inl (dL, 32, .inr (.inl (fun j => lN (Fr (Fr (2 ^ j)))))))]) [0, 1] rfl, hD.sub (ws' := [(q9, .inl (dL, 32, .inr (.inl (fun j => lN ((fun y => Fr (Fr (Fr (Fr y)))) (2 ^ j)))))), (q8, .inl (dL, 32, .inr (.inl (fun j => lN (Fr (Fr (2 ^ j)))))))]) [0, 1] (by decide) rfl, hS, lv_sub (l' := [(0, .long (lN xr)), (2, .long (lN x2)), (4, .long (lN (Lr / 2 / 2))), (8, .ref q8), (9, .ref q9)]) hl [1, 2, 0, 3, 4] rfl, hl4, hb4, by omega, by omega, hXX, hH3⟩
            · skip
              have hz2 : Lr / 2 / 2 = 0 := by
                rcases Nat.eq_zero_or_pos (Lr / 2 / 2) with h | h
                · exact h
                · exact absurd d3 (fun h2 => absurd ((zj_lc (a := Lr / 2 / 2) (b := 0) (by omega) (by decide)).mp h2) (by omega))
              have hfin : xr = T := by rw [← hH3, hz2]; rfl
              rw [hfin] at hl
              refine lv_lload_n hx hb dX2_combine_149 rfl (lv_at hl 1 rfl) ?_
              refine lv_lload_n hx hb dX2_combine_150 rfl (lv_at hl 2 rfl) ?_
              refine lv_lxor hx hb dX2_combine_151 ?_
              refine lv_topl (fun x_18 e_18 => ?_)
              have e_18 : x_18 = lN (T ^^^ x2) := by refine e_18.trans ?_; exact lN_xor _ _
              subst e_18
              refine lv_lstore_n (lv' := [(0, .long (lN (T ^^^ x2))), (4, .long (lN (Lr / 2 / 2))), (2, .long (lN x2)), (8, .ref q8), (9, .ref q9)]) hx hb dX2_combine_152 rfl hl (by decide) rfl (fun ls hl => ?_)
              refine lv_lload_n hx hb dX2_combine_153 rfl (lv_at hl 0 rfl) ?_
              have hP9 := hP.sub (ws' := []) [] rfl
              have hD9 := hD.sub (ws' := []) [] (by decide) rfl
              have hK9 := hK.sub (tys' := []) [] rfl
              exact W.lret (v := (lN (T ^^^ x2))) hx hb hr (fun t ht hW => ⟨⟨(lN (T ^^^ x2)), (), rfl, by rw [if_neg (Nat.ne_of_gt hpos)], by rw [ht]; exact hP9, va_K.moved hW.alike hK9, hD9⟩, hS.F ht⟩) hS.2.2 dX2_combine_154
          · skip
            have cb : Lr / 2 % 2 = 1 := by have h9 : ¬ Lr / 2 % 2 = 0 := fun h => c3 ((zj_lc (a := Lr / 2 % 2) (b := 0) (by omega) (by decide)).mpr h); omega
            rw [if_pos cb] at hH2
            have hH3 := hH2.symm
            refine lv_aload hx hb dX2_combine_129 (lv_at hl 4 rfl) ?_
            refine lv_lload_n hx hb dX2_combine_131 rfl (lv_at hl 1 rfl) ?_
            refine z_gol (wr := [(q8, .inl (dL, 32, .inr (.inl (fun j => lN (Fr (Fr (2 ^ j)))))))]) (va_runS (As := [.ref q9, .long (lN xr)]) (rest := []) ⟨hx, hb, hml, hown, hts⟩ (mX2_times l D H.size q9 dL (fun y => Fr (Fr (Fr (Fr y)))) xr hl4 hXX) (va_cwS 2 hts (lw_S q146 q147 q5 q148) rfl rfl rfl (by decide +kernel) ⟨(Nat.le_of_ble_eq_true rfl), (Nat.le_of_ble_eq_true rfl)⟩) (z_pre hK hP hD hS hA hX [0] [0] rfl (by decide) rfl (fun _ h9 => h9) (fun _ h9 => h9)) rfl rfl hl.1 rfl (lv_room (Nat.le_of_ble_eq_true rfl)) dX2_combine_132 ⟨(Nat.le_of_ble_eq_true rfl), (Nat.le_of_ble_eq_true rfl)⟩) hK hP hD hS hA [0] [1] rfl rfl (by decide) (by decide) (fun r_20 u_19 H locs h_21 _ hP hD hS => ?_)
            have hP : va_P D zCl [(q8, .inl (dL, 32, .inr (.inl (fun j => lN (Fr (Fr (2 ^ j))))))), (q9, .inl (dL, 32, .inr (.inl (fun j => lN ((fun y => Fr (Fr (Fr (Fr y)))) (2 ^ j))))))] H := hP
            have hD : va_D A [(q8, .inl (dL, 32, .inr (.inl (fun j => lN (Fr (Fr (2 ^ j))))))), (q9, .inl (dL, 32, .inr (.inl (fun j => lN ((fun y => Fr (Fr (Fr (Fr y)))) (2 ^ j))))))] := hD
            have h_21 : r_20 = lN ((fun y => Fr (Fr (Fr (Fr y)))) xr) := h_21
            subst h_21
            refine lv_lstore_n (lv' := [(0, .long (lN ((fun y => Fr (Fr (Fr (Fr y)))) xr))), (4, .long (lN (Lr / 2))), (2, .long (lN x2)), (8, .ref q8), (9, .ref q9)]) hx hb dX2_combine_135 rfl hl (by decide) rfl (fun ls hl => ?_)
            refine lv_lload hx hb dX2_combine_136 (lv_at hl 1 rfl) ?_
            refine lv_iconst (v := 1) hx hb dX2_combine_138 (by decide) ?_
            refine lv_lshr hx hb dX2_combine_139 rfl ?_
            refine lv_topl (fun x_22 e_22 => ?_)
            have e_22 : x_22 = lN (Lr / 2 / 2) := by refine e_22.trans ?_; exact zj_lsr1 (by omega)
            subst e_22
            refine lv_lstore (lv' := [(4, .long (lN (Lr / 2 / 2))), (0, .long (lN ((fun y => Fr (Fr (Fr (Fr y)))) xr))), (2, .long (lN x2)), (8, .ref q8), (9, .ref q9)]) hx hb dX2_combine_140 hl (by decide) rfl (fun ls hl => ?_)
            refine lv_lload hx hb dX2_combine_142 (lv_at hl 0 rfl) ?_
            refine lv_lconst (v := 0) hx hb dX2_combine_144 (by rfl) ?_
            refine W.lcmp hx hb dX2_combine_145 ?_
            refine lv_if_ne (tgt := 74) hx hb dX2_combine_146 (by decide) (fun d3 => ?_) (fun d3 => ?_)
            · skip
              have hnz2 : Lr / 2 / 2 ≠ 0 := fun h => d3 ((zj_lc (a := Lr / 2 / 2) (b := 0) (by omega) (by decide)).mpr h)
              refine W.widen (k := 2) (n := 64) (Nat.le_of_ble_eq_true rfl) (Nat.le_of_ble_eq_true rfl) ?_
              exact ih2 (hi7) (Lr / 2 / 2, (fun y => Fr (Fr (Fr (Fr y)))) xr, (fun y => Fr (Fr (Fr (Fr y)))), (fun j => lN (Fr (Fr (2 ^ j))))) H locs ls ⟨hP.sub (ws' := [(q9, .inl (dL, 32, .inr (.inl (fun j => lN ((fun y => Fr (Fr (Fr (Fr y)))) (2 ^ j)))))), (q8, .inl (dL, 32, .inr (.inl (fun j => lN (Fr (Fr (2 ^ j)))))))]) [1, 0] rfl, hD.sub (ws' := [(q9, .inl (dL, 32, .inr (.inl (fun j => lN ((fun y => Fr (Fr (Fr (Fr y)))) (2 ^ j)))))), (q8, .inl (dL, 32, .inr (.inl (fun j => lN (Fr (Fr (2 ^ j)))))))]) [1, 0] (by decide) rfl, hS, lv_sub (l' := [(0, .long (lN ((fun y => Fr (Fr (Fr (Fr y)))) xr))), (2, .long (lN x2)), (4, .long (lN (Lr / 2 / 2))), (8, .ref q8), (9, .ref q9)]) hl [1, 2, 0, 3, 4] rfl, hl4, hb4, by omega, by omega, hb4 _ hXX, hH3⟩
            · skip
              have hz2 : Lr / 2 / 2 = 0 := by
                rcases Nat.eq_zero_or_pos (Lr / 2 / 2) with h | h
                · exact h
                · exact absurd d3 (fun h2 => absurd ((zj_lc (a := Lr / 2 / 2) (b := 0) (by omega) (by decide)).mp h2) (by omega))
              have hfin : (fun y => Fr (Fr (Fr (Fr y)))) xr = T := by rw [← hH3, hz2]; rfl
              rw [hfin] at hl
              refine lv_lload_n hx hb dX2_combine_149 rfl (lv_at hl 1 rfl) ?_
              refine lv_lload_n hx hb dX2_combine_150 rfl (lv_at hl 2 rfl) ?_
              refine lv_lxor hx hb dX2_combine_151 ?_
              refine lv_topl (fun x_23 e_23 => ?_)
              have e_23 : x_23 = lN (T ^^^ x2) := by refine e_23.trans ?_; exact lN_xor _ _
              subst e_23
              refine lv_lstore_n (lv' := [(0, .long (lN (T ^^^ x2))), (4, .long (lN (Lr / 2 / 2))), (2, .long (lN x2)), (8, .ref q8), (9, .ref q9)]) hx hb dX2_combine_152 rfl hl (by decide) rfl (fun ls hl => ?_)
              refine lv_lload_n hx hb dX2_combine_153 rfl (lv_at hl 0 rfl) ?_
              have hP9 := hP.sub (ws' := []) [] rfl
              have hD9 := hD.sub (ws' := []) [] (by decide) rfl
              have hK9 := hK.sub (tys' := []) [] rfl
              exact W.lret (v := (lN (T ^^^ x2))) hx hb hr (fun t ht hW => ⟨⟨(lN (T ^^^ x2)), (), rfl, by rw [if_neg (Nat.ne_of_gt hpos)], by rw [ht]; exact hP9, va_K.moved hW.alike hK9, hD9⟩, hS.F ht⟩) hS.2.2 dX2_combine_154
        · skip
          have hz : Lr / 2 = 0 := by
            rcases Nat.eq_zero_or_pos (Lr / 2) with h | h
            · exact h
            · exact absurd d1 (fun h2 => absurd ((zj_lc (a := Lr / 2) (b := 0) (by omega) (by decide)).mp h2) (by omega))
          have hfin : xr = T := by rw [hE, hz]; rfl
          refine lv_goto (tgt := 149) hx hb dX2_combine_110 (by decide) ?_
          rw [hfin] at hl
          refine lv_lload_n hx hb dX2_combine_149 rfl (lv_at hl 1 rfl) ?_
          refine lv_lload_n hx hb dX2_combine_150 rfl (lv_at hl 2 rfl) ?_
          refine lv_lxor hx hb dX2_combine_151 ?_
          refine lv_topl (fun x_24 e_24 => ?_)
          have e_24 : x_24 = lN (T ^^^ x2) := by refine e_24.trans ?_; exact lN_xor _ _
          subst e_24
          refine lv_lstore_n (lv' := [(0, .long (lN (T ^^^ x2))), (4, .long (lN (Lr / 2))), (2, .long (lN x2)), (8, .ref q8), (9, .ref q9)]) hx hb dX2_combine_152 rfl hl (by decide) rfl (fun ls hl => ?_)
          refine lv_lload_n hx hb dX2_combine_153 rfl (lv_at hl 0 rfl) ?_
          have hP9 := hP.sub (ws' := []) [] rfl
          have hD9 := hD.sub (ws' := []) [] (by decide) rfl
          have hK9 := hK.sub (tys' := []) [] rfl
          exact W.lret (v := (lN (T ^^^ x2))) hx hb hr (fun t ht hW => ⟨⟨(lN (T ^^^ x2)), (), rfl, by rw [if_neg (Nat.ne_of_gt hpos)], by rw [ht]; exact hP9, va_K.moved hW.alike hK9, hD9⟩, hS.F ht⟩) hS.2.2 dX2_combine_154
      · skip
        have cb : Lr % 2 = 1 := by have h9 : ¬ Lr % 2 = 0 := fun h => c2 ((zj_lc (a := Lr % 2) (b := 0) (by omega) (by decide)).mpr h); omega
        rw [if_pos cb] at hH1
        have hE := hH1
        have hXX := hb2 _ hxr
        refine lv_aload hx hb dX2_combine_90 (lv_at hl 3 rfl) ?_
        refine lv_lload_n hx hb dX2_combine_92 rfl (lv_at hl 0 rfl) ?_
        refine z_gol (wr := [(q9, .inl (dL, 32, .inr (.inl (fun j => lN (Fr (2 ^ j))))))]) (va_runS (As := [.ref q8, .long (lN xr)]) (rest := []) ⟨hx, hb, hml, hown, hts⟩ (mX2_times l D H.size q8 dL (fun y => Fr (Fr y)) xr hl2 hxr) (va_cwS 2 hts (lw_S q146 q147 q5 q148) rfl rfl rfl (by decide +kernel) ⟨(Nat.le_of_ble_eq_true rfl), (Nat.le_of_ble_eq_true rfl)⟩) (z_pre hK hP hD hS hA hX [0] [0] rfl (by decide) rfl (fun _ h9 => h9) (fun _ h9 => h9)) rfl rfl hl.1 rfl (lv_room (Nat.le_of_ble_eq_true rfl)) dX2_combine_93 ⟨(Nat.le_of_ble_eq_true rfl), (Nat.le_of_ble_eq_true rfl)⟩) hK hP hD hS hA [0] [1] rfl rfl (by decide) (by decide) (fun r_26 u_25 H locs h_27 _ hP hD hS => ?_)
        have hP : va_P D zCl [(q9, .inl (dL, 32, .inr (.inl (fun j => lN (Fr (2 ^ j)))))), (q8, .inl (dL, 32, .inr (.inl (fun j => lN ((fun y => Fr (Fr y)) (2 ^ j))))))] H := hP
        have hD : va_D A [(q9, .inl (dL, 32, .inr (.inl (fun j => lN (Fr (2 ^ j)))))), (q8, .inl (dL, 32, .inr (.inl (fun j => lN ((fun y => Fr (Fr y)) (2 ^ j))))))] := hD
        have h_27 : r_26 = lN ((fun y => Fr (Fr y)) xr) := h_27
        subst h_27
        refine lv_lstore_n (lv' := [(0, .long (lN ((fun y => Fr (Fr y)) xr))), (2, .long (lN x2)), (4, .long (lN Lr)), (8, .ref q8), (9, .ref q9)]) hx hb dX2_combine_96 rfl hl (by decide) rfl (fun ls hl => ?_)
        refine lv_lload hx hb dX2_combine_97 (lv_at hl 2 rfl) ?_
        refine lv_iconst (v := 1) hx hb dX2_combine_99 (by decide) ?_
        refine lv_lshr hx hb dX2_combine_100 rfl ?_
        refine lv_topl (fun x_28 e_28 => ?_)
        have e_28 : x_28 = lN (Lr / 2) := by refine e_28.trans ?_; exact zj_lsr1 (by omega)
        subst e_28
        refine lv_lstore (lv' := [(4, .long (lN (Lr / 2))), (0, .long (lN ((fun y => Fr (Fr y)) xr))), (2, .long (lN x2)), (8, .ref q8), (9, .ref q9)]) hx hb dX2_combine_101 hl (by decide) rfl (fun ls hl => ?_)
        refine lv_lload hx hb dX2_combine_103 (lv_at hl 0 rfl) ?_
        refine lv_lconst (v := 0) hx hb dX2_combine_105 (by rfl) ?_
        refine W.lcmp hx hb dX2_combine_106 ?_
        refine lv_if_ne (tgt := 113) hx hb dX2_combine_107 (by decide) (fun d1 => ?_) (fun d1 => ?_)
        · skip
          have hnz : Lr / 2 ≠ 0 := fun h => d1 ((zj_lc (a := Lr / 2) (b := 0) (by omega) (by decide)).mpr h)
          have hH2 := sj_half (F := fun y => Fr (Fr (Fr (Fr y)))) (Lr / 2) ((fun y => Fr (Fr y)) xr)
          rw [← hE] at hH2
          refine lv_aload hx hb dX2_combine_113 (lv_at hl 4 rfl) ?_
          refine lv_aload hx hb dX2_combine_115 (lv_at hl 3 rfl) ?_
          refine z_gov (wr := []) (va_runS (As := [.ref q9, .ref q8]) (rest := []) ⟨hx, hb, hml, hown, hts⟩ (mX2_square l D H.size q9 q8 dL (fun j => lN (Fr (2 ^ j))) (fun y => Fr (Fr y)) hl2 hb2) (va_cwS 2 hts (lw_S q143 q144 q5 q145) rfl rfl rfl (by decide +kernel) ⟨(Nat.le_of_ble_eq_true rfl), (Nat.le_of_ble_eq_true rfl)⟩) (z_pre hK hP hD hS hA hX [0, 1] [0] rfl (by decide) rfl (fun _ h9 => h9) (fun _ h9 => h9)) rfl rfl hl.1 rfl (lv_room (Nat.le_of_ble_eq_true rfl)) dX2_combine_117 ⟨(Nat.le_of_ble_eq_true rfl), (Nat.le_of_ble_eq_true rfl)⟩) hK hP hD hS hA [0, 1] [] rfl rfl (by decide) (by decide) (fun u_29 H locs h_31 _ hP hD hS => ?_)
          have hP : va_P D zCl [(q9, .inl (dL, 32, .inr (.inl (fun j => lN ((fun y => Fr (Fr y)) ((fun y => Fr (Fr y)) (2 ^ j))))))), (q8, .inl (dL, 32, .inr (.inl (fun j => lN ((fun y => Fr (Fr y)) (2 ^ j))))))] H := hP
          have hD : va_D A [(q9, .inl (dL, 32, .inr (.inl (fun j => lN ((fun y => Fr (Fr y)) ((fun y => Fr (Fr y)) (2 ^ j))))))), (q8, .inl (dL, 32, .inr (.inl (fun j => lN ((fun y => Fr (Fr y)) (2 ^ j))))))] := hD
          have hP : va_P D zCl [(q9, .inl (dL, 32, .inr (.inl (fun j => lN ((fun y => Fr (Fr (Fr (Fr y)))) (2 ^ j)))))), (q8, .inl (dL, 32, .inr (.inl (fun j => lN (Fr (Fr (2 ^ j)))))))] H := hP
          have hD : va_D A [(q9, .inl (dL, 32, .inr (.inl (fun j => lN ((fun y => Fr (Fr (Fr (Fr y)))) (2 ^ j)))))), (q8, .inl (dL, 32, .inr (.inl (fun j => lN (Fr (Fr (2 ^ j)))))))] := hD
          refine lv_lload hx hb dX2_combine_120 (lv_at hl 0 rfl) ?_
          refine lv_lconst (v := 1) hx hb dX2_combine_122 (by rfl) ?_
          refine lv_land hx hb dX2_combine_123 ?_
          refine lv_topl (fun x_32 e_32 => ?_)
          have e_32 : x_32 = lN (Lr / 2 % 2) := by refine e_32.trans ?_; exact zj_l1 (by omega)
          subst e_32
          refine lv_lconst (v := 0) hx hb dX2_combine_124 (by rfl) ?_
          refine W.lcmp hx hb dX2_combine_125 ?_
          refine lv_if_eq (tgt := 136) hx hb dX2_combine_126 (by decide) (fun c3 => ?_) (fun c3 => ?_)
          · skip
            have cb : ¬ Lr / 2 % 2 = 1 := by have h9 := (zj_lc (a := Lr / 2 % 2) (b := 0) (by omega) (by decide)).mp c3; omega
            rw [if_neg cb] at hH2
            have hH3 := hH2.symm
            refine lv_lload hx hb dX2_combine_136 (lv_at hl 0 rfl) ?_
            refine lv_iconst (v := 1) hx hb dX2_combine_138 (by decide) ?_
            refine lv_lshr hx hb dX2_combine_139 rfl ?_
            refine lv_topl (fun x_33 e_33 => ?_)
            have e_33 : x_33 = lN (Lr / 2 / 2) := by refine e_33.trans ?_; exact zj_lsr1 (by omega)
            subst e_33
            refine lv_lstore (lv' := [(4, .long (lN (Lr / 2 / 2))), (0, .long (lN ((fun y => Fr (Fr y)) xr))), (2, .long (lN x2)), (8, .ref q8), (9, .ref q9)]) hx hb dX2_combine_140 hl (by decide) rfl (fun ls hl => ?_)
            refine lv_lload hx hb dX2_combine_142 (lv_at hl 0 rfl) ?_
            refine lv_lconst (v := 0) hx hb dX2_combine_144 (by rfl) ?_
            refine W.lcmp hx hb dX2_combine_145 ?_
            refine lv_if_ne (tgt := 74) hx hb dX2_combine_146 (by decide) (fun d3 => ?_) (fun d3 => ?_)
            · skip
              have hnz2 : Lr / 2 / 2 ≠ 0 := fun h => d3 ((zj_lc (a := Lr / 2 / 2) (b := 0) (by omega) (by decide)).mpr h)
              refine W.widen (k := 2) (n := 64) (Nat.le_of_ble_eq_true rfl) (Nat.le_of_ble_eq_true rfl) ?_
              exact ih2 (hi7) (Lr / 2 / 2, (fun y => Fr (Fr y)) xr, (fun y => Fr (Fr (Fr (Fr y)))), (fun j => lN (Fr (Fr (2 ^ j))))) H locs ls ⟨hP.sub (ws' := [(q9, .inl (dL, 32, .inr (.inl (fun j => lN ((fun y => Fr (Fr (Fr (Fr y)))) (2 ^ j)))))), (q8, .inl (dL, 32, .inr (.inl (fun j => lN (Fr (Fr (2 ^ j)))))))]) [0, 1] rfl, hD.sub (ws' := [(q9, .inl (dL, 32, .inr (.inl (fun j => lN ((fun y => Fr (Fr (Fr (Fr y)))) (2 ^ j)))))), (q8, .inl (dL, 32, .inr (.inl (fun j => lN (Fr (Fr (2 ^ j)))))))]) [0, 1] (by decide) rfl, hS, lv_sub (l' := [(0, .long (lN ((fun y => Fr (Fr y)) xr))), (2, .long (lN x2)), (4, .long (lN (Lr / 2 / 2))), (8, .ref q8), (9, .ref q9)]) hl [1, 2, 0, 3, 4] rfl, hl4, hb4, by omega, by omega, hXX, hH3⟩
            · skip
              have hz2 : Lr / 2 / 2 = 0 := by
                rcases Nat.eq_zero_or_pos (Lr / 2 / 2) with h | h
                · exact h
                · exact absurd d3 (fun h2 => absurd ((zj_lc (a := Lr / 2 / 2) (b := 0) (by omega) (by decide)).mp h2) (by omega))
              have hfin : (fun y => Fr (Fr y)) xr = T := by rw [← hH3, hz2]; rfl
              rw [hfin] at hl
              refine lv_lload_n hx hb dX2_combine_149 rfl (lv_at hl 1 rfl) ?_
              refine lv_lload_n hx hb dX2_combine_150 rfl (lv_at hl 2 rfl) ?_
              refine lv_lxor hx hb dX2_combine_151 ?_
              refine lv_topl (fun x_34 e_34 => ?_)
              have e_34 : x_34 = lN (T ^^^ x2) := by refine e_34.trans ?_; exact lN_xor _ _
              subst e_34
              refine lv_lstore_n (lv' := [(0, .long (lN (T ^^^ x2))), (4, .long (lN (Lr / 2 / 2))), (2, .long (lN x2)), (8, .ref q8), (9, .ref q9)]) hx hb dX2_combine_152 rfl hl (by decide) rfl (fun ls hl => ?_)
              refine lv_lload_n hx hb dX2_combine_153 rfl (lv_at hl 0 rfl) ?_
              have hP9 := hP.sub (ws' := []) [] rfl
              have hD9 := hD.sub (ws' := []) [] (by decide) rfl
              have hK9 := hK.sub (tys' := []) [] rfl
              exact W.lret (v := (lN (T ^^^ x2))) hx hb hr (fun t ht hW => ⟨⟨(lN (T ^^^ x2)), (), rfl, by rw [if_neg (Nat.ne_of_gt hpos)], by rw [ht]; exact hP9, va_K.moved hW.alike hK9, hD9⟩, hS.F ht⟩) hS.2.2 dX2_combine_154
          · skip
            have cb : Lr / 2 % 2 = 1 := by have h9 : ¬ Lr / 2 % 2 = 0 := fun h => c3 ((zj_lc (a := Lr / 2 % 2) (b := 0) (by omega) (by decide)).mpr h); omega
            rw [if_pos cb] at hH2
            have hH3 := hH2.symm
            refine lv_aload hx hb dX2_combine_129 (lv_at hl 4 rfl) ?_
            refine lv_lload_n hx hb dX2_combine_131 rfl (lv_at hl 1 rfl) ?_
            refine z_gol (wr := [(q8, .inl (dL, 32, .inr (.inl (fun j => lN (Fr (Fr (2 ^ j)))))))]) (va_runS (As := [.ref q9, .long (lN ((fun y => Fr (Fr y)) xr))]) (rest := []) ⟨hx, hb, hml, hown, hts⟩ (mX2_times l D H.size q9 dL (fun y => Fr (Fr (Fr (Fr y)))) ((fun y => Fr (Fr y)) xr) hl4 hXX) (va_cwS 2 hts (lw_S q146 q147 q5 q148) rfl rfl rfl (by decide +kernel) ⟨(Nat.le_of_ble_eq_true rfl), (Nat.le_of_ble_eq_true rfl)⟩) (z_pre hK hP hD hS hA hX [0] [0] rfl (by decide) rfl (fun _ h9 => h9) (fun _ h9 => h9)) rfl rfl hl.1 rfl (lv_room (Nat.le_of_ble_eq_true rfl)) dX2_combine_132 ⟨(Nat.le_of_ble_eq_true rfl), (Nat.le_of_ble_eq_true rfl)⟩) hK hP hD hS hA [0] [1] rfl rfl (by decide) (by decide) (fun r_36 u_35 H locs h_37 _ hP hD hS => ?_)
            have hP : va_P D zCl [(q8, .inl (dL, 32, .inr (.inl (fun j => lN (Fr (Fr (2 ^ j))))))), (q9, .inl (dL, 32, .inr (.inl (fun j => lN ((fun y => Fr (Fr (Fr (Fr y)))) (2 ^ j))))))] H := hP
            have hD : va_D A [(q8, .inl (dL, 32, .inr (.inl (fun j => lN (Fr (Fr (2 ^ j))))))), (q9, .inl (dL, 32, .inr (.inl (fun j => lN ((fun y => Fr (Fr (Fr (Fr y)))) (2 ^ j))))))] := hD
            have h_37 : r_36 = lN ((fun y => Fr (Fr (Fr (Fr y)))) ((fun y => Fr (Fr y)) xr)) := h_37
            subst h_37
            refine lv_lstore_n (lv' := [(0, .long (lN ((fun y => Fr (Fr (Fr (Fr y)))) ((fun y => Fr (Fr y)) xr)))), (4, .long (lN (Lr / 2))), (2, .long (lN x2)), (8, .ref q8), (9, .ref q9)]) hx hb dX2_combine_135 rfl hl (by decide) rfl (fun ls hl => ?_)
            refine lv_lload hx hb dX2_combine_136 (lv_at hl 1 rfl) ?_
            refine lv_iconst (v := 1) hx hb dX2_combine_138 (by decide) ?_
            refine lv_lshr hx hb dX2_combine_139 rfl ?_
            refine lv_topl (fun x_38 e_38 => ?_)
            have e_38 : x_38 = lN (Lr / 2 / 2) := by refine e_38.trans ?_; exact zj_lsr1 (by omega)
            subst e_38
            refine lv_lstore (lv' := [(4, .long (lN (Lr / 2 / 2))), (0, .long (lN ((fun y => Fr (Fr (Fr (Fr y)))) ((fun y => Fr (Fr y)) xr)))), (2, .long (lN x2)), (8, .ref q8), (9, .ref q9)]) hx hb dX2_combine_140 hl (by decide) rfl (fun ls hl => ?_)
            refine lv_lload hx hb dX2_combine_142 (lv_at hl 0 rfl) ?_
            refine lv_lconst (v := 0) hx hb dX2_combine_144 (by rfl) ?_
            refine W.lcmp hx hb dX2_combine_145 ?_
            refine lv_if_ne (tgt := 74) hx hb dX2_combine_146 (by decide) (fun d3 => ?_) (fun d3 => ?_)
            · skip
              have hnz2 : Lr / 2 / 2 ≠ 0 := fun h => d3 ((zj_lc (a := Lr / 2 / 2) (b := 0) (by omega) (by decide)).mpr h)
              refine W.widen (k := 2) (n := 64) (Nat.le_of_ble_eq_true rfl) (Nat.le_of_ble_eq_true rfl) ?_
              exact ih2 (hi7) (Lr / 2 / 2, (fun y => Fr (Fr (Fr (Fr y)))) ((fun y => Fr (Fr y)) xr), (fun y => Fr (Fr (Fr (Fr y)))), (fun j => lN (Fr (Fr (2 ^ j))))) H locs ls ⟨hP.sub (ws' := [(q9, .inl (dL, 32, .inr (.inl (fun j => lN ((fun y => Fr (Fr (Fr (Fr y)))) (2 ^ j)))))), (q8, .inl (dL, 32, .inr (.inl (fun j => lN (Fr (Fr (2 ^ j)))))))]) [1, 0] rfl, hD.sub (ws' := [(q9, .inl (dL, 32, .inr (.inl (fun j => lN ((fun y => Fr (Fr (Fr (Fr y)))) (2 ^ j)))))), (q8, .inl (dL, 32, .inr (.inl (fun j => lN (Fr (Fr (2 ^ j)))))))]) [1, 0] (by decide) rfl, hS, lv_sub (l' := [(0, .long (lN ((fun y => Fr (Fr (Fr (Fr y)))) ((fun y => Fr (Fr y)) xr)))), (2, .long (lN x2)), (4, .long (lN (Lr / 2 / 2))), (8, .ref q8), (9, .ref q9)]) hl [1, 2, 0, 3, 4] rfl, hl4, hb4, by omega, by omega, hb4 _ hXX, hH3⟩
            · skip
              have hz2 : Lr / 2 / 2 = 0 := by
                rcases Nat.eq_zero_or_pos (Lr / 2 / 2) with h | h
                · exact h
                · exact absurd d3 (fun h2 => absurd ((zj_lc (a := Lr / 2 / 2) (b := 0) (by omega) (by decide)).mp h2) (by omega))
              have hfin : (fun y => Fr (Fr (Fr (Fr y)))) ((fun y => Fr (Fr y)) xr) = T := by rw [← hH3, hz2]; rfl
              rw [hfin] at hl
              refine lv_lload_n hx hb dX2_combine_149 rfl (lv_at hl 1 rfl) ?_
              refine lv_lload_n hx hb dX2_combine_150 rfl (lv_at hl 2 rfl) ?_
              refine lv_lxor hx hb dX2_combine_151 ?_
              refine lv_topl (fun x_39 e_39 => ?_)
              have e_39 : x_39 = lN (T ^^^ x2) := by refine e_39.trans ?_; exact lN_xor _ _
              subst e_39
              refine lv_lstore_n (lv' := [(0, .long (lN (T ^^^ x2))), (4, .long (lN (Lr / 2 / 2))), (2, .long (lN x2)), (8, .ref q8), (9, .ref q9)]) hx hb dX2_combine_152 rfl hl (by decide) rfl (fun ls hl => ?_)
              refine lv_lload_n hx hb dX2_combine_153 rfl (lv_at hl 0 rfl) ?_
              have hP9 := hP.sub (ws' := []) [] rfl
              have hD9 := hD.sub (ws' := []) [] (by decide) rfl
              have hK9 := hK.sub (tys' := []) [] rfl
              exact W.lret (v := (lN (T ^^^ x2))) hx hb hr (fun t ht hW => ⟨⟨(lN (T ^^^ x2)), (), rfl, by rw [if_neg (Nat.ne_of_gt hpos)], by rw [ht]; exact hP9, va_K.moved hW.alike hK9, hD9⟩, hS.F ht⟩) hS.2.2 dX2_combine_154
        · skip
          have hz : Lr / 2 = 0 := by
            rcases Nat.eq_zero_or_pos (Lr / 2) with h | h
            · exact h
            · exact absurd d1 (fun h2 => absurd ((zj_lc (a := Lr / 2) (b := 0) (by omega) (by decide)).mp h2) (by omega))
          have hfin : (fun y => Fr (Fr y)) xr = T := by rw [hE, hz]; rfl
          refine lv_goto (tgt := 149) hx hb dX2_combine_110 (by decide) ?_
          rw [hfin] at hl
          refine lv_lload_n hx hb dX2_combine_149 rfl (lv_at hl 1 rfl) ?_
          refine lv_lload_n hx hb dX2_combine_150 rfl (lv_at hl 2 rfl) ?_
          refine lv_lxor hx hb dX2_combine_151 ?_
          refine lv_topl (fun x_40 e_40 => ?_)
          have e_40 : x_40 = lN (T ^^^ x2) := by refine e_40.trans ?_; exact lN_xor _ _
          subst e_40
          refine lv_lstore_n (lv' := [(0, .long (lN (T ^^^ x2))), (4, .long (lN (Lr / 2))), (2, .long (lN x2)), (8, .ref q8), (9, .ref q9)]) hx hb dX2_combine_152 rfl hl (by decide) rfl (fun ls hl => ?_)
          refine lv_lload_n hx hb dX2_combine_153 rfl (lv_at hl 0 rfl) ?_
          have hP9 := hP.sub (ws' := []) [] rfl
          have hD9 := hD.sub (ws' := []) [] (by decide) rfl
          have hK9 := hK.sub (tys' := []) [] rfl
          exact W.lret (v := (lN (T ^^^ x2))) hx hb hr (fun t ht hW => ⟨⟨(lN (T ^^^ x2)), (), rfl, by rw [if_neg (Nat.ne_of_gt hpos)], by rw [ht]; exact hP9, va_K.moved hW.alike hK9, hD9⟩, hS.F ht⟩) hS.2.2 dX2_combine_154
    · skip
      have hi31 : i < 31 := Nat.lt_of_not_le (fun h => c1 (nI_le (a := 32) (b := i + 1) (by omega) (by omega)))
      refine lv_aload hx hb dX2_combine_41 (lv_at hl 5 rfl) ?_
      refine lv_iload hx hb dX2_combine_43 (lv_at hl 6 rfl) ?_
      refine lv_lload hx hb dX2_combine_45 (lv_at hl 3 rfl) ?_
      refine va_last hx hb hK hP hD hS 1 0 rfl rfl (vp_in_nI (n := i + 1) (by omega) (by decide)) dX2_combine_47 (fun H locs hP hD hS => ?_)
      rw [show vp_updL g1 ((nI (i + 1)) : Int32).toNatClampNeg (lN (2 ^ i)) = vp_updL g1 (i + 1) (lN (2 ^ i)) by rw [nI_clamp (by omega)]] at hP hD
      have hP : va_P D zCl [(q8, .inl (dL, 32, .inr (.inl (fun _ => 0)))), (q9, .inl (dL, 32, .inr (.inl (vp_updL g1 (i + 1) (lN (2 ^ i))))))] H := hP
      have hD : va_D A [(q8, .inl (dL, 32, .inr (.inl (fun _ => 0)))), (q9, .inl (dL, 32, .inr (.inl (vp_updL g1 (i + 1) (lN (2 ^ i))))))] := hD
      refine lv_lload hx hb dX2_combine_48 (lv_at hl 3 rfl) ?_
      refine lv_iconst (v := 1) hx hb dX2_combine_50 (by decide) ?_
      refine lv_lshl hx hb dX2_combine_51 rfl ?_
      refine lv_topl (fun x_1 e_1 => ?_)
      have e_1 : x_1 = lN (2 ^ (i + 1)) := by refine e_1.trans ?_; rw [zj_shl1, Nat.pow_succ]
      subst e_1
      refine lv_lstore (lv' := [(6, .long (lN (2 ^ (i + 1)))), (0, .long (lN x1)), (2, .long (lN x2)), (4, .long (lN n)), (8, .ref q8), (9, .ref q9), (10, .int (nI (i + 1)))]) hx hb dX2_combine_52 hl (by decide) rfl (fun ls hl => ?_)
      refine lv_iinc (v := nI (i + 1 + 1)) (lv' := [(10, .int (nI (i + 1 + 1))), (6, .long (lN (2 ^ (i + 1)))), (0, .long (lN x1)), (2, .long (lN x2)), (4, .long (lN n)), (8, .ref q8), (9, .ref q9)]) hx hb dX2_combine_54 hl (k := 6) rfl (by exact nI_1 (i + 1)) (by decide) rfl (fun ls hl => ?_)
      refine lv_goto (tgt := 34) hx hb dX2_combine_57 (by decide) ?_
      refine W.widen (k := 2) (n := 64) (Nat.le_of_ble_eq_true rfl) (Nat.le_of_ble_eq_true rfl) ?_
      exact ih (by omega) (vp_updL g1 (i + 1) (lN (2 ^ i))) H locs ls ⟨hP.sub (ws' := [(q8, .inl (dL, 32, .inr (.inl (fun _ => 0)))), (q9, .inl (dL, 32, .inr (.inl (vp_updL g1 (i + 1) (lN (2 ^ i))))))]) [0, 1] rfl, hD.sub (ws' := [(q8, .inl (dL, 32, .inr (.inl (fun _ => 0)))), (q9, .inl (dL, 32, .inr (.inl (vp_updL g1 (i + 1) (lN (2 ^ i))))))]) [0, 1] (by decide) rfl, hS, lv_sub (l' := [(0, .long (lN x1)), (2, .long (lN x2)), (4, .long (lN n)), (6, .long (lN (2 ^ (i + 1)))), (8, .ref q8), (9, .ref q9), (10, .int (nI ((i + 1) + 1)))]) hl [2, 3, 4, 1, 5, 6, 0] rfl, lt_s (p := fun j => vp_updL g1 (i + 1) (lN (2 ^ i)) j = lN (sj_c1 (2 ^ j))) (fun j hj => by rw [pk_uLn (Nat.ne_of_lt hj)]; exact hJ j hj) (by rw [pk_uLs, sj_c1_pow])⟩
  · skip
    have hz : n = 0 := Nat.eq_zero_of_not_pos (fun h => c0 ((zj_lg (a := n) (b := 0) (by omega) (by decide)).mpr h))
    refine lv_lload_n hx hb dX2_combine_19 rfl (lv_at hl 2 rfl) ?_
    have hP9 := hP.sub (ws' := []) [] rfl
    have hD9 := hD.sub (ws' := []) [] (by decide) rfl
    have hK9 := hK.sub (tys' := []) [] rfl
    exact W.lret (v := (lN x1)) hx hb hr (fun t ht hW => ⟨⟨(lN x1), (), rfl, by rw [if_pos hz], by rw [ht]; exact hP9, va_K.moved hW.alike hK9, hD9⟩, hS.F ht⟩) hS.2.2 dX2_combine_20
end
section
/-! ADLER32: contracts -/
theorem sj_ja_lt {a1 a2 : Nat} (h1 : a1 < 65521) (h2 : a2 < 65521) : sj_ja a1 a2 < 65521 := by
  unfold sj_ja sj_red1
  split <;> (try split) <;> omega
theorem sj_jb_lt {a1 b1 b2 n : Nat} (h1 : b1 < 65521) (h2 : b2 < 65521) : sj_jb a1 b1 b2 n < 65521 := by
  have h := Nat.mod_lt (n % 65521 * a1) (show 0 < 65521 by decide)
  have h3 := Nat.mod_lt n (show 0 < 65521 by decide)
  unfold sj_jb sj_red1 sj_red2
  generalize n % 65521 * a1 % 65521 = P at *
  split <;> (try split) <;> omega
section ZJOIN
variable {p : Program} {l : Launch} {e : Env} {R : Room} {s : State} {m : MethodId} {args : Array Value} {below : List Frame} {meth : Method} {c : Code} {H : Heap} {locs : List Loc} {cells slots : Nat} {Q : State → Prop}
theorem z_join {pc pc1 : Nat} {ls0 : Array Slot} {st0 st : List Value} (I : Array Slot → Prop) (here : (∀ ls, I ls → W p l e R s m args below meth c H locs cells slots Q (F0 m pc1 ls st)) → W p l e R s m args below meth c H locs cells slots Q (F0 m pc ls0 st0)) (rest : ∀ ls, I ls → W p l e R s m args below meth c H locs cells slots Q (F0 m pc1 ls st)) : W p l e R s m args below meth c H locs cells slots Q (F0 m pc ls0 st0) := here rest
end ZJOIN
set_option maxHeartbeats 4000000 in
set_option maxRecDepth 100000 in
/-- Adler32(): s1 is 1, s2 is 0 -/
theorem mX3_init (l : Launch) (D : va_G) (sz : Nat) (h0 : Nat) : Met l yX3_init (ws_ yX3_init cX3_init 1 none) ({ frames := 1, cells := 0, slots := 0, locals := 12 }) (va_Pc [.ref h0] (zP D sz [(h0, .inr (2, [.long 0, .long 0]))] [] none none)) (va_Qv (fun (_ : Unit) => True) (zB D (va_A [(h0, .inr (2, [.long 0, .long 0]))] sz) (fun (_ : Unit) => [(h0, .inr (2, [.long 1, .long 0]))]) (fun (_ : Unit) => [])) (va_A [(h0, .inr (2, [.long 0, .long 0]))] sz)) 0 0 (va_A [(h0, .inr (2, [.long 0, .long 0]))] sz) := by
  refine Met.ofW (cc := cX3_init) (maxL := 1) (ret := none) (by decide) rfl ?_
  intro p e s m args below meth c s₁ B hml hv
  obtain ⟨rfl, hsz, hP, hK, hD0, hX⟩ := hv
  have hx := B.exec
  have hb := B.bytes
  have hr := B.returns
  have hts := atoms_spec (ws := ws_ yX3_init cX3_init 1 none) B.pre
  have hts : ∀ w ∈ lw_all, w.before _ s = true := fun w h => hts w (List.mem_cons_of_mem _ h)
  have hown : s.vm.findClass RX3 = some m.cls := findClass_of_methodNamed B.named
  have hlocks := B.notSynchronized
  have hin : meth.name = "<init>" := (name_of_methodNamed B.named B.method).1
  subst hsz
  have hD := hD0.self (sz := s.heap.size)
  generalize hAe : va_A [(h0, .inr (2, [.long 0, .long 0]))] s.heap.size = A at hD hX ⊢
  have hA : ∀ q : Nat, s.heap.size ≤ q → A q := fun q h => by rw [← hAe]; exact Or.inr h
  have hS : va_S A s.heap s.heap [] := va_S.rf
  have hP : va_P D zCl [(h0, .inr (2, [.long 0, .long 0]))] s.heap := hP
  have hl := lv_entry ([.ref h0]) (n := 1) (Nat.le_of_ble_eq_true rfl)
  rw [lg_entry_eq]
  generalize (lg_sl ([.ref h0]) ++ List.replicate (1 - (lg_sl ([.ref h0])).length) Slot.unset).toArray = ls at hl ⊢
  have hl : lv_has ls 1 [(0, .ref h0)] := hl
  refine lv_aload_n hx hb dX3_init_0 rfl (lv_at hl 0 rfl) ?_
  refine W.objInit hx hb hown (hts _ q71) (hts _ q19) (hts _ q20) rfl (by rw [hml]; exact hl.1) rfl dX3_init_1 (Nat.le_of_ble_eq_true rfl) (Nat.le_of_ble_eq_true rfl) ?_
  refine W.eq (g2 := F0 m 4 ls []) rfl ?_
  refine lv_aload_n hx hb dX3_init_4 rfl (lv_at hl 0 rfl) ?_
  refine lv_lconst (v := 1) hx hb dX3_init_5 (by rfl) ?_
  refine va_put (D := D) (ci := 2) (v := .long 1) (ty := .long) (C := RX3) (T := TX3) (N := 2) hx hb hts in_X3 tyX3 tyX3_ok nmX3 hown hK hP hD hS 0 rfl rfl 0 (by decide) (hts _ q72) (fun _ h9 => h9) rfl (by decide +kernel) rfl rfl (Nat.le_of_ble_eq_true rfl) dX3_init_6 (fun H locs hP hD hS => ?_)
  have hP : va_P D zCl [(h0, .inr (2, [.long 1, .long 0]))] H := hP
  have hD : va_D A [(h0, .inr (2, [.long 1, .long 0]))] := hD
  refine lv_aload_n hx hb dX3_init_9 rfl (lv_at hl 0 rfl) ?_
  refine lv_lconst (v := 0) hx hb dX3_init_10 (by rfl) ?_
  refine va_put (D := D) (ci := 2) (v := .long 0) (ty := .long) (C := RX3) (T := TX3) (N := 2) hx hb hts in_X3 tyX3 tyX3_ok nmX3 hown hK hP hD hS 0 rfl rfl 1 (by decide) (hts _ q73) (fun _ h9 => h9) rfl (by decide +kernel) rfl rfl (Nat.le_of_ble_eq_true rfl) dX3_init_11 (fun H locs hP hD hS => ?_)
  have hP : va_P D zCl [(h0, .inr (2, [.long 1, .long 0]))] H := hP
  have hD : va_D A [(h0, .inr (2, [.long 1, .long 0]))] := hD
  have hP9 := hP.sub (ws' := [(h0, .inr (2, [.long 1, .long 0]))]) [0] rfl
  have hD9 := hD.sub (ws' := [(h0, .inr (2, [.long 1, .long 0]))]) [0] (by decide) rfl
  have hK9 := hK.sub (tys' := []) [] rfl
  exact W.vret hx hb hr (fun t ht hW => ⟨⟨(), rfl, trivial, by rw [ht]; exact hP9, va_K.moved hW.alike hK9, hD9⟩, hS.F ht⟩) hS.2.2 dX3_init_14
set_option maxHeartbeats 4000000 in
set_option maxRecDepth 100000 in
/-- getValue -/
theorem mX3_getValue (l : Launch) (D : va_G) (sz : Nat) (h0 : Nat) (a : Nat) (b : Nat) (ha : a < 65536) (hb1 : b < 65536) : Met l yX3_getValue (ws_ yX3_getValue cX3_getValue 1 (some .long)) ({ frames := 0, cells := 0, slots := 0, locals := 0 }) (va_Pc [.ref h0] (zP D sz [(h0, .inr (2, [.long (lN a), .long (lN b)]))] [] none none)) (va_Ql (fun (r : Int64) (_ : Unit) => r = lN (b * 65536 + a)) (zB D (va_A [(h0, .inr (2, [.long (lN a), .long (lN b)]))] sz) (fun (_ : Unit) => [(h0, .inr (2, [.long (lN a), .long (lN b)]))]) (fun (_ : Unit) => [])) (va_A [(h0, .inr (2, [.long (lN a), .long (lN b)]))] sz)) 0 0 (va_A [(h0, .inr (2, [.long (lN a), .long (lN b)]))] sz) := by
  refine Met.ofW (cc := cX3_getValue) (maxL := 1) (ret := (some .long)) (by decide) rfl ?_
  intro p e s m args below meth c s₁ B hml hv
  obtain ⟨rfl, hsz, hP, hK, hD0, hX⟩ := hv
  have hx := B.exec
  have hb := B.bytes
  have hr := B.returns
  have hts := atoms_spec (ws := ws_ yX3_getValue cX3_getValue 1 (some .long)) B.pre
  have hts : ∀ w ∈ lw_all, w.before _ s = true := fun w h => hts w (List.mem_cons_of_mem _ h)
  have hown : s.vm.findClass RX3 = some m.cls := findClass_of_methodNamed B.named
  have hlocks := B.notSynchronized
  subst hsz
  have hD := hD0.self (sz := s.heap.size)
  generalize hAe : va_A [(h0, .inr (2, [.long (lN a), .long (lN b)]))] s.heap.size = A at hD hX ⊢
  have hA : ∀ q : Nat, s.heap.size ≤ q → A q := fun q h => by rw [← hAe]; exact Or.inr h
  have hS : va_S A s.heap s.heap [] := va_S.rf
  have hP : va_P D zCl [(h0, .inr (2, [.long (lN a), .long (lN b)]))] s.heap := hP
  have hl := lv_entry ([.ref h0]) (n := 1) (Nat.le_of_ble_eq_true rfl)
  rw [lg_entry_eq]
  generalize (lg_sl ([.ref h0]) ++ List.replicate (1 - (lg_sl ([.ref h0])).length) Slot.unset).toArray = ls at hl ⊢
  have hl : lv_has ls 1 [(0, .ref h0)] := hl
  refine lv_aload_n hx hb dX3_getValue_0 rfl (lv_at hl 0 rfl) ?_
  refine va_get (D := D) (ci := 2) (v := .long (lN b)) (C := RX3) (T := TX3) (N := 2) hx hb hts in_X3 hown hK hP 0 rfl rfl 1 (by decide) (hts _ q73) (fun _ h9 => h9) rfl dX3_getValue_1 ?_
  refine lv_bipush (v := 16) hx hb dX3_getValue_4 (by decide +kernel) ?_
  refine lv_lshl hx hb dX3_getValue_6 rfl ?_
  refine lv_topl (fun x_1 e_1 => ?_)
  have e_1 : x_1 = lN (b * 65536) := by refine e_1.trans ?_; exact zj_shl16 _
  subst e_1
  refine lv_aload_n hx hb dX3_getValue_7 rfl (lv_at hl 0 rfl) ?_
  refine va_get (D := D) (ci := 2) (v := .long (lN a)) (C := RX3) (T := TX3) (N := 2) hx hb hts in_X3 hown hK hP 0 rfl rfl 0 (by decide) (hts _ q72) (fun _ h9 => h9) rfl dX3_getValue_8 ?_
  refine lv_lor hx hb dX3_getValue_11 ?_
  refine lv_topl (fun x_2 e_2 => ?_)
  have e_2 : x_2 = lN (b * 65536 + a) := by refine e_2.trans ?_; exact zj_or ha hb1
  subst e_2
  have hP9 := hP.sub (ws' := [(h0, .inr (2, [.long (lN a), .long (lN b)]))]) [0] rfl
  have hD9 := hD.sub (ws' := [(h0, .inr (2, [.long (lN a), .long (lN b)]))]) [0] (by decide) rfl
  have hK9 := hK.sub (tys' := []) [] rfl
  exact W.lret (v := (lN (b * 65536 + a))) hx hb hr (fun t ht hW => ⟨⟨(lN (b * 65536 + a)), (), rfl, rfl, by rw [ht]; exact hP9, va_K.moved hW.alike hK9, hD9⟩, hS.F ht⟩) hS.2.2 dX3_getValue_12
set_option maxHeartbeats 4000000 in
set_option maxRecDepth 100000 in
/-- update: the Adler-32 of n bytes from f on -/
theorem mX3_update (l : Launch) (D : va_G) (sz : Nat) (h0 : Nat) (q : Nat) (dB : ClassId) (a : Nat → Int32) (f : Nat) (n : Nat) (hfn : f + n ≤ 4096) : Met l yX3_update (ws_ yX3_update cX3_update 7 none) ({ frames := 0, cells := 0, slots := 0, locals := 0 }) (va_Pc [.ref h0, .ref q, .int (nI f), .int (nI n)] (zP D sz [(h0, .inr (2, [.long 1, .long 0])), (q, .inl (dB, 4096, .inl a))] [(dB, .byte)] none none)) (va_Qv (fun (_ : Unit) => True) (zB D (va_A [(h0, .inr (2, [.long 1, .long 0])), (q, .inl (dB, 4096, .inl a))] sz) (fun (_ : Unit) => [(h0, .inr (2, [.long (lN (sj_a (fun j => sj_by (a j)) f n)), .long (lN (sj_b (fun j => sj_by (a j)) f n))])), (q, .inl (dB, 4096, .inl a))]) (fun (_ : Unit) => [])) (va_A [(h0, .inr (2, [.long 1, .long 0])), (q, .inl (dB, 4096, .inl a))] sz)) 0 0 (va_A [(h0, .inr (2, [.long 1, .long 0])), (q, .inl (dB, 4096, .inl a))] sz) := by
  refine Met.ofW (cc := cX3_update) (maxL := 7) (ret := none) (by decide) rfl ?_
  intro p e s m args below meth c s₁ B hml hv
  obtain ⟨rfl, hsz, hP, hK, hD0, hX⟩ := hv
  have hx := B.exec
  have hb := B.bytes
  have hr := B.returns
  have hts := atoms_spec (ws := ws_ yX3_update cX3_update 7 none) B.pre
  have hts : ∀ w ∈ lw_all, w.before _ s = true := fun w h => hts w (List.mem_cons_of_mem _ h)
  have hown : s.vm.findClass RX3 = some m.cls := findClass_of_methodNamed B.named
  have hlocks := B.notSynchronized
  subst hsz
  have hD := hD0.self (sz := s.heap.size)
  generalize hAe : va_A [(h0, .inr (2, [.long 1, .long 0])), (q, .inl (dB, 4096, .inl a))] s.heap.size = A at hD hX ⊢
  have hA : ∀ q : Nat, s.heap.size ≤ q → A q := fun q h => by rw [← hAe]; exact Or.inr h
  have hS : va_S A s.heap s.heap [] := va_S.rf
  have hP : va_P D zCl [(h0, .inr (2, [.long 1, .long 0])), (q, .inl (dB, 4096, .inl a))] s.heap := hP
  have hl := lv_entry ([.ref h0, .ref q, .int (nI f), .int (nI n)]) (n := 7) (Nat.le_of_ble_eq_true rfl)
  rw [lg_entry_eq]
  generalize (lg_sl ([.ref h0, .ref q, .int (nI f), .int (nI n)]) ++ List.replicate (7 - (lg_sl ([.ref h0, .ref q, .int (nI f), .int (nI n)])).length) Slot.unset).toArray = ls at hl ⊢
  have hl : lv_has ls 7 [(0, .ref h0), (1, .ref q), (2, .int (nI f)), (3, .int (nI n))] := hl
  have hg : ∀ j, (fun j => sj_by (a j)) j < 256 := fun j => sj_by_lt _
  generalize hge : (fun j => sj_by (a j)) = g at hg ⊢
  have hgj : ∀ j, sj_by (a j) = g j := fun j => by rw [← hge]
  have hua := sj_ua_bd hg f
  have hub := sj_ub_bd hg f
  have hP : va_P D zCl [(h0, .inr (2, [.long (lN (sj_ua g f 0)), .long (lN (sj_ub g f 0))])), (q, .inl (dB, 4096, .inl a))] s.heap := hP
  have hD : va_D A [(h0, .inr (2, [.long (lN (sj_ua g f 0)), .long (lN (sj_ub g f 0))])), (q, .inl (dB, 4096, .inl a))] := hD
  refine lv_iload_n hx hb dX3_update_0 rfl (lv_at hl 3 rfl) ?_
  refine lv_iconst (v := nI 1) hx hb dX3_update_1 (by decide +kernel) ?_
  refine lv_icmp_ne (tgt := 63) hx hb dX3_update_2 (by decide) (fun c0 => ?_) (fun c0 => ?_)
  · skip
    refine lv_iload_n hx hb dX3_update_63 rfl (lv_at hl 3 rfl) ?_
    refine lv_sipush (v := nI 5552) hx hb dX3_update_64 (by decide +kernel) ?_
    refine lv_idiv hx hb dX3_update_67 (by decide +kernel) ?_
    refine lv_topi (fun x_1 e_1 => ?_)
    have e_1 : x_1 = nI 0 := by refine e_1.trans ?_; rw [pk_div (by omega) (by decide) (by decide)]; congr 1; omega
    subst e_1
    refine lv_istore (lv' := [(4, .int (nI 0)), (0, .ref h0), (1, .ref q), (2, .int (nI f)), (3, .int (nI n))]) hx hb dX3_update_68 hl (by decide) rfl (fun ls hl => ?_)
    refine lv_iload_n hx hb dX3_update_70 rfl (lv_at hl 4 rfl) ?_
    refine lv_sipush (v := nI 5552) hx hb dX3_update_71 (by decide +kernel) ?_
    refine lv_irem hx hb dX3_update_74 (by decide +kernel) ?_
    refine lv_topi (fun x_2 e_2 => ?_)
    have e_2 : x_2 = nI n := by refine e_2.trans ?_; rw [pk_rem (by omega) (by decide) (by decide)]; congr 1; omega
    subst e_2
    refine lv_istore (lv' := [(5, .int (nI n)), (4, .int (nI 0)), (0, .ref h0), (1, .ref q), (2, .int (nI f)), (3, .int (nI n))]) hx hb dX3_update_75 hl (by decide) rfl (fun ls hl => ?_)
    refine lv_iload hx hb dX3_update_77 (lv_at hl 1 rfl) ?_
    obtain ⟨x4, ex4⟩ : ∃ y : Int32, y = (nI 0) + (-1) := ⟨_, rfl⟩
    refine lv_iinc (v := x4) (lv' := [(4, .int x4), (5, .int (nI n)), (0, .ref h0), (1, .ref q), (2, .int (nI f)), (3, .int (nI n))]) hx hb dX3_update_79 hl (k := 1) rfl (by rw [ex4]; rfl) (by decide) rfl (fun ls hl => ?_)
    refine lv_if_le (tgt := 166) hx hb dX3_update_82 (by decide) (fun c4 => ?_) (fun c4 => False.elim (by exact c4 (by decide +kernel)))
    refine lv_iload hx hb dX3_update_166 (lv_at hl 1 rfl) ?_
    refine lv_istore (lv' := [(6, .int (nI n)), (4, .int x4), (5, .int (nI n)), (0, .ref h0), (1, .ref q), (2, .int (nI f)), (3, .int (nI n))]) hx hb dX3_update_168 hl (by decide) rfl (fun ls hl => ?_)
    refine lv_iload_n hx hb dX3_update_170 rfl (lv_at hl 6 rfl) ?_
    refine lv_iload hx hb dX3_update_171 (lv_at hl 0 rfl) ?_
    refine lv_isub hx hb dX3_update_173 ?_
    refine lv_topi (fun x_3 e_3 => ?_)
    have e_3 : x_3 = nI 0 := by refine e_3.trans ?_; rw [pk_sub (Nat.le_refl n), Nat.sub_self]
    subst e_3
    refine lv_istore_n (lv' := [(3, .int (nI 0)), (6, .int (nI n)), (4, .int x4), (5, .int (nI n)), (0, .ref h0), (1, .ref q), (2, .int (nI f))]) hx hb dX3_update_174 rfl hl (by decide) rfl (fun ls hl => ?_)
    have hl : lv_has ls 7 [(3, .int (nI 0)), (6, .int (nI (n - 0))), (4, .int x4), (5, .int (nI n)), (0, .ref h0), (1, .ref q), (2, .int (nI (f + 0)))] := hl
    refine z_loop (σ := Unit) (n) (fun i => 0) (fun i => 0) (fun i _ H locs ls => va_P D zCl [(h0, .inr (2, [.long (lN (sj_ua g f i)), .long (lN (sj_ub g f i))])), (q, .inl (dB, 4096, .inl a))] H ∧ va_D A [(h0, .inr (2, [.long (lN (sj_ua g f i)), .long (lN (sj_ub g f i))])), (q, .inl (dB, 4096, .inl a))] ∧ va_S A s.heap H locs ∧ lv_has ls 7 [(0, .ref h0), (1, .ref q), (2, .int (nI (f + i))), (6, .int (nI (n - i)))] ∧ True) ?_ (0) () (by omega) ⟨hP.sub (ws' := [(h0, .inr (2, [.long (lN (sj_ua g f 0)), .long (lN (sj_ub g f 0))])), (q, .inl (dB, 4096, .inl a))]) [0, 1] rfl, hD.sub (ws' := [(h0, .inr (2, [.long (lN (sj_ua g f 0)), .long (lN (sj_ub g f 0))])), (q, .inl (dB, 4096, .inl a))]) [0, 1] (by decide) rfl, hS, lv_sub (l' := [(0, .ref h0), (1, .ref q), (2, .int (nI (f + 0))), (6, .int (nI (n - 0)))]) hl [4, 5, 6, 1] rfl, trivial⟩ (by omega) (by omega)
    intro i u H locs ls hi ih hI
    obtain ⟨hP, hD, hS, hl, hJ⟩ := hI
    have hP : va_P D zCl [(h0, .inr (2, [.long (lN (sj_ua g f i)), .long (lN (sj_ub g f i))])), (q, .inl (dB, 4096, .inl a))] H := hP
    have hD : va_D A [(h0, .inr (2, [.long (lN (sj_ua g f i)), .long (lN (sj_ub g f i))])), (q, .inl (dB, 4096, .inl a))] := hD
    have hl : lv_has ls 7 [(0, .ref h0), (1, .ref q), (2, .int (nI (f + i))), (6, .int (nI (n - i)))] := hl
    have hJ : True := hJ
    refine W.widen (k := 0) (n := 0) (Nat.le_refl _) (Nat.le_refl _) ?_
    refine lv_iload hx hb dX3_update_175 (lv_at hl 3 rfl) ?_
    obtain ⟨xk, exk⟩ : ∃ y : Int32, y = (nI (n - i)) + (-1) := ⟨_, rfl⟩
    refine lv_iinc (v := xk) (lv' := [(6, .int xk), (0, .ref h0), (1, .ref q), (2, .int (nI (f + i)))]) hx hb dX3_update_177 hl (k := 3) rfl (by rw [exk]; rfl) (by decide) rfl (fun ls hl => ?_)
    refine lv_if_le (tgt := 219) hx hb dX3_update_180 (by decide) (fun c1 => ?_) (fun c1 => ?_)
    · skip
      have hin9 : n = i := by
        rcases Nat.lt_or_ge i n with h | h
        · exact absurd c1 (nI_nle (by omega) (by omega))
        · omega
      have hb1 := hua i
      have hb2 := hub i (by omega)
      refine lv_aload_n hx hb dX3_update_219 rfl (lv_at hl 1 rfl) ?_
      refine lv_dup hx hb dX3_update_220 rfl ?_
      refine va_get (D := D) (ci := 2) (v := .long (lN (sj_ua g f i))) (C := RX3) (T := TX3) (N := 2) hx hb hts in_X3 hown hK hP 0 rfl rfl 0 (by decide) (hts _ q72) (fun _ h9 => h9) rfl dX3_update_221 ?_
      refine lv_ldc2 (v := 65521) hx hb hown (hts _ q83) dX3_update_224 ?_
      refine lv_lrem hx hb dX3_update_227 (by decide +kernel) ?_
      refine lv_topl (fun x_4 e_4 => ?_)
      have e_4 : x_4 = lN (sj_a g f i) := by refine e_4.trans ?_; rw [sj_a_ua]; exact zj_lmod (by omega)
      subst e_4
      refine va_put (D := D) (ci := 2) (v := .long (lN (sj_a g f i))) (ty := .long) (C := RX3) (T := TX3) (N := 2) hx hb hts in_X3 tyX3 tyX3_ok nmX3 hown hK hP hD hS 0 rfl rfl 0 (by decide) (hts _ q72) (fun _ h9 => h9) rfl (by decide +kernel) rfl rfl (Nat.le_of_ble_eq_true rfl) dX3_update_228 (fun H locs hP hD hS => ?_)
      have hP : va_P D zCl [(h0, .inr (2, [.long (lN (sj_a g f i)), .long (lN (sj_ub g f i))])), (q, .inl (dB, 4096, .inl a))] H := hP
      have hD : va_D A [(h0, .inr (2, [.long (lN (sj_a g f i)), .long (lN (sj_ub g f i))])), (q, .inl (dB, 4096, .inl a))] := hD
      refine lv_aload_n hx hb dX3_update_231 rfl (lv_at hl 1 rfl) ?_
      refine lv_dup hx hb dX3_update_232 rfl ?_
      refine va_get (D := D) (ci := 2) (v := .long (lN (sj_ub g f i))) (C := RX3) (T := TX3) (N := 2) hx hb hts in_X3 hown hK hP 0 rfl rfl 1 (by decide) (hts _ q73) (fun _ h9 => h9) rfl dX3_update_233 ?_
      refine lv_ldc2 (v := 65521) hx hb hown (hts _ q83) dX3_update_236 ?_
      refine lv_lrem hx hb dX3_update_239 (by decide +kernel) ?_
      refine lv_topl (fun x_5 e_5 => ?_)
      have e_5 : x_5 = lN (sj_b g f i) := by refine e_5.trans ?_; rw [sj_b_ub]; exact zj_lmod (by omega)
      subst e_5
      refine va_put (D := D) (ci := 2) (v := .long (lN (sj_b g f i))) (ty := .long) (C := RX3) (T := TX3) (N := 2) hx hb hts in_X3 tyX3 tyX3_ok nmX3 hown hK hP hD hS 0 rfl rfl 1 (by decide) (hts _ q73) (fun _ h9 => h9) rfl (by decide +kernel) rfl rfl (Nat.le_of_ble_eq_true rfl) dX3_update_240 (fun H locs hP hD hS => ?_)
      have hP : va_P D zCl [(h0, .inr (2, [.long (lN (sj_a g f i)), .long (lN (sj_b g f i))])), (q, .inl (dB, 4096, .inl a))] H := hP
      have hD : va_D A [(h0, .inr (2, [.long (lN (sj_a g f i)), .long (lN (sj_b g f i))])), (q, .inl (dB, 4096, .inl a))] := hD
      rw [hin9]
      have hP9 := hP.sub (ws' := [(h0, .inr (2, [.long (lN (sj_a g f i)), .long (lN (sj_b g f i))])), (q, .inl (dB, 4096, .inl a))]) [0, 1] rfl
      have hD9 := hD.sub (ws' := [(h0, .inr (2, [.long (lN (sj_a g f i)), .long (lN (sj_b g f i))])), (q, .inl (dB, 4096, .inl a))]) [0, 1] (by decide) rfl
      have hK9 := hK.sub (tys' := []) [] rfl
      exact W.vret hx hb hr (fun t ht hW => ⟨⟨(), rfl, trivial, by rw [ht]; exact hP9, va_K.moved hW.alike hK9, hD9⟩, hS.F ht⟩) hS.2.2 dX3_update_243
    · skip
      have hin9 : i < n := by
        rcases Nat.lt_or_ge i n with h | h
        · exact h
        · exfalso; apply c1; rw [show n - i = 0 by omega]; decide +kernel
      have e9 : xk = nI (n - (i + 1)) := by rw [exk, show n - i = (n - (i + 1)) + 1 by omega]; exact pk_m1 _
      rw [e9] at hl
      refine lv_aload_n hx hb dX3_update_183 rfl (lv_at hl 1 rfl) ?_
      refine lv_dup hx hb dX3_update_184 rfl ?_
      refine va_get (D := D) (ci := 2) (v := .long (lN (sj_ua g f i))) (C := RX3) (T := TX3) (N := 2) hx hb hts in_X3 hown hK hP 0 rfl rfl 0 (by decide) (hts _ q72) (fun _ h9 => h9) rfl dX3_update_185 ?_
      refine lv_aload_n hx hb dX3_update_188 rfl (lv_at hl 2 rfl) ?_
      refine lv_iload_n hx hb dX3_update_189 rfl (lv_at hl 3 rfl) ?_
      refine lv_iinc (v := nI (f + (i + 1))) (lv' := [(2, .int (nI (f + (i + 1)))), (6, .int (nI (n - (i + 1)))), (0, .ref h0), (1, .ref q)]) hx hb dX3_update_190 hl (k := 3) rfl (by exact nI_1 (f + i)) (by decide) rfl (fun ls hl => ?_)
      refine va_bald hx hb hK hP 1 0 rfl rfl (vp_in_nI (n := f + i) (by omega) (by decide)) dX3_update_193 ?_
      refine lv_topi (fun x_6 e_6 => ?_)
      have e_6 : x_6 = a (f + i) := by refine e_6.trans ?_; rw [nI_clamp (by omega)]
      subst e_6
      refine lv_sipush (v := 255) hx hb dX3_update_194 (by decide +kernel) ?_
      refine lv_iand hx hb dX3_update_197 ?_
      refine lv_topi (fun x_7 e_7 => ?_)
      have e_7 : x_7 = nI (g (f + i)) := by refine e_7.trans ?_; rw [← hgj]; exact zj_by _
      subst e_7
      refine lv_i2l hx hb dX3_update_198 rfl ?_
      refine lv_topl (fun x_8 e_8 => ?_)
      have e_8 : x_8 = lN (g (f + i)) := by refine e_8.trans ?_; exact nI_l (Nat.lt_trans (hg _) (by decide))
      subst e_8
      refine lv_ladd hx hb dX3_update_199 ?_
      refine lv_topl (fun x_9 e_9 => ?_)
      have e_9 : x_9 = lN (sj_ua g f (i + 1)) := by refine e_9.trans ?_; exact lN_add _ _
      subst e_9
      refine va_put (D := D) (ci := 2) (v := .long (lN (sj_ua g f (i + 1)))) (ty := .long) (C := RX3) (T := TX3) (N := 2) hx hb hts in_X3 tyX3 tyX3_ok nmX3 hown hK hP hD hS 0 rfl rfl 0 (by decide) (hts _ q72) (fun _ h9 => h9) rfl (by decide +kernel) rfl rfl (Nat.le_of_ble_eq_true rfl) dX3_update_200 (fun H locs hP hD hS => ?_)
      have hP : va_P D zCl [(h0, .inr (2, [.long (lN (sj_ua g f (i + 1))), .long (lN (sj_ub g f i))])), (q, .inl (dB, 4096, .inl a))] H := hP
      have hD : va_D A [(h0, .inr (2, [.long (lN (sj_ua g f (i + 1))), .long (lN (sj_ub g f i))])), (q, .inl (dB, 4096, .inl a))] := hD
      refine lv_aload_n hx hb dX3_update_203 rfl (lv_at hl 2 rfl) ?_
      refine lv_dup hx hb dX3_update_204 rfl ?_
      refine va_get (D := D) (ci := 2) (v := .long (lN (sj_ub g f i))) (C := RX3) (T := TX3) (N := 2) hx hb hts in_X3 hown hK hP 0 rfl rfl 1 (by decide) (hts _ q73) (fun _ h9 => h9) rfl dX3_update_205 ?_
      refine lv_aload_n hx hb dX3_update_208 rfl (lv_at hl 2 rfl) ?_
      refine va_get (D := D) (ci := 2) (v := .long (lN (sj_ua g f (i + 1)))) (C := RX3) (T := TX3) (N := 2) hx hb hts in_X3 hown hK hP 0 rfl rfl 0 (by decide) (hts _ q72) (fun _ h9 => h9) rfl dX3_update_209 ?_
      refine lv_ladd hx hb dX3_update_212 ?_
      refine lv_topl (fun x_10 e_10 => ?_)
      have e_10 : x_10 = lN (sj_ub g f (i + 1)) := by refine e_10.trans ?_; exact lN_add _ _
      subst e_10
      refine va_put (D := D) (ci := 2) (v := .long (lN (sj_ub g f (i + 1)))) (ty := .long) (C := RX3) (T := TX3) (N := 2) hx hb hts in_X3 tyX3 tyX3_ok nmX3 hown hK hP hD hS 0 rfl rfl 1 (by decide) (hts _ q73) (fun _ h9 => h9) rfl (by decide +kernel) rfl rfl (Nat.le_of_ble_eq_true rfl) dX3_update_213 (fun H locs hP hD hS => ?_)
      have hP : va_P D zCl [(h0, .inr (2, [.long (lN (sj_ua g f (i + 1))), .long (lN (sj_ub g f (i + 1)))])), (q, .inl (dB, 4096, .inl a))] H := hP
      have hD : va_D A [(h0, .inr (2, [.long (lN (sj_ua g f (i + 1))), .long (lN (sj_ub g f (i + 1)))])), (q, .inl (dB, 4096, .inl a))] := hD
      refine lv_goto (tgt := 175) hx hb dX3_update_216 (by decide) ?_
      refine W.widen (k := 0) (n := 0) (Nat.le_of_ble_eq_true rfl) (Nat.le_of_ble_eq_true rfl) ?_
      exact ih (by omega) () H locs ls ⟨hP.sub (ws' := [(h0, .inr (2, [.long (lN (sj_ua g f (i + 1))), .long (lN (sj_ub g f (i + 1)))])), (q, .inl (dB, 4096, .inl a))]) [0, 1] rfl, hD.sub (ws' := [(h0, .inr (2, [.long (lN (sj_ua g f (i + 1))), .long (lN (sj_ub g f (i + 1)))])), (q, .inl (dB, 4096, .inl a))]) [0, 1] (by decide) rfl, hS, lv_sub (l' := [(0, .ref h0), (1, .ref q), (2, .int (nI (f + (i + 1)))), (6, .int (nI (n - (i + 1))))]) hl [2, 3, 0, 1] rfl, trivial⟩
  · skip
    have hn1 : n = 1 := (nI_eq (by omega) (by decide)).mp c0
    have hb1 := hua 1
    have hb2 := hub 1 (by decide)
    refine lv_aload_n hx hb dX3_update_5 rfl (lv_at hl 0 rfl) ?_
    refine lv_dup hx hb dX3_update_6 rfl ?_
    refine va_get (D := D) (ci := 2) (v := .long (lN (sj_ua g f 0))) (C := RX3) (T := TX3) (N := 2) hx hb hts in_X3 hown hK hP 0 rfl rfl 0 (by decide) (hts _ q72) (fun _ h9 => h9) rfl dX3_update_7 ?_
    refine lv_aload_n hx hb dX3_update_10 rfl (lv_at hl 1 rfl) ?_
    refine lv_iload_n hx hb dX3_update_11 rfl (lv_at hl 2 rfl) ?_
    refine lv_iinc (v := nI (f + 1)) (lv' := [(2, .int (nI (f + 1))), (0, .ref h0), (1, .ref q), (3, .int (nI n))]) hx hb dX3_update_12 hl (k := 2) rfl (by exact nI_1 f) (by decide) rfl (fun ls hl => ?_)
    refine va_bald hx hb hK hP 1 0 rfl rfl (vp_in_nI (n := f) (by omega) (by decide)) dX3_update_15 ?_
    refine lv_topi (fun x_11 e_11 => ?_)
    have e_11 : x_11 = a f := by refine e_11.trans ?_; rw [nI_clamp (by omega)]
    subst e_11
    refine lv_sipush (v := 255) hx hb dX3_update_16 (by decide +kernel) ?_
    refine lv_iand hx hb dX3_update_19 ?_
    refine lv_topi (fun x_12 e_12 => ?_)
    have e_12 : x_12 = nI (g f) := by refine e_12.trans ?_; rw [← hgj]; exact zj_by _
    subst e_12
    refine lv_i2l hx hb dX3_update_20 rfl ?_
    refine lv_topl (fun x_13 e_13 => ?_)
    have e_13 : x_13 = lN (g f) := by refine e_13.trans ?_; exact nI_l (Nat.lt_trans (hg _) (by decide))
    subst e_13
    refine lv_ladd hx hb dX3_update_21 ?_
    refine lv_topl (fun x_14 e_14 => ?_)
    have e_14 : x_14 = lN (sj_ua g f 1) := by refine e_14.trans ?_; exact lN_add _ _
    subst e_14
    refine va_put (D := D) (ci := 2) (v := .long (lN (sj_ua g f 1))) (ty := .long) (C := RX3) (T := TX3) (N := 2) hx hb hts in_X3 tyX3 tyX3_ok nmX3 hown hK hP hD hS 0 rfl rfl 0 (by decide) (hts _ q72) (fun _ h9 => h9) rfl (by decide +kernel) rfl rfl (Nat.le_of_ble_eq_true rfl) dX3_update_22 (fun H locs hP hD hS => ?_)
    have hP : va_P D zCl [(h0, .inr (2, [.long (lN (sj_ua g f 1)), .long (lN (sj_ub g f 0))])), (q, .inl (dB, 4096, .inl a))] H := hP
    have hD : va_D A [(h0, .inr (2, [.long (lN (sj_ua g f 1)), .long (lN (sj_ub g f 0))])), (q, .inl (dB, 4096, .inl a))] := hD
    refine lv_aload_n hx hb dX3_update_25 rfl (lv_at hl 1 rfl) ?_
    refine lv_dup hx hb dX3_update_26 rfl ?_
    refine va_get (D := D) (ci := 2) (v := .long (lN (sj_ub g f 0))) (C := RX3) (T := TX3) (N := 2) hx hb hts in_X3 hown hK hP 0 rfl rfl 1 (by decide) (hts _ q73) (fun _ h9 => h9) rfl dX3_update_27 ?_
    refine lv_aload_n hx hb dX3_update_30 rfl (lv_at hl 1 rfl) ?_
    refine va_get (D := D) (ci := 2) (v := .long (lN (sj_ua g f 1))) (C := RX3) (T := TX3) (N := 2) hx hb hts in_X3 hown hK hP 0 rfl rfl 0 (by decide) (hts _ q72) (fun _ h9 => h9) rfl dX3_update_31 ?_
    refine lv_ladd hx hb dX3_update_34 ?_
    refine lv_topl (fun x_15 e_15 => ?_)
    have e_15 : x_15 = lN (sj_ub g f 1) := by refine e_15.trans ?_; exact lN_add _ _
    subst e_15
    refine va_put (D := D) (ci := 2) (v := .long (lN (sj_ub g f 1))) (ty := .long) (C := RX3) (T := TX3) (N := 2) hx hb hts in_X3 tyX3 tyX3_ok nmX3 hown hK hP hD hS 0 rfl rfl 1 (by decide) (hts _ q73) (fun _ h9 => h9) rfl (by decide +kernel) rfl rfl (Nat.le_of_ble_eq_true rfl) dX3_update_35 (fun H locs hP hD hS => ?_)
    have hP : va_P D zCl [(h0, .inr (2, [.long (lN (sj_ua g f 1)), .long (lN (sj_ub g f 1))])), (q, .inl (dB, 4096, .inl a))] H := hP
    have hD : va_D A [(h0, .inr (2, [.long (lN (sj_ua g f 1)), .long (lN (sj_ub g f 1))])), (q, .inl (dB, 4096, .inl a))] := hD
    refine lv_aload_n hx hb dX3_update_38 rfl (lv_at hl 1 rfl) ?_
    refine lv_dup hx hb dX3_update_39 rfl ?_
    refine va_get (D := D) (ci := 2) (v := .long (lN (sj_ua g f 1))) (C := RX3) (T := TX3) (N := 2) hx hb hts in_X3 hown hK hP 0 rfl rfl 0 (by decide) (hts _ q72) (fun _ h9 => h9) rfl dX3_update_40 ?_
    refine lv_ldc2 (v := 65521) hx hb hown (hts _ q83) dX3_update_43 ?_
    refine lv_lrem hx hb dX3_update_46 (by decide +kernel) ?_
    refine lv_topl (fun x_16 e_16 => ?_)
    have e_16 : x_16 = lN (sj_a g f 1) := by refine e_16.trans ?_; rw [sj_a_ua]; exact zj_lmod (by omega)
    subst e_16
    refine va_put (D := D) (ci := 2) (v := .long (lN (sj_a g f 1))) (ty := .long) (C := RX3) (T := TX3) (N := 2) hx hb hts in_X3 tyX3 tyX3_ok nmX3 hown hK hP hD hS 0 rfl rfl 0 (by decide) (hts _ q72) (fun _ h9 => h9) rfl (by decide +kernel) rfl rfl (Nat.le_of_ble_eq_true rfl) dX3_update_47 (fun H locs hP hD hS => ?_)
    have hP : va_P D zCl [(h0, .inr (2, [.long (lN (sj_a g f 1)), .long (lN (sj_ub g f 1))])), (q, .inl (dB, 4096, .inl a))] H := hP
    have hD : va_D A [(h0, .inr (2, [.long (lN (sj_a g f 1)), .long (lN (sj_ub g f 1))])), (q, .inl (dB, 4096, .inl a))] := hD
    refine lv_aload_n hx hb dX3_update_50 rfl (lv_at hl 1 rfl) ?_
    refine lv_dup hx hb dX3_update_51 rfl ?_
    refine va_get (D := D) (ci := 2) (v := .long (lN (sj_ub g f 1))) (C := RX3) (T := TX3) (N := 2) hx hb hts in_X3 hown hK hP 0 rfl rfl 1 (by decide) (hts _ q73) (fun _ h9 => h9) rfl dX3_update_52 ?_
    refine lv_ldc2 (v := 65521) hx hb hown (hts _ q83) dX3_update_55 ?_
    refine lv_lrem hx hb dX3_update_58 (by decide +kernel) ?_
    refine lv_topl (fun x_17 e_17 => ?_)
    have e_17 : x_17 = lN (sj_b g f 1) := by refine e_17.trans ?_; rw [sj_b_ub]; exact zj_lmod (by omega)
    subst e_17
    refine va_put (D := D) (ci := 2) (v := .long (lN (sj_b g f 1))) (ty := .long) (C := RX3) (T := TX3) (N := 2) hx hb hts in_X3 tyX3 tyX3_ok nmX3 hown hK hP hD hS 0 rfl rfl 1 (by decide) (hts _ q73) (fun _ h9 => h9) rfl (by decide +kernel) rfl rfl (Nat.le_of_ble_eq_true rfl) dX3_update_59 (fun H locs hP hD hS => ?_)
    have hP : va_P D zCl [(h0, .inr (2, [.long (lN (sj_a g f 1)), .long (lN (sj_b g f 1))])), (q, .inl (dB, 4096, .inl a))] H := hP
    have hD : va_D A [(h0, .inr (2, [.long (lN (sj_a g f 1)), .long (lN (sj_b g f 1))])), (q, .inl (dB, 4096, .inl a))] := hD
    rw [hn1]
    have hP9 := hP.sub (ws' := [(h0, .inr (2, [.long (lN (sj_a g f 1)), .long (lN (sj_b g f 1))])), (q, .inl (dB, 4096, .inl a))]) [0, 1] rfl
    have hD9 := hD.sub (ws' := [(h0, .inr (2, [.long (lN (sj_a g f 1)), .long (lN (sj_b g f 1))])), (q, .inl (dB, 4096, .inl a))]) [0, 1] (by decide) rfl
    have hK9 := hK.sub (tys' := []) [] rfl
    exact W.vret hx hb hr (fun t ht hW => ⟨⟨(), rfl, trivial, by rw [ht]; exact hP9, va_K.moved hW.alike hK9, hD9⟩, hS.F ht⟩) hS.2.2 dX3_update_62
set_option maxHeartbeats 4000000 in
set_option maxRecDepth 100000 in
/-- combine: the joined Adler-32 -/
theorem mX3_combine (l : Launch) (D : va_G) (sz : Nat) (a1 : Nat) (b1 : Nat) (a2 : Nat) (b2 : Nat) (n : Nat) (ha1 : a1 < 65521) (hb1 : b1 < 65521) (ha2 : a2 < 65521) (hb2 : b2 < 65521) (hn : n ≤ 4096) : Met l yX3_combine (ws_ yX3_combine cX3_combine 14 (some .long)) ({ frames := 0, cells := 0, slots := 0, locals := 0 }) (va_Pc [.long (lN (b1 * 65536 + a1)), .long (lN (b2 * 65536 + a2)), .long (lN n)] (zP D sz [] [] none none)) (va_Ql (fun (r : Int64) (_ : Unit) => r = lN (sj_jb a1 b1 b2 n * 65536 + sj_ja a1 a2)) (zB D (va_A [] sz) (fun (_ : Unit) => []) (fun (_ : Unit) => [])) (va_A [] sz)) 0 0 (va_A [] sz) := by
  refine Met.ofW (cc := cX3_combine) (maxL := 14) (ret := (some .long)) (by decide) rfl ?_
  intro p e s m args below meth c s₁ B hml hv
  obtain ⟨rfl, hsz, hP, hK, hD0, hX⟩ := hv
  have hx := B.exec
  have hb := B.bytes
  have hr := B.returns
  have hts := atoms_spec (ws := ws_ yX3_combine cX3_combine 14 (some .long)) B.pre
  have hts : ∀ w ∈ lw_all, w.before _ s = true := fun w h => hts w (List.mem_cons_of_mem _ h)
  have hown : s.vm.findClass RX3 = some m.cls := findClass_of_methodNamed B.named
  have hlocks := B.notSynchronized
  subst hsz
  have hD := hD0.self (sz := s.heap.size)
  generalize hAe : va_A [] s.heap.size = A at hD hX ⊢
  have hA : ∀ q : Nat, s.heap.size ≤ q → A q := fun q h => by rw [← hAe]; exact Or.inr h
  have hS : va_S A s.heap s.heap [] := va_S.rf
  have hP : va_P D zCl [] s.heap := hP
  have hl := lv_entry ([.long (lN (b1 * 65536 + a1)), .long (lN (b2 * 65536 + a2)), .long (lN n)]) (n := 14) (Nat.le_of_ble_eq_true rfl)
  rw [lg_entry_eq]
  generalize (lg_sl ([.long (lN (b1 * 65536 + a1)), .long (lN (b2 * 65536 + a2)), .long (lN n)]) ++ List.replicate (14 - (lg_sl ([.long (lN (b1 * 65536 + a1)), .long (lN (b2 * 65536 + a2)), .long (lN n)])).length) Slot.unset).toArray = ls at hl ⊢
  have hl : lv_has ls 14 [(0, .long (lN (b1 * 65536 + a1))), (2, .long (lN (b2 * 65536 + a2))), (4, .long (lN n))] := hl
  have hr0 : n % 65521 < 65521 := Nat.mod_lt _ (by decide)
  have hra : n % 65521 * a1 < 2 ^ 63 := Nat.lt_of_le_of_lt (Nat.mul_le_mul (Nat.le_of_lt hr0) (Nat.le_of_lt ha1)) (by decide)
  have hP0 : n % 65521 * a1 % 65521 < 65521 := Nat.mod_lt _ (by decide)
  refine lv_ldc2 (v := 65521) hx hb hown (hts _ q83) dX3_combine_0 ?_
  refine lv_topl (fun x_1 e_1 => ?_)
  have e_1 : x_1 = lN 65521 := by refine e_1.trans ?_; rfl
  subst e_1
  refine lv_lstore (lv' := [(6, .long (lN 65521)), (0, .long (lN (b1 * 65536 + a1))), (2, .long (lN (b2 * 65536 + a2))), (4, .long (lN n))]) hx hb dX3_combine_3 hl (by decide) rfl (fun ls hl => ?_)
  refine lv_lload hx hb dX3_combine_5 (lv_at hl 3 rfl) ?_
  refine lv_lload hx hb dX3_combine_7 (lv_at hl 0 rfl) ?_
  refine lv_lrem hx hb dX3_combine_9 (by decide +kernel) ?_
  refine lv_topl (fun x_2 e_2 => ?_)
  have e_2 : x_2 = lN (n % 65521) := by refine e_2.trans ?_; exact pk_lRem (by omega) (by decide) (by decide)
  subst e_2
  refine lv_lstore (lv' := [(12, .long (lN (n % 65521))), (6, .long (lN 65521)), (0, .long (lN (b1 * 65536 + a1))), (2, .long (lN (b2 * 65536 + a2))), (4, .long (lN n))]) hx hb dX3_combine_10 hl (by decide) rfl (fun ls hl => ?_)
  refine lv_lload_n hx hb dX3_combine_12 rfl (lv_at hl 2 rfl) ?_
  refine lv_ldc2 (v := 65535) hx hb hown (hts _ q120) dX3_combine_13 ?_
  refine lv_land hx hb dX3_combine_16 ?_
  refine lv_topl (fun x_3 e_3 => ?_)
  have e_3 : x_3 = lN a1 := by refine e_3.trans ?_; rw [zj_l16 (by omega)]; congr 1; omega
  subst e_3
  refine lv_lstore (lv' := [(8, .long (lN a1)), (12, .long (lN (n % 65521))), (6, .long (lN 65521)), (0, .long (lN (b1 * 65536 + a1))), (2, .long (lN (b2 * 65536 + a2))), (4, .long (lN n))]) hx hb dX3_combine_17 hl (by decide) rfl (fun ls hl => ?_)
  refine lv_lload hx hb dX3_combine_19 (lv_at hl 1 rfl) ?_
  refine lv_lload hx hb dX3_combine_21 (lv_at hl 0 rfl) ?_
  refine lv_lmul hx hb dX3_combine_23 ?_
  refine lv_topl (fun x_4 e_4 => ?_)
  have e_4 : x_4 = lN (n % 65521 * a1) := by refine e_4.trans ?_; exact lN_mul _ _
  subst e_4
  refine lv_lstore (lv' := [(10, .long (lN (n % 65521 * a1))), (8, .long (lN a1)), (12, .long (lN (n % 65521))), (6, .long (lN 65521)), (0, .long (lN (b1 * 65536 + a1))), (2, .long (lN (b2 * 65536 + a2))), (4, .long (lN n))]) hx hb dX3_combine_24 hl (by decide) rfl (fun ls hl => ?_)
  refine lv_lload hx hb dX3_combine_26 (lv_at hl 0 rfl) ?_
  refine lv_lload hx hb dX3_combine_28 (lv_at hl 3 rfl) ?_
  refine lv_lrem hx hb dX3_combine_30 (by decide +kernel) ?_
  refine lv_topl (fun x_5 e_5 => ?_)
  have e_5 : x_5 = lN (n % 65521 * a1 % 65521) := by refine e_5.trans ?_; exact pk_lRem hra (by decide) (by decide)
  subst e_5
  refine lv_lstore (lv' := [(10, .long (lN (n % 65521 * a1 % 65521))), (8, .long (lN a1)), (12, .long (lN (n % 65521))), (6, .long (lN 65521)), (0, .long (lN (b1 * 65536 + a1))), (2, .long (lN (b2 * 65536 + a2))), (4, .long (lN n))]) hx hb dX3_combine_31 hl (by decide) rfl (fun ls hl => ?_)
  refine lv_lload hx hb dX3_combine_33 (lv_at hl 1 rfl) ?_
  refine lv_lload_n hx hb dX3_combine_35 rfl (lv_at hl 5 rfl) ?_
  refine lv_ldc2 (v := 65535) hx hb hown (hts _ q120) dX3_combine_36 ?_
  refine lv_land hx hb dX3_combine_39 ?_
  refine lv_topl (fun x_6 e_6 => ?_)
  have e_6 : x_6 = lN a2 := by refine e_6.trans ?_; rw [zj_l16 (by omega)]; congr 1; omega
  subst e_6
  refine lv_lload hx hb dX3_combine_40 (lv_at hl 3 rfl) ?_
  refine lv_ladd hx hb dX3_combine_42 ?_
  refine lv_topl (fun x_7 e_7 => ?_)
  have e_7 : x_7 = lN (a2 + 65521) := by refine e_7.trans ?_; exact lN_add _ _
  subst e_7
  refine lv_lconst (v := lN 1) hx hb dX3_combine_43 (by rfl) ?_
  refine lv_lsub hx hb dX3_combine_44 ?_
  refine lv_topl (fun x_8 e_8 => ?_)
  have e_8 : x_8 = lN (a2 + 65521 - 1) := by refine e_8.trans ?_; exact lN_sub (by omega)
  subst e_8
  refine lv_ladd hx hb dX3_combine_45 ?_
  refine lv_topl (fun x_9 e_9 => ?_)
  have e_9 : x_9 = lN (a1 + (a2 + 65521 - 1)) := by refine e_9.trans ?_; exact lN_add _ _
  subst e_9
  refine lv_lstore (lv' := [(8, .long (lN (a1 + (a2 + 65521 - 1)))), (10, .long (lN (n % 65521 * a1 % 65521))), (12, .long (lN (n % 65521))), (6, .long (lN 65521)), (0, .long (lN (b1 * 65536 + a1))), (2, .long (lN (b2 * 65536 + a2))), (4, .long (lN n))]) hx hb dX3_combine_46 hl (by decide) rfl (fun ls hl => ?_)
  refine lv_lload hx hb dX3_combine_48 (lv_at hl 1 rfl) ?_
  refine lv_lload_n hx hb dX3_combine_50 rfl (lv_at hl 4 rfl) ?_
  refine lv_bipush (v := 16) hx hb dX3_combine_51 (by decide +kernel) ?_
  refine lv_lshr hx hb dX3_combine_53 rfl ?_
  refine lv_topl (fun x_10 e_10 => ?_)
  have e_10 : x_10 = lN b1 := by refine e_10.trans ?_; rw [zj_lsr16 (by omega)]; congr 1; omega
  subst e_10
  refine lv_ldc2 (v := 65535) hx hb hown (hts _ q120) dX3_combine_54 ?_
  refine lv_land hx hb dX3_combine_57 ?_
  refine lv_topl (fun x_11 e_11 => ?_)
  have e_11 : x_11 = lN b1 := by refine e_11.trans ?_; rw [zj_l16 (by omega)]; congr 1; omega
  subst e_11
  refine lv_lload_n hx hb dX3_combine_58 rfl (lv_at hl 5 rfl) ?_
  refine lv_bipush (v := 16) hx hb dX3_combine_59 (by decide +kernel) ?_
  refine lv_lshr hx hb dX3_combine_61 rfl ?_
  refine lv_topl (fun x_12 e_12 => ?_)
  have e_12 : x_12 = lN b2 := by refine e_12.trans ?_; rw [zj_lsr16 (by omega)]; congr 1; omega
  subst e_12
  refine lv_ldc2 (v := 65535) hx hb hown (hts _ q120) dX3_combine_62 ?_
  refine lv_land hx hb dX3_combine_65 ?_
  refine lv_topl (fun x_13 e_13 => ?_)
  have e_13 : x_13 = lN b2 := by refine e_13.trans ?_; rw [zj_l16 (by omega)]; congr 1; omega
  subst e_13
  refine lv_ladd hx hb dX3_combine_66 ?_
  refine lv_topl (fun x_14 e_14 => ?_)
  have e_14 : x_14 = lN (b1 + b2) := by refine e_14.trans ?_; exact lN_add _ _
  subst e_14
  refine lv_lload hx hb dX3_combine_67 (lv_at hl 3 rfl) ?_
  refine lv_ladd hx hb dX3_combine_69 ?_
  refine lv_topl (fun x_15 e_15 => ?_)
  have e_15 : x_15 = lN (b1 + b2 + 65521) := by refine e_15.trans ?_; exact lN_add _ _
  subst e_15
  refine lv_lload hx hb dX3_combine_70 (lv_at hl 2 rfl) ?_
  refine lv_lsub hx hb dX3_combine_72 ?_
  refine lv_topl (fun x_16 e_16 => ?_)
  have e_16 : x_16 = lN (b1 + b2 + 65521 - n % 65521) := by refine e_16.trans ?_; exact lN_sub (by omega)
  subst e_16
  refine lv_ladd hx hb dX3_combine_73 ?_
  refine lv_topl (fun x_17 e_17 => ?_)
  have e_17 : x_17 = lN (n % 65521 * a1 % 65521 + (b1 + b2 + 65521 - n % 65521)) := by refine e_17.trans ?_; exact lN_add _ _
  subst e_17
  refine lv_lstore (lv' := [(10, .long (lN (n % 65521 * a1 % 65521 + (b1 + b2 + 65521 - n % 65521)))), (8, .long (lN (a1 + (a2 + 65521 - 1)))), (12, .long (lN (n % 65521))), (6, .long (lN 65521)), (0, .long (lN (b1 * 65536 + a1))), (2, .long (lN (b2 * 65536 + a2))), (4, .long (lN n))]) hx hb dX3_combine_74 hl (by decide) rfl (fun ls hl => ?_)
  generalize hSA : a1 + (a2 + 65521 - 1) = SA at hl
  generalize hSB : n % 65521 * a1 % 65521 + (b1 + b2 + 65521 - n % 65521) = SB at hl
  have hja : sj_ja a1 a2 = sj_red1 (sj_red1 SA) := by rw [← hSA]; rfl
  have hjb : sj_jb a1 b1 b2 n = sj_red1 (sj_red2 SB) := by rw [← hSB]; rfl
  have hSA1 : SA < 262144 := by omega
  have hSB1 : SB < 262144 := by omega
  have hred1 : ∀ x, sj_red1 x ≤ x := fun x => by unfold sj_red1; split <;> omega
  have hred2 : ∀ x, sj_red2 x ≤ x := fun x => by unfold sj_red2; split <;> omega
  have hl : lv_has ls 14 [(10, .long (lN SB)), (8, .long (lN SA)), (12, .long (lN (n % 65521))), (6, .long (lN 65521)), (0, .long (lN (b1 * 65536 + a1))), (2, .long (lN (b2 * 65536 + a2))), (4, .long (lN n))] := hl
  refine z_join (pc1 := 91) (st := []) (fun ls => lv_has ls 14 [(10, .long (lN SB)), (8, .long (lN (sj_red1 SA))), (6, .long (lN 65521))]) (fun hj => ?_) (fun ls hl => ?_)
  · skip
    refine lv_lload hx hb dX3_combine_76 (lv_at hl 1 rfl) ?_
    refine lv_lload hx hb dX3_combine_78 (lv_at hl 3 rfl) ?_
    refine W.lcmp hx hb dX3_combine_80 ?_
    refine lv_if_lt (tgt := 91) hx hb dX3_combine_81 (by decide) (fun cr => ?_) (fun cr => ?_)
    · skip
      have cr1 : SA < 65521 := (zj_ll (a := SA) (b := 65521) (by have := hred1 SA; have := hred2 SB; omega) (by decide)).mp cr
      have er : sj_red1 SA = SA := if_neg (by omega)
      exact hj ls (by show lv_has ls 14 [(10, .long (lN SB)), (8, .long (lN (sj_red1 SA))), (6, .long (lN 65521))]; rw [er]; exact lv_sub hl [0, 1, 3] rfl)
    · skip
      have cr1 : ¬ SA < 65521 := fun h9 => cr ((zj_ll (a := SA) (b := 65521) (by have := hred1 SA; have := hred2 SB; omega) (by decide)).mpr h9)
      have er : sj_red1 SA = SA - 65521 := if_pos (by omega)
      refine lv_lload hx hb dX3_combine_84 (lv_at hl 1 rfl) ?_
      refine lv_lload hx hb dX3_combine_86 (lv_at hl 3 rfl) ?_
      refine lv_lsub hx hb dX3_combine_88 ?_
      refine lv_topl (fun x_18 e_18 => ?_)
      have e_18 : x_18 = lN (sj_red1 SA) := by refine e_18.trans ?_; rw [er]; exact lN_sub (by omega)
      subst e_18
      refine lv_lstore (lv' := [(8, .long (lN (sj_red1 SA))), (10, .long (lN SB)), (12, .long (lN (n % 65521))), (6, .long (lN 65521)), (0, .long (lN (b1 * 65536 + a1))), (2, .long (lN (b2 * 65536 + a2))), (4, .long (lN n))]) hx hb dX3_combine_89 hl (by decide) rfl (fun ls hl => ?_)
      exact hj ls (by show lv_has ls 14 [(10, .long (lN SB)), (8, .long (lN (sj_red1 SA))), (6, .long (lN 65521))]; exact lv_sub hl [1, 0, 3] rfl)
  · skip
    refine z_join (pc1 := 106) (st := []) (fun ls => lv_has ls 14 [(10, .long (lN SB)), (8, .long (lN (sj_red1 (sj_red1 SA)))), (6, .long (lN 65521))]) (fun hj => ?_) (fun ls hl => ?_)
    · skip
      refine lv_lload hx hb dX3_combine_91 (lv_at hl 1 rfl) ?_
      refine lv_lload hx hb dX3_combine_93 (lv_at hl 2 rfl) ?_
      refine W.lcmp hx hb dX3_combine_95 ?_
      refine lv_if_lt (tgt := 106) hx hb dX3_combine_96 (by decide) (fun cr => ?_) (fun cr => ?_)
      · skip
        have cr1 : (sj_red1 SA) < 65521 := (zj_ll (a := sj_red1 SA) (b := 65521) (by have := hred1 SA; have := hred2 SB; omega) (by decide)).mp cr
        have er : sj_red1 (sj_red1 SA) = sj_red1 SA := if_neg (by omega)
        exact hj ls (by show lv_has ls 14 [(10, .long (lN SB)), (8, .long (lN (sj_red1 (sj_red1 SA)))), (6, .long (lN 65521))]; rw [er]; exact lv_sub hl [0, 1, 2] rfl)
      · skip
        have cr1 : ¬ (sj_red1 SA) < 65521 := fun h9 => cr ((zj_ll (a := sj_red1 SA) (b := 65521) (by have := hred1 SA; have := hred2 SB; omega) (by decide)).mpr h9)
        have er : sj_red1 (sj_red1 SA) = sj_red1 SA - 65521 := if_pos (by omega)
        refine lv_lload hx hb dX3_combine_99 (lv_at hl 1 rfl) ?_
        refine lv_lload hx hb dX3_combine_101 (lv_at hl 2 rfl) ?_
        refine lv_lsub hx hb dX3_combine_103 ?_
        refine lv_topl (fun x_19 e_19 => ?_)
        have e_19 : x_19 = lN (sj_red1 (sj_red1 SA)) := by refine e_19.trans ?_; rw [er]; exact lN_sub (by omega)
        subst e_19
        refine lv_lstore (lv' := [(8, .long (lN (sj_red1 (sj_red1 SA)))), (10, .long (lN SB)), (6, .long (lN 65521))]) hx hb dX3_combine_104 hl (by decide) rfl (fun ls hl => ?_)
        exact hj ls (by show lv_has ls 14 [(10, .long (lN SB)), (8, .long (lN (sj_red1 (sj_red1 SA)))), (6, .long (lN 65521))]; exact lv_sub hl [1, 0, 2] rfl)
    · skip
      refine z_join (pc1 := 125) (st := []) (fun ls => lv_has ls 14 [(10, .long (lN (sj_red2 SB))), (8, .long (lN (sj_red1 (sj_red1 SA)))), (6, .long (lN 65521))]) (fun hj => ?_) (fun ls hl => ?_)
      · skip
        refine lv_lload hx hb dX3_combine_106 (lv_at hl 0 rfl) ?_
        refine lv_lload hx hb dX3_combine_108 (lv_at hl 2 rfl) ?_
        refine lv_iconst (v := 1) hx hb dX3_combine_110 (by decide) ?_
        refine lv_lshl hx hb dX3_combine_111 rfl ?_
        refine lv_topl (fun x_20 e_20 => ?_)
        have e_20 : x_20 = lN 131042 := by refine e_20.trans ?_; exact zj_shl1 65521
        subst e_20
        refine W.lcmp hx hb dX3_combine_112 ?_
        refine lv_if_lt (tgt := 125) hx hb dX3_combine_113 (by decide) (fun cr => ?_) (fun cr => ?_)
        · skip
          have cr1 : SB < 131042 := (zj_ll (a := SB) (b := 131042) (by have := hred1 SA; have := hred2 SB; omega) (by decide)).mp cr
          have er : sj_red2 SB = SB := if_neg (by omega)
          exact hj ls (by show lv_has ls 14 [(10, .long (lN (sj_red2 SB))), (8, .long (lN (sj_red1 (sj_red1 SA)))), (6, .long (lN 65521))]; rw [er]; exact lv_sub hl [0, 1, 2] rfl)
        · skip
          have cr1 : ¬ SB < 131042 := fun h9 => cr ((zj_ll (a := SB) (b := 131042) (by have := hred1 SA; have := hred2 SB; omega) (by decide)).mpr h9)
          have er : sj_red2 SB = SB - 131042 := if_pos (by omega)
          refine lv_lload hx hb dX3_combine_116 (lv_at hl 0 rfl) ?_
          refine lv_lload hx hb dX3_combine_118 (lv_at hl 2 rfl) ?_
          refine lv_iconst (v := 1) hx hb dX3_combine_120 (by decide) ?_
          refine lv_lshl hx hb dX3_combine_121 rfl ?_
          refine lv_topl (fun x_21 e_21 => ?_)
          have e_21 : x_21 = lN 131042 := by refine e_21.trans ?_; exact zj_shl1 65521
          subst e_21
          refine lv_lsub hx hb dX3_combine_122 ?_
          refine lv_topl (fun x_22 e_22 => ?_)
          have e_22 : x_22 = lN (sj_red2 SB) := by refine e_22.trans ?_; rw [er]; exact lN_sub (by omega)
          subst e_22
          refine lv_lstore (lv' := [(10, .long (lN (sj_red2 SB))), (8, .long (lN (sj_red1 (sj_red1 SA)))), (6, .long (lN 65521))]) hx hb dX3_combine_123 hl (by decide) rfl (fun ls hl => ?_)
          exact hj ls (by show lv_has ls 14 [(10, .long (lN (sj_red2 SB))), (8, .long (lN (sj_red1 (sj_red1 SA)))), (6, .long (lN 65521))]; exact lv_sub hl [0, 1, 2] rfl)
      · skip
        refine z_join (pc1 := 140) (st := []) (fun ls => lv_has ls 14 [(10, .long (lN (sj_red1 (sj_red2 SB)))), (8, .long (lN (sj_red1 (sj_red1 SA)))), (6, .long (lN 65521))]) (fun hj => ?_) (fun ls hl => ?_)
        · skip
          refine lv_lload hx hb dX3_combine_125 (lv_at hl 0 rfl) ?_
          refine lv_lload hx hb dX3_combine_127 (lv_at hl 2 rfl) ?_
          refine W.lcmp hx hb dX3_combine_129 ?_
          refine lv_if_lt (tgt := 140) hx hb dX3_combine_130 (by decide) (fun cr => ?_) (fun cr => ?_)
          · skip
            have cr1 : (sj_red2 SB) < 65521 := (zj_ll (a := sj_red2 SB) (b := 65521) (by have := hred1 SA; have := hred2 SB; omega) (by decide)).mp cr
            have er : sj_red1 (sj_red2 SB) = sj_red2 SB := if_neg (by omega)
            exact hj ls (by show lv_has ls 14 [(10, .long (lN (sj_red1 (sj_red2 SB)))), (8, .long (lN (sj_red1 (sj_red1 SA)))), (6, .long (lN 65521))]; rw [er]; exact lv_sub hl [0, 1, 2] rfl)
          · skip
            have cr1 : ¬ (sj_red2 SB) < 65521 := fun h9 => cr ((zj_ll (a := sj_red2 SB) (b := 65521) (by have := hred1 SA; have := hred2 SB; omega) (by decide)).mpr h9)
            have er : sj_red1 (sj_red2 SB) = sj_red2 SB - 65521 := if_pos (by omega)
            refine lv_lload hx hb dX3_combine_133 (lv_at hl 0 rfl) ?_
            refine lv_lload hx hb dX3_combine_135 (lv_at hl 2 rfl) ?_
            refine lv_lsub hx hb dX3_combine_137 ?_
            refine lv_topl (fun x_23 e_23 => ?_)
            have e_23 : x_23 = lN (sj_red1 (sj_red2 SB)) := by refine e_23.trans ?_; rw [er]; exact lN_sub (by omega)
            subst e_23
            refine lv_lstore (lv' := [(10, .long (lN (sj_red1 (sj_red2 SB)))), (8, .long (lN (sj_red1 (sj_red1 SA)))), (6, .long (lN 65521))]) hx hb dX3_combine_138 hl (by decide) rfl (fun ls hl => ?_)
            exact hj ls (by show lv_has ls 14 [(10, .long (lN (sj_red1 (sj_red2 SB)))), (8, .long (lN (sj_red1 (sj_red1 SA)))), (6, .long (lN 65521))]; exact lv_sub hl [0, 1, 2] rfl)
        · skip
          rw [← hja, ← hjb] at hl
          have hlA := sj_ja_lt ha1 ha2
          have hlB := sj_jb_lt (a1 := a1) (n := n) hb1 hb2
          refine lv_lload hx hb dX3_combine_140 (lv_at hl 1 rfl) ?_
          refine lv_lload hx hb dX3_combine_142 (lv_at hl 0 rfl) ?_
          refine lv_bipush (v := 16) hx hb dX3_combine_144 (by decide +kernel) ?_
          refine lv_lshl hx hb dX3_combine_146 rfl ?_
          refine lv_topl (fun x_24 e_24 => ?_)
          have e_24 : x_24 = lN (sj_jb a1 b1 b2 n * 65536) := by refine e_24.trans ?_; exact zj_shl16 _
          subst e_24
          refine lv_lor hx hb dX3_combine_147 ?_
          refine lv_topl (fun x_25 e_25 => ?_)
          have e_25 : x_25 = lN (sj_jb a1 b1 b2 n * 65536 + sj_ja a1 a2) := by refine e_25.trans ?_; exact zj_or' (by omega) (by omega)
          subst e_25
          have hP9 := hP.sub (ws' := []) [] rfl
          have hD9 := hD.sub (ws' := []) [] (by decide) rfl
          have hK9 := hK.sub (tys' := []) [] rfl
          exact W.lret (v := (lN (sj_jb a1 b1 b2 n * 65536 + sj_ja a1 a2))) hx hb hr (fun t ht hW => ⟨⟨(lN (sj_jb a1 b1 b2 n * 65536 + sj_ja a1 a2)), (), rfl, rfl, by rw [ht]; exact hP9, va_K.moved hW.alike hK9, hD9⟩, hS.F ht⟩) hS.2.2 dX3_combine_148
end
section
/-! SUMJOIN: contracts -/
set_option maxHeartbeats 4000000 in
set_option maxRecDepth 100000 in
/-- SumJoin(): an empty text -/
theorem mX1_init (l : Launch) (D : va_G) (sz : Nat) (h0 : Nat) : Met l yX1_init (ws_ yX1_init cX1_init 1 none) ({ frames := 1, cells := 1, slots := 4096, locals := 12 }) (va_Pc [.ref h0] (zP D sz [(h0, .inr (0, [.null, .int 0]))] [] none none)) (va_Qv (fun (u : Nat × ClassId) => True) (zB D (va_A [(h0, .inr (0, [.null, .int 0]))] sz) (fun (u : Nat × ClassId) => [(h0, .inr (0, [.ref u.1, .int (nI 0)])), (u.1, .inl (u.2, 4096, .inl (fun _ => 0)))]) (fun (u : Nat × ClassId) => [(u.2, .byte)])) (va_A [(h0, .inr (0, [.null, .int 0]))] sz)) 1 4096 (va_A [(h0, .inr (0, [.null, .int 0]))] sz) := by
  refine Met.ofW (cc := cX1_init) (maxL := 1) (ret := none) (by decide) rfl ?_
  intro p e s m args below meth c s₁ B hml hv
  obtain ⟨rfl, hsz, hP, hK, hD0, hX⟩ := hv
  have hx := B.exec
  have hb := B.bytes
  have hr := B.returns
  have hts := atoms_spec (ws := ws_ yX1_init cX1_init 1 none) B.pre
  have hts : ∀ w ∈ lw_all, w.before _ s = true := fun w h => hts w (List.mem_cons_of_mem _ h)
  have hown : s.vm.findClass RX1 = some m.cls := findClass_of_methodNamed B.named
  have hlocks := B.notSynchronized
  have hin : meth.name = "<init>" := (name_of_methodNamed B.named B.method).1
  subst hsz
  have hD := hD0.self (sz := s.heap.size)
  generalize hAe : va_A [(h0, .inr (0, [.null, .int 0]))] s.heap.size = A at hD hX ⊢
  have hA : ∀ q : Nat, s.heap.size ≤ q → A q := fun q h => by rw [← hAe]; exact Or.inr h
  have hS : va_S A s.heap s.heap [] := va_S.rf
  have hP : va_P D zCl [(h0, .inr (0, [.null, .int 0]))] s.heap := hP
  have hl := lv_entry ([.ref h0]) (n := 1) (Nat.le_of_ble_eq_true rfl)
  rw [lg_entry_eq]
  generalize (lg_sl ([.ref h0]) ++ List.replicate (1 - (lg_sl ([.ref h0])).length) Slot.unset).toArray = ls at hl ⊢
  have hl : lv_has ls 1 [(0, .ref h0)] := hl
  refine lv_aload_n hx hb dX1_init_0 rfl (lv_at hl 0 rfl) ?_
  refine W.objInit hx hb hown (hts _ q18) (hts _ q19) (hts _ q20) rfl (by rw [hml]; exact hl.1) rfl dX1_init_1 (Nat.le_of_ble_eq_true rfl) (Nat.le_of_ble_eq_true rfl) ?_
  refine W.eq (g2 := F0 m 4 ls []) rfl ?_
  refine lv_aload_n hx hb dX1_init_4 rfl (lv_at hl 0 rfl) ?_
  refine lv_sipush (v := 4096) hx hb dX1_init_5 (by decide +kernel) ?_
  refine va_newa (atype := .byte) (ty := .byte) (N' := 4096) (a0 := (4096, .inl (fun _ => 0))) hx hb (hts _ q28) rfl hK hP hD hS hA (fun _ => rfl) (by decide) (by decide +kernel) (Nat.le_of_ble_eq_true rfl) (Nat.le_of_ble_eq_true rfl) (Nat.le_of_ble_eq_true rfl) dX1_init_8 (fun q1 d1 H hK hP hD hS => ?_)
  have hK : va_K D zCl [(d1, .byte)] s := hK
  have hP : va_P D zCl [(h0, .inr (0, [.null, .int 0])), (q1, .inl (d1, 4096, .inl (fun _ => 0)))] H := hP
  have hD : va_D A [(h0, .inr (0, [.null, .int 0])), (q1, .inl (d1, 4096, .inl (fun _ => 0)))] := hD
  refine va_putF (D := D) (ci := 0) (v := .ref q1) (ty := .array .byte) (C := RX1) (T := TX1) (N := 2) hx hb hts in_X1 tyX1 tyX1_ok nmX1 hown hK hP hD hS 0 rfl rfl 0 (by decide) (hts _ q21) (fun _ h9 => h9) rfl hin rfl (by decide +kernel) rfl rfl (Nat.le_of_ble_eq_true rfl) dX1_init_10 (fun H locs hP hD hS => ?_)
  have hP : va_P D zCl [(h0, .inr (0, [.ref q1, .int 0])), (q1, .inl (d1, 4096, .inl (fun _ => 0)))] H := hP
  have hD : va_D A [(h0, .inr (0, [.ref q1, .int 0])), (q1, .inl (d1, 4096, .inl (fun _ => 0)))] := hD
  have hP : va_P D zCl [(h0, .inr (0, [.ref q1, .int (nI 0)])), (q1, .inl (d1, 4096, .inl (fun _ => 0)))] H := hP
  have hD : va_D A [(h0, .inr (0, [.ref q1, .int (nI 0)])), (q1, .inl (d1, 4096, .inl (fun _ => 0)))] := hD
  have hP9 := hP.sub (ws' := [(h0, .inr (0, [.ref q1, .int (nI 0)])), (q1, .inl (d1, 4096, .inl (fun _ => 0)))]) [0, 1] rfl
  have hD9 := hD.sub (ws' := [(h0, .inr (0, [.ref q1, .int (nI 0)])), (q1, .inl (d1, 4096, .inl (fun _ => 0)))]) [0, 1] (by decide) rfl
  have hK9 := hK.sub (tys' := [(d1, .byte)]) [0] rfl
  exact W.vret hx hb hr (fun t ht hW => ⟨⟨(q1, d1), rfl, trivial, by rw [ht]; exact hP9, va_K.moved hW.alike hK9, hD9⟩, hS.F ht⟩) hS.2.2 dX1_init_13
set_option maxHeartbeats 4000000 in
set_option maxRecDepth 100000 in
/-- size() -/
theorem mX1_size (l : Launch) (D : va_G) (sz : Nat) (h0 : Nat) (q : Nat) (n : Nat) : Met l yX1_size (ws_ yX1_size cX1_size 1 (some .int)) ({ frames := 0, cells := 0, slots := 0, locals := 0 }) (va_Pc [.ref h0] (zP D sz [(h0, .inr (0, [.ref q, .int (nI n)]))] [] none none)) (va_Qi (fun (r : Int32) (_ : Unit) => r = nI n) (zB D (va_A [(h0, .inr (0, [.ref q, .int (nI n)]))] sz) (fun (_ : Unit) => [(h0, .inr (0, [.ref q, .int (nI n)]))]) (fun (_ : Unit) => [])) (va_A [(h0, .inr (0, [.ref q, .int (nI n)]))] sz)) 0 0 (va_A [(h0, .inr (0, [.ref q, .int (nI n)]))] sz) := by
  refine Met.ofW (cc := cX1_size) (maxL := 1) (ret := (some .int)) (by decide) rfl ?_
  intro p e s m args below meth c s₁ B hml hv
  obtain ⟨rfl, hsz, hP, hK, hD0, hX⟩ := hv
  have hx := B.exec
  have hb := B.bytes
  have hr := B.returns
  have hts := atoms_spec (ws := ws_ yX1_size cX1_size 1 (some .int)) B.pre
  have hts : ∀ w ∈ lw_all, w.before _ s = true := fun w h => hts w (List.mem_cons_of_mem _ h)
  have hown : s.vm.findClass RX1 = some m.cls := findClass_of_methodNamed B.named
  have hlocks := B.notSynchronized
  subst hsz
  have hD := hD0.self (sz := s.heap.size)
  generalize hAe : va_A [(h0, .inr (0, [.ref q, .int (nI n)]))] s.heap.size = A at hD hX ⊢
  have hA : ∀ q : Nat, s.heap.size ≤ q → A q := fun q h => by rw [← hAe]; exact Or.inr h
  have hS : va_S A s.heap s.heap [] := va_S.rf
  have hP : va_P D zCl [(h0, .inr (0, [.ref q, .int (nI n)]))] s.heap := hP
  have hl := lv_entry ([.ref h0]) (n := 1) (Nat.le_of_ble_eq_true rfl)
  rw [lg_entry_eq]
  generalize (lg_sl ([.ref h0]) ++ List.replicate (1 - (lg_sl ([.ref h0])).length) Slot.unset).toArray = ls at hl ⊢
  have hl : lv_has ls 1 [(0, .ref h0)] := hl
  refine lv_aload_n hx hb dX1_size_0 rfl (lv_at hl 0 rfl) ?_
  refine va_get (D := D) (ci := 0) (v := .int (nI n)) (C := RX1) (T := TX1) (N := 2) hx hb hts in_X1 hown hK hP 0 rfl rfl 1 (by decide) (hts _ q22) (fun _ h9 => h9) rfl dX1_size_1 ?_
  have hP9 := hP.sub (ws' := [(h0, .inr (0, [.ref q, .int (nI n)]))]) [0] rfl
  have hD9 := hD.sub (ws' := [(h0, .inr (0, [.ref q, .int (nI n)]))]) [0] (by decide) rfl
  have hK9 := hK.sub (tys' := []) [] rfl
  exact W.iret (v := (nI n)) hx hb hr (fun t ht hW => ⟨⟨(nI n), (), rfl, rfl, by rw [ht]; exact hP9, va_K.moved hW.alike hK9, hD9⟩, hS.F ht⟩) hS.2.2 dX1_size_4
set_option maxHeartbeats 4000000 in
set_option maxRecDepth 100000 in
/-- from(x) -/
theorem mX1_from (l : Launch) (D : va_G) (sz : Nat) (h0 : Nat) (q : Nat) (n : Nat) (x : Int32) (hn : n ≤ 4096) : Met l yX1_from (ws_ yX1_from cX1_from 2 (some .int)) ({ frames := 0, cells := 0, slots := 0, locals := 0 }) (va_Pc [.ref h0, .int x] (zP D sz [(h0, .inr (0, [.ref q, .int (nI n)]))] [] none none)) (va_Qi (fun (r : Int32) (_ : Unit) => r = nI (sj_pos x % (n + 1))) (zB D (va_A [(h0, .inr (0, [.ref q, .int (nI n)]))] sz) (fun (_ : Unit) => [(h0, .inr (0, [.ref q, .int (nI n)]))]) (fun (_ : Unit) => [])) (va_A [(h0, .inr (0, [.ref q, .int (nI n)]))] sz)) 0 0 (va_A [(h0, .inr (0, [.ref q, .int (nI n)]))] sz) := by
  refine Met.ofW (cc := cX1_from) (maxL := 2) (ret := (some .int)) (by decide) rfl ?_
  intro p e s m args below meth c s₁ B hml hv
  obtain ⟨rfl, hsz, hP, hK, hD0, hX⟩ := hv
  have hx := B.exec
  have hb := B.bytes
  have hr := B.returns
  have hts := atoms_spec (ws := ws_ yX1_from cX1_from 2 (some .int)) B.pre
  have hts : ∀ w ∈ lw_all, w.before _ s = true := fun w h => hts w (List.mem_cons_of_mem _ h)
  have hown : s.vm.findClass RX1 = some m.cls := findClass_of_methodNamed B.named
  have hlocks := B.notSynchronized
  subst hsz
  have hD := hD0.self (sz := s.heap.size)
  generalize hAe : va_A [(h0, .inr (0, [.ref q, .int (nI n)]))] s.heap.size = A at hD hX ⊢
  have hA : ∀ q : Nat, s.heap.size ≤ q → A q := fun q h => by rw [← hAe]; exact Or.inr h
  have hS : va_S A s.heap s.heap [] := va_S.rf
  have hP : va_P D zCl [(h0, .inr (0, [.ref q, .int (nI n)]))] s.heap := hP
  have hl := lv_entry ([.ref h0, .int x]) (n := 2) (Nat.le_of_ble_eq_true rfl)
  rw [lg_entry_eq]
  generalize (lg_sl ([.ref h0, .int x]) ++ List.replicate (2 - (lg_sl ([.ref h0, .int x])).length) Slot.unset).toArray = ls at hl ⊢
  have hl : lv_has ls 2 [(0, .ref h0), (1, .int x)] := hl
  refine lv_iload_n hx hb dX1_from_0 rfl (lv_at hl 1 rfl) ?_
  refine lv_ldc (v := 2147483647) hx hb hown (hts _ q37) dX1_from_1 ?_
  refine lv_iand hx hb dX1_from_3 ?_
  refine lv_topi (fun x_1 e_1 => ?_)
  have e_1 : x_1 = nI (sj_pos x) := by refine e_1.trans ?_; exact zj_pos x
  subst e_1
  refine lv_aload_n hx hb dX1_from_4 rfl (lv_at hl 0 rfl) ?_
  refine va_get (D := D) (ci := 0) (v := .int (nI n)) (C := RX1) (T := TX1) (N := 2) hx hb hts in_X1 hown hK hP 0 rfl rfl 1 (by decide) (hts _ q22) (fun _ h9 => h9) rfl dX1_from_5 ?_
  refine lv_iconst (v := 1) hx hb dX1_from_8 (by decide) ?_
  refine lv_iadd hx hb dX1_from_9 ?_
  refine lv_topi (fun x_2 e_2 => ?_)
  have e_2 : x_2 = nI (n + 1) := by refine e_2.trans ?_; exact nI_1 n
  subst e_2
  refine lv_irem hx hb dX1_from_10 (nI_ne0 (by omega) (by omega)) ?_
  refine lv_topi (fun x_3 e_3 => ?_)
  have e_3 : x_3 = nI (sj_pos x % (n + 1)) := by refine e_3.trans ?_; exact pk_rem (sj_pos_lt x) (by omega) (by omega)
  subst e_3
  have hP9 := hP.sub (ws' := [(h0, .inr (0, [.ref q, .int (nI n)]))]) [0] rfl
  have hD9 := hD.sub (ws' := [(h0, .inr (0, [.ref q, .int (nI n)]))]) [0] (by decide) rfl
  have hK9 := hK.sub (tys' := []) [] rfl
  exact W.iret (v := (nI (sj_pos x % (n + 1)))) hx hb hr (fun t ht hW => ⟨⟨(nI (sj_pos x % (n + 1))), (), rfl, rfl, by rw [ht]; exact hP9, va_K.moved hW.alike hK9, hD9⟩, hS.F ht⟩) hS.2.2 dX1_from_11
set_option maxHeartbeats 4000000 in
set_option maxRecDepth 100000 in
/-- count(f, x) -/
theorem mX1_count (l : Launch) (D : va_G) (sz : Nat) (h0 : Nat) (q : Nat) (n : Nat) (f : Nat) (x : Int32) (hn : n ≤ 4096) (hf : f ≤ n) : Met l yX1_count (ws_ yX1_count cX1_count 3 (some .int)) ({ frames := 0, cells := 0, slots := 0, locals := 0 }) (va_Pc [.ref h0, .int (nI f), .int x] (zP D sz [(h0, .inr (0, [.ref q, .int (nI n)]))] [] none none)) (va_Qi (fun (r : Int32) (_ : Unit) => r = nI (sj_pos x % (n - f + 1))) (zB D (va_A [(h0, .inr (0, [.ref q, .int (nI n)]))] sz) (fun (_ : Unit) => [(h0, .inr (0, [.ref q, .int (nI n)]))]) (fun (_ : Unit) => [])) (va_A [(h0, .inr (0, [.ref q, .int (nI n)]))] sz)) 0 0 (va_A [(h0, .inr (0, [.ref q, .int (nI n)]))] sz) := by
  refine Met.ofW (cc := cX1_count) (maxL := 3) (ret := (some .int)) (by decide) rfl ?_
  intro p e s m args below meth c s₁ B hml hv
  obtain ⟨rfl, hsz, hP, hK, hD0, hX⟩ := hv
  have hx := B.exec
  have hb := B.bytes
  have hr := B.returns
  have hts := atoms_spec (ws := ws_ yX1_count cX1_count 3 (some .int)) B.pre
  have hts : ∀ w ∈ lw_all, w.before _ s = true := fun w h => hts w (List.mem_cons_of_mem _ h)
  have hown : s.vm.findClass RX1 = some m.cls := findClass_of_methodNamed B.named
  have hlocks := B.notSynchronized
  subst hsz
  have hD := hD0.self (sz := s.heap.size)
  generalize hAe : va_A [(h0, .inr (0, [.ref q, .int (nI n)]))] s.heap.size = A at hD hX ⊢
  have hA : ∀ q : Nat, s.heap.size ≤ q → A q := fun q h => by rw [← hAe]; exact Or.inr h
  have hS : va_S A s.heap s.heap [] := va_S.rf
  have hP : va_P D zCl [(h0, .inr (0, [.ref q, .int (nI n)]))] s.heap := hP
  have hl := lv_entry ([.ref h0, .int (nI f), .int x]) (n := 3) (Nat.le_of_ble_eq_true rfl)
  rw [lg_entry_eq]
  generalize (lg_sl ([.ref h0, .int (nI f), .int x]) ++ List.replicate (3 - (lg_sl ([.ref h0, .int (nI f), .int x])).length) Slot.unset).toArray = ls at hl ⊢
  have hl : lv_has ls 3 [(0, .ref h0), (1, .int (nI f)), (2, .int x)] := hl
  refine lv_iload_n hx hb dX1_count_0 rfl (lv_at hl 2 rfl) ?_
  refine lv_ldc (v := 2147483647) hx hb hown (hts _ q37) dX1_count_1 ?_
  refine lv_iand hx hb dX1_count_3 ?_
  refine lv_topi (fun x_1 e_1 => ?_)
  have e_1 : x_1 = nI (sj_pos x) := by refine e_1.trans ?_; exact zj_pos x
  subst e_1
  refine lv_aload_n hx hb dX1_count_4 rfl (lv_at hl 0 rfl) ?_
  refine va_get (D := D) (ci := 0) (v := .int (nI n)) (C := RX1) (T := TX1) (N := 2) hx hb hts in_X1 hown hK hP 0 rfl rfl 1 (by decide) (hts _ q22) (fun _ h9 => h9) rfl dX1_count_5 ?_
  refine lv_iload_n hx hb dX1_count_8 rfl (lv_at hl 1 rfl) ?_
  refine lv_isub hx hb dX1_count_9 ?_
  refine lv_topi (fun x_2 e_2 => ?_)
  have e_2 : x_2 = nI (n - f) := by refine e_2.trans ?_; exact pk_sub hf
  subst e_2
  refine lv_iconst (v := 1) hx hb dX1_count_10 (by decide) ?_
  refine lv_iadd hx hb dX1_count_11 ?_
  refine lv_topi (fun x_3 e_3 => ?_)
  have e_3 : x_3 = nI (n - f + 1) := by refine e_3.trans ?_; exact nI_1 _
  subst e_3
  refine lv_irem hx hb dX1_count_12 (nI_ne0 (by omega) (by omega)) ?_
  refine lv_topi (fun x_4 e_4 => ?_)
  have e_4 : x_4 = nI (sj_pos x % (n - f + 1)) := by refine e_4.trans ?_; exact pk_rem (sj_pos_lt x) (by omega) (by omega)
  subst e_4
  have hP9 := hP.sub (ws' := [(h0, .inr (0, [.ref q, .int (nI n)]))]) [0] rfl
  have hD9 := hD.sub (ws' := [(h0, .inr (0, [.ref q, .int (nI n)]))]) [0] (by decide) rfl
  have hK9 := hK.sub (tys' := []) [] rfl
  exact W.iret (v := (nI (sj_pos x % (n - f + 1)))) hx hb hr (fun t ht hW => ⟨⟨(nI (sj_pos x % (n - f + 1))), (), rfl, rfl, by rw [ht]; exact hP9, va_K.moved hW.alike hK9, hD9⟩, hS.F ht⟩) hS.2.2 dX1_count_13
set_option maxHeartbeats 4000000 in
set_option maxRecDepth 100000 in
/-- trim(x) -/
theorem mX1_trim (l : Launch) (D : va_G) (sz : Nat) (h0 : Nat) (q : Nat) (n : Nat) (x : Int32) (hn : n ≤ 4096) : Met l yX1_trim (ws_ yX1_trim cX1_trim 2 none) ({ frames := 1, cells := 0, slots := 0, locals := 21 }) (va_Pc [.ref h0, .int x] (zP D sz [(h0, .inr (0, [.ref q, .int (nI n)]))] [] none none)) (va_Qv (fun (_ : Unit) => True) (zB D (va_A [(h0, .inr (0, [.ref q, .int (nI n)]))] sz) (fun (_ : Unit) => [(h0, .inr (0, [.ref q, .int (nI (sj_pos x % (n + 1)))]))]) (fun (_ : Unit) => [])) (va_A [(h0, .inr (0, [.ref q, .int (nI n)]))] sz)) 0 0 (va_A [(h0, .inr (0, [.ref q, .int (nI n)]))] sz) := by
  refine Met.ofW (cc := cX1_trim) (maxL := 2) (ret := none) (by decide) rfl ?_
  intro p e s m args below meth c s₁ B hml hv
  obtain ⟨rfl, hsz, hP, hK, hD0, hX⟩ := hv
  have hx := B.exec
  have hb := B.bytes
  have hr := B.returns
  have hts := atoms_spec (ws := ws_ yX1_trim cX1_trim 2 none) B.pre
  have hts : ∀ w ∈ lw_all, w.before _ s = true := fun w h => hts w (List.mem_cons_of_mem _ h)
  have hown : s.vm.findClass RX1 = some m.cls := findClass_of_methodNamed B.named
  have hlocks := B.notSynchronized
  subst hsz
  have hD := hD0.self (sz := s.heap.size)
  generalize hAe : va_A [(h0, .inr (0, [.ref q, .int (nI n)]))] s.heap.size = A at hD hX ⊢
  have hA : ∀ q : Nat, s.heap.size ≤ q → A q := fun q h => by rw [← hAe]; exact Or.inr h
  have hS : va_S A s.heap s.heap [] := va_S.rf
  have hP : va_P D zCl [(h0, .inr (0, [.ref q, .int (nI n)]))] s.heap := hP
  have hl := lv_entry ([.ref h0, .int x]) (n := 2) (Nat.le_of_ble_eq_true rfl)
  rw [lg_entry_eq]
  generalize (lg_sl ([.ref h0, .int x]) ++ List.replicate (2 - (lg_sl ([.ref h0, .int x])).length) Slot.unset).toArray = ls at hl ⊢
  have hl : lv_has ls 2 [(0, .ref h0), (1, .int x)] := hl
  refine lv_aload_n hx hb dX1_trim_0 rfl (lv_at hl 0 rfl) ?_
  refine lv_aload_n hx hb dX1_trim_1 rfl (lv_at hl 0 rfl) ?_
  refine lv_iload_n hx hb dX1_trim_2 rfl (lv_at hl 1 rfl) ?_
  refine z_goi (wr := []) (va_runV (As := [.int x]) (rest := [.ref h0]) ⟨hx, hb, hml, hown, hts⟩ (mX1_from l D s.heap.size h0 q n x hn) (cwV 1 hts (lw_V q33 q35 qs0 q4 q36) rfl rfl rfl (by decide +kernel) ⟨(Nat.le_of_ble_eq_true rfl), (Nat.le_of_ble_eq_true rfl)⟩) (z_preV (q0 := 0) (ci := 0) rfl rfl hK hP hD hS hA hX [0] [] rfl (by decide) rfl (fun _ h9 => h9) (fun _ h9 => h9)) rfl rfl hl.1 rfl (lv_room (Nat.le_of_ble_eq_true rfl)) dX1_trim_3 ⟨(Nat.le_of_ble_eq_true rfl), (Nat.le_of_ble_eq_true rfl)⟩) hK hP hD hS hA [0] [] rfl rfl (by decide) (by decide) (fun r_2 u_1 H locs h_3 _ hP hD hS => ?_)
  have hP : va_P D zCl [(h0, .inr (0, [.ref q, .int (nI n)]))] H := hP
  have hD : va_D A [(h0, .inr (0, [.ref q, .int (nI n)]))] := hD
  have h_3 : r_2 = nI (sj_pos x % (n + 1)) := h_3
  subst h_3
  refine va_put (D := D) (ci := 0) (v := .int (nI (sj_pos x % (n + 1)))) (ty := .int) (C := RX1) (T := TX1) (N := 2) hx hb hts in_X1 tyX1 tyX1_ok nmX1 hown hK hP hD hS 0 rfl rfl 1 (by decide) (hts _ q22) (fun _ h9 => h9) rfl (by decide +kernel) rfl rfl (Nat.le_of_ble_eq_true rfl) dX1_trim_6 (fun H locs hP hD hS => ?_)
  have hP : va_P D zCl [(h0, .inr (0, [.ref q, .int (nI (sj_pos x % (n + 1)))]))] H := hP
  have hD : va_D A [(h0, .inr (0, [.ref q, .int (nI (sj_pos x % (n + 1)))]))] := hD
  have hP9 := hP.sub (ws' := [(h0, .inr (0, [.ref q, .int (nI (sj_pos x % (n + 1)))]))]) [0] rfl
  have hD9 := hD.sub (ws' := [(h0, .inr (0, [.ref q, .int (nI (sj_pos x % (n + 1)))]))]) [0] (by decide) rfl
  have hK9 := hK.sub (tys' := []) [] rfl
  exact W.vret hx hb hr (fun t ht hW => ⟨⟨(), rfl, trivial, by rw [ht]; exact hP9, va_K.moved hW.alike hK9, hD9⟩, hS.F ht⟩) hS.2.2 dX1_trim_9
set_option maxHeartbeats 4000000 in
set_option maxRecDepth 100000 in
/-- word(k, w): four bytes -/
theorem mX1_word (l : Launch) (D : va_G) (sz : Nat) (h0 : Nat) (q : Nat) (dB : ClassId) (n : Nat) (a : Nat → Int32) (k : Nat) (w : Int32) (hk : k + 4 ≤ 4096) : Met l yX1_word (ws_ yX1_word cX1_word 3 none) ({ frames := 0, cells := 0, slots := 0, locals := 0 }) (va_Pc [.ref h0, .int (nI k), .int w] (zP D sz [(h0, .inr (0, [.ref q, .int (nI n)])), (q, .inl (dB, 4096, .inl a))] [(dB, .byte)] none none)) (va_Qv (fun (u : (Nat → Int32)) => ∀ j, sj_by (u j) = sj_wd (fun j => sj_by (a j)) k w j) (zB D (va_A [(h0, .inr (0, [.ref q, .int (nI n)])), (q, .inl (dB, 4096, .inl a))] sz) (fun (u : (Nat → Int32)) => [(h0, .inr (0, [.ref q, .int (nI n)])), (q, .inl (dB, 4096, .inl u))]) (fun (u : (Nat → Int32)) => [])) (va_A [(h0, .inr (0, [.ref q, .int (nI n)])), (q, .inl (dB, 4096, .inl a))] sz)) 0 0 (va_A [(h0, .inr (0, [.ref q, .int (nI n)])), (q, .inl (dB, 4096, .inl a))] sz) := by
  refine Met.ofW (cc := cX1_word) (maxL := 3) (ret := none) (by decide) rfl ?_
  intro p e s m args below meth c s₁ B hml hv
  obtain ⟨rfl, hsz, hP, hK, hD0, hX⟩ := hv
  have hx := B.exec
  have hb := B.bytes
  have hr := B.returns
  have hts := atoms_spec (ws := ws_ yX1_word cX1_word 3 none) B.pre
  have hts : ∀ w ∈ lw_all, w.before _ s = true := fun w h => hts w (List.mem_cons_of_mem _ h)
  have hown : s.vm.findClass RX1 = some m.cls := findClass_of_methodNamed B.named
  have hlocks := B.notSynchronized
  subst hsz
  have hD := hD0.self (sz := s.heap.size)
  generalize hAe : va_A [(h0, .inr (0, [.ref q, .int (nI n)])), (q, .inl (dB, 4096, .inl a))] s.heap.size = A at hD hX ⊢
  have hA : ∀ q : Nat, s.heap.size ≤ q → A q := fun q h => by rw [← hAe]; exact Or.inr h
  have hS : va_S A s.heap s.heap [] := va_S.rf
  have hP : va_P D zCl [(h0, .inr (0, [.ref q, .int (nI n)])), (q, .inl (dB, 4096, .inl a))] s.heap := hP
  have hl := lv_entry ([.ref h0, .int (nI k), .int w]) (n := 3) (Nat.le_of_ble_eq_true rfl)
  rw [lg_entry_eq]
  generalize (lg_sl ([.ref h0, .int (nI k), .int w]) ++ List.replicate (3 - (lg_sl ([.ref h0, .int (nI k), .int w])).length) Slot.unset).toArray = ls at hl ⊢
  have hl : lv_has ls 3 [(0, .ref h0), (1, .int (nI k)), (2, .int w)] := hl
  refine lv_aload_n hx hb dX1_word_0 rfl (lv_at hl 0 rfl) ?_
  refine va_get (D := D) (ci := 0) (v := .ref q) (C := RX1) (T := TX1) (N := 2) hx hb hts in_X1 hown hK hP 0 rfl rfl 0 (by decide) (hts _ q21) (fun _ h9 => h9) rfl dX1_word_1 ?_
  refine lv_iload_n hx hb dX1_word_4 rfl (lv_at hl 1 rfl) ?_
  refine lv_iload_n hx hb dX1_word_5 rfl (lv_at hl 2 rfl) ?_
  refine lv_bipush (v := 24) hx hb dX1_word_6 (by decide +kernel) ?_
  refine lv_ishr hx hb dX1_word_8 ?_
  refine lv_topi (fun xs0 exs0 => ?_)
  refine lv_i2b hx hb dX1_word_9 rfl ?_
  refine lv_topi (fun xb0 exb0 => ?_)
  refine va_bast hx hb hK hP hD hS 1 0 rfl rfl (vp_in_nI (n := k) (by omega) (by decide)) dX1_word_10 (fun H locs hP hD hS => ?_)
  rw [show upd a ((nI k) : Int32).toNatClampNeg (vp_nar .byte xb0) = upd a k xb0 by rw [nI_clamp (by omega), exb0, pk_vb]] at hP hD
  have hP : va_P D zCl [(h0, .inr (0, [.ref q, .int (nI n)])), (q, .inl (dB, 4096, .inl (upd a k xb0)))] H := hP
  have hD : va_D A [(h0, .inr (0, [.ref q, .int (nI n)])), (q, .inl (dB, 4096, .inl (upd a k xb0)))] := hD
  refine lv_aload_n hx hb dX1_word_11 rfl (lv_at hl 0 rfl) ?_
  refine va_get (D := D) (ci := 0) (v := .ref q) (C := RX1) (T := TX1) (N := 2) hx hb hts in_X1 hown hK hP 0 rfl rfl 0 (by decide) (hts _ q21) (fun _ h9 => h9) rfl dX1_word_12 ?_
  refine lv_iload_n hx hb dX1_word_15 rfl (lv_at hl 1 rfl) ?_
  refine lv_iconst (v := 1) hx hb dX1_word_16 (by decide) ?_
  refine lv_iadd hx hb dX1_word_17 ?_
  refine lv_topi (fun x_1 e_1 => ?_)
  have e_1 : x_1 = nI (k + 1) := by refine e_1.trans ?_; exact nI_add k 1
  subst e_1
  refine lv_iload_n hx hb dX1_word_18 rfl (lv_at hl 2 rfl) ?_
  refine lv_bipush (v := 16) hx hb dX1_word_19 (by decide +kernel) ?_
  refine lv_ishr hx hb dX1_word_21 ?_
  refine lv_topi (fun xs1 exs1 => ?_)
  refine lv_i2b hx hb dX1_word_22 rfl ?_
  refine lv_topi (fun xb1 exb1 => ?_)
  refine va_bast hx hb hK hP hD hS 1 0 rfl rfl (vp_in_nI (n := k + 1) (by omega) (by decide)) dX1_word_23 (fun H locs hP hD hS => ?_)
  rw [show upd (upd a k xb0) ((nI (k + 1)) : Int32).toNatClampNeg (vp_nar .byte xb1) = upd (upd a k xb0) (k + 1) xb1 by rw [nI_clamp (by omega), exb1, pk_vb]] at hP hD
  have hP : va_P D zCl [(h0, .inr (0, [.ref q, .int (nI n)])), (q, .inl (dB, 4096, .inl (upd (upd a k xb0) (k + 1) xb1)))] H := hP
  have hD : va_D A [(h0, .inr (0, [.ref q, .int (nI n)])), (q, .inl (dB, 4096, .inl (upd (upd a k xb0) (k + 1) xb1)))] := hD
  refine lv_aload_n hx hb dX1_word_24 rfl (lv_at hl 0 rfl) ?_
  refine va_get (D := D) (ci := 0) (v := .ref q) (C := RX1) (T := TX1) (N := 2) hx hb hts in_X1 hown hK hP 0 rfl rfl 0 (by decide) (hts _ q21) (fun _ h9 => h9) rfl dX1_word_25 ?_
  refine lv_iload_n hx hb dX1_word_28 rfl (lv_at hl 1 rfl) ?_
  refine lv_iconst (v := 2) hx hb dX1_word_29 (by decide) ?_
  refine lv_iadd hx hb dX1_word_30 ?_
  refine lv_topi (fun x_2 e_2 => ?_)
  have e_2 : x_2 = nI (k + 2) := by refine e_2.trans ?_; exact nI_add k 2
  subst e_2
  refine lv_iload_n hx hb dX1_word_31 rfl (lv_at hl 2 rfl) ?_
  refine lv_bipush (v := 8) hx hb dX1_word_32 (by decide +kernel) ?_
  refine lv_ishr hx hb dX1_word_34 ?_
  refine lv_topi (fun xs2 exs2 => ?_)
  refine lv_i2b hx hb dX1_word_35 rfl ?_
  refine lv_topi (fun xb2 exb2 => ?_)
  refine va_bast hx hb hK hP hD hS 1 0 rfl rfl (vp_in_nI (n := k + 2) (by omega) (by decide)) dX1_word_36 (fun H locs hP hD hS => ?_)
  rw [show upd (upd (upd a k xb0) (k + 1) xb1) ((nI (k + 2)) : Int32).toNatClampNeg (vp_nar .byte xb2) = upd (upd (upd a k xb0) (k + 1) xb1) (k + 2) xb2 by rw [nI_clamp (by omega), exb2, pk_vb]] at hP hD
  have hP : va_P D zCl [(h0, .inr (0, [.ref q, .int (nI n)])), (q, .inl (dB, 4096, .inl (upd (upd (upd a k xb0) (k + 1) xb1) (k + 2) xb2)))] H := hP
  have hD : va_D A [(h0, .inr (0, [.ref q, .int (nI n)])), (q, .inl (dB, 4096, .inl (upd (upd (upd a k xb0) (k + 1) xb1) (k + 2) xb2)))] := hD
  refine lv_aload_n hx hb dX1_word_37 rfl (lv_at hl 0 rfl) ?_
  refine va_get (D := D) (ci := 0) (v := .ref q) (C := RX1) (T := TX1) (N := 2) hx hb hts in_X1 hown hK hP 0 rfl rfl 0 (by decide) (hts _ q21) (fun _ h9 => h9) rfl dX1_word_38 ?_
  refine lv_iload_n hx hb dX1_word_41 rfl (lv_at hl 1 rfl) ?_
  refine lv_iconst (v := 3) hx hb dX1_word_42 (by decide) ?_
  refine lv_iadd hx hb dX1_word_43 ?_
  refine lv_topi (fun x_3 e_3 => ?_)
  have e_3 : x_3 = nI (k + 3) := by refine e_3.trans ?_; exact nI_add k 3
  subst e_3
  refine lv_iload_n hx hb dX1_word_44 rfl (lv_at hl 2 rfl) ?_
  refine lv_i2b hx hb dX1_word_45 rfl ?_
  refine lv_topi (fun xb3 exb3 => ?_)
  refine va_bast hx hb hK hP hD hS 1 0 rfl rfl (vp_in_nI (n := k + 3) (by omega) (by decide)) dX1_word_46 (fun H locs hP hD hS => ?_)
  rw [show upd (upd (upd (upd a k xb0) (k + 1) xb1) (k + 2) xb2) ((nI (k + 3)) : Int32).toNatClampNeg (vp_nar .byte xb3) = upd (upd (upd (upd a k xb0) (k + 1) xb1) (k + 2) xb2) (k + 3) xb3 by rw [nI_clamp (by omega), exb3, pk_vb]] at hP hD
  have hP : va_P D zCl [(h0, .inr (0, [.ref q, .int (nI n)])), (q, .inl (dB, 4096, .inl (upd (upd (upd (upd a k xb0) (k + 1) xb1) (k + 2) xb2) (k + 3) xb3)))] H := hP
  have hD : va_D A [(h0, .inr (0, [.ref q, .int (nI n)])), (q, .inl (dB, 4096, .inl (upd (upd (upd (upd a k xb0) (k + 1) xb1) (k + 2) xb2) (k + 3) xb3)))] := hD
  have hP9 := hP.sub (ws' := [(h0, .inr (0, [.ref q, .int (nI n)])), (q, .inl (dB, 4096, .inl (upd (upd (upd (upd a k xb0) (k + 1) xb1) (k + 2) xb2) (k + 3) xb3)))]) [0, 1] rfl
  have hD9 := hD.sub (ws' := [(h0, .inr (0, [.ref q, .int (nI n)])), (q, .inl (dB, 4096, .inl (upd (upd (upd (upd a k xb0) (k + 1) xb1) (k + 2) xb2) (k + 3) xb3)))]) [0, 1] (by decide) rfl
  have hK9 := hK.sub (tys' := []) [] rfl
  exact W.vret hx hb hr (fun t ht hW => ⟨⟨(upd (upd (upd (upd a k xb0) (k + 1) xb1) (k + 2) xb2) (k + 3) xb3), rfl, zj_put4 w (by rw [exb0, exs0]; exact zj_w0 w) (by rw [exb1, exs1]; exact zj_w1 w) (by rw [exb2, exs2]; exact zj_w2 w) (by rw [exb3]; exact zj_w3 w), by rw [ht]; exact hP9, va_K.moved hW.alike hK9, hD9⟩, hS.F ht⟩) hS.2.2 dX1_word_47
set_option maxHeartbeats 4000000 in
set_option maxRecDepth 100000 in
/-- put: sixteen bytes more -/
theorem mX1_put (l : Launch) (D : va_G) (sz : Nat) (h0 : Nat) (q : Nat) (dB : ClassId) (n : Nat) (a : Nat → Int32) (w0 : Int32) (w1 : Int32) (w2 : Int32) (w3 : Int32) (hn : n ≤ 4080) : Met l yX1_put (ws_ yX1_put cX1_put 5 (some .boolean)) ({ frames := 1, cells := 0, slots := 0, locals := 22 }) (va_Pc [.ref h0, .int w0, .int w1, .int w2, .int w3] (zP D sz [(h0, .inr (0, [.ref q, .int (nI n)])), (q, .inl (dB, 4096, .inl a))] [(dB, .byte)] none none)) (va_Qi (fun (r : Int32) (u : (Nat → Int32)) => r = 1 ∧ ∀ j, sj_by (u j) = sj_pt (fun j => sj_by (a j)) n w0 w1 w2 w3 j) (zB D (va_A [(h0, .inr (0, [.ref q, .int (nI n)])), (q, .inl (dB, 4096, .inl a))] sz) (fun (u : (Nat → Int32)) => [(h0, .inr (0, [.ref q, .int (nI (n + 16))])), (q, .inl (dB, 4096, .inl u))]) (fun (u : (Nat → Int32)) => [])) (va_A [(h0, .inr (0, [.ref q, .int (nI n)])), (q, .inl (dB, 4096, .inl a))] sz)) 0 0 (va_A [(h0, .inr (0, [.ref q, .int (nI n)])), (q, .inl (dB, 4096, .inl a))] sz) := by
  refine Met.ofW (cc := cX1_put) (maxL := 5) (ret := (some .boolean)) (by decide) rfl ?_
  intro p e s m args below meth c s₁ B hml hv
  obtain ⟨rfl, hsz, hP, hK, hD0, hX⟩ := hv
  have hx := B.exec
  have hb := B.bytes
  have hr := B.returns
  have hts := atoms_spec (ws := ws_ yX1_put cX1_put 5 (some .boolean)) B.pre
  have hts : ∀ w ∈ lw_all, w.before _ s = true := fun w h => hts w (List.mem_cons_of_mem _ h)
  have hown : s.vm.findClass RX1 = some m.cls := findClass_of_methodNamed B.named
  have hlocks := B.notSynchronized
  subst hsz
  have hD := hD0.self (sz := s.heap.size)
  generalize hAe : va_A [(h0, .inr (0, [.ref q, .int (nI n)])), (q, .inl (dB, 4096, .inl a))] s.heap.size = A at hD hX ⊢
  have hA : ∀ q : Nat, s.heap.size ≤ q → A q := fun q h => by rw [← hAe]; exact Or.inr h
  have hS : va_S A s.heap s.heap [] := va_S.rf
  have hP : va_P D zCl [(h0, .inr (0, [.ref q, .int (nI n)])), (q, .inl (dB, 4096, .inl a))] s.heap := hP
  have hl := lv_entry ([.ref h0, .int w0, .int w1, .int w2, .int w3]) (n := 5) (Nat.le_of_ble_eq_true rfl)
  rw [lg_entry_eq]
  generalize (lg_sl ([.ref h0, .int w0, .int w1, .int w2, .int w3]) ++ List.replicate (5 - (lg_sl ([.ref h0, .int w0, .int w1, .int w2, .int w3])).length) Slot.unset).toArray = ls at hl ⊢
  have hl : lv_has ls 5 [(0, .ref h0), (1, .int w0), (2, .int w1), (3, .int w2), (4, .int w3)] := hl
  refine lv_aload_n hx hb dX1_put_0 rfl (lv_at hl 0 rfl) ?_
  refine va_get (D := D) (ci := 0) (v := .int (nI n)) (C := RX1) (T := TX1) (N := 2) hx hb hts in_X1 hown hK hP 0 rfl rfl 1 (by decide) (hts _ q22) (fun _ h9 => h9) rfl dX1_put_1 ?_
  refine lv_aload_n hx hb dX1_put_4 rfl (lv_at hl 0 rfl) ?_
  refine va_get (D := D) (ci := 0) (v := .ref q) (C := RX1) (T := TX1) (N := 2) hx hb hts in_X1 hown hK hP 0 rfl rfl 0 (by decide) (hts _ q21) (fun _ h9 => h9) rfl dX1_put_5 ?_
  refine va_alen (v := nI 4096) hx hb hK hP 1 0 rfl rfl (by rfl) dX1_put_8 ?_
  refine lv_bipush (v := nI 16) hx hb dX1_put_9 (by decide +kernel) ?_
  refine lv_isub hx hb dX1_put_11 ?_
  refine lv_topi (fun x_1 e_1 => ?_)
  have e_1 : x_1 = nI 4080 := by refine e_1.trans ?_; exact pk_sub (by decide)
  subst e_1
  refine lv_icmp_le (tgt := 17) hx hb dX1_put_12 (by decide) (fun c0 => ?_) (fun c0 => False.elim (by exact c0 (nI_le hn (by decide))))
  refine lv_aload_n hx hb dX1_put_17 rfl (lv_at hl 0 rfl) ?_
  refine lv_aload_n hx hb dX1_put_18 rfl (lv_at hl 0 rfl) ?_
  refine va_get (D := D) (ci := 0) (v := .int (nI n)) (C := RX1) (T := TX1) (N := 2) hx hb hts in_X1 hown hK hP 0 rfl rfl 1 (by decide) (hts _ q22) (fun _ h9 => h9) rfl dX1_put_19 ?_
  refine lv_iload_n hx hb dX1_put_22 rfl (lv_at hl 1 rfl) ?_
  refine z_gov (wr := []) (va_runV (As := [.int (nI n), .int w0]) (rest := []) ⟨hx, hb, hml, hown, hts⟩ (mX1_word l D s.heap.size h0 q dB n a n w0 (by omega)) (cwV 2 hts (lw_V q99 q101 qs2 q4 q102) rfl rfl rfl (by decide +kernel) ⟨(Nat.le_of_ble_eq_true rfl), (Nat.le_of_ble_eq_true rfl)⟩) (z_preV (q0 := 0) (ci := 0) rfl rfl hK hP hD hS hA hX [0, 1] [0] rfl (by decide) rfl (fun _ h9 => h9) (fun _ h9 => h9)) rfl rfl hl.1 rfl (lv_room (Nat.le_of_ble_eq_true rfl)) dX1_put_23 ⟨(Nat.le_of_ble_eq_true rfl), (Nat.le_of_ble_eq_true rfl)⟩) hK hP hD hS hA [0, 1] [] rfl rfl (by decide) (by decide) (fun u_2 H locs ha1 _ hP hD hS => ?_)
  obtain ⟨a1, rfl⟩ : ∃ z, z = u_2 := ⟨_, rfl⟩
  have hP : va_P D zCl [(h0, .inr (0, [.ref q, .int (nI n)])), (q, .inl (dB, 4096, .inl a1))] H := hP
  have hD : va_D A [(h0, .inr (0, [.ref q, .int (nI n)])), (q, .inl (dB, 4096, .inl a1))] := hD
  have ha1 : ∀ j, sj_by (a1 j) = sj_wd (fun j => sj_by (a j)) n w0 j := ha1
  refine lv_aload_n hx hb dX1_put_26 rfl (lv_at hl 0 rfl) ?_
  refine lv_aload_n hx hb dX1_put_27 rfl (lv_at hl 0 rfl) ?_
  refine va_get (D := D) (ci := 0) (v := .int (nI n)) (C := RX1) (T := TX1) (N := 2) hx hb hts in_X1 hown hK hP 0 rfl rfl 1 (by decide) (hts _ q22) (fun _ h9 => h9) rfl dX1_put_28 ?_
  refine lv_iconst (v := 4) hx hb dX1_put_31 (by decide) ?_
  refine lv_iadd hx hb dX1_put_32 ?_
  refine lv_topi (fun x_4 e_4 => ?_)
  have e_4 : x_4 = nI (n + 4) := by refine e_4.trans ?_; exact nI_add n 4
  subst e_4
  refine lv_iload_n hx hb dX1_put_33 rfl (lv_at hl 2 rfl) ?_
  refine z_gov (wr := []) (va_runV (As := [.int (nI (n + 4)), .int w1]) (rest := []) ⟨hx, hb, hml, hown, hts⟩ (mX1_word l D H.size h0 q dB n a1 (n + 4) w1 (by omega)) (cwV 2 hts (lw_V q99 q101 qs2 q4 q102) rfl rfl rfl (by decide +kernel) ⟨(Nat.le_of_ble_eq_true rfl), (Nat.le_of_ble_eq_true rfl)⟩) (z_preV (q0 := 0) (ci := 0) rfl rfl hK hP hD hS hA hX [0, 1] [0] rfl (by decide) rfl (fun _ h9 => h9) (fun _ h9 => h9)) rfl rfl hl.1 rfl (lv_room (Nat.le_of_ble_eq_true rfl)) dX1_put_34 ⟨(Nat.le_of_ble_eq_true rfl), (Nat.le_of_ble_eq_true rfl)⟩) hK hP hD hS hA [0, 1] [] rfl rfl (by decide) (by decide) (fun u_5 H locs ha2 _ hP hD hS => ?_)
  obtain ⟨a2, rfl⟩ : ∃ z, z = u_5 := ⟨_, rfl⟩
  have hP : va_P D zCl [(h0, .inr (0, [.ref q, .int (nI n)])), (q, .inl (dB, 4096, .inl a2))] H := hP
  have hD : va_D A [(h0, .inr (0, [.ref q, .int (nI n)])), (q, .inl (dB, 4096, .inl a2))] := hD
  have ha2 : ∀ j, sj_by (a2 j) = sj_wd (fun j => sj_by (a1 j)) (n + 4) w1 j := ha2
  refine lv_aload_n hx hb dX1_put_37 rfl (lv_at hl 0 rfl) ?_
  refine lv_aload_n hx hb dX1_put_38 rfl (lv_at hl 0 rfl) ?_
  refine va_get (D := D) (ci := 0) (v := .int (nI n)) (C := RX1) (T := TX1) (N := 2) hx hb hts in_X1 hown hK hP 0 rfl rfl 1 (by decide) (hts _ q22) (fun _ h9 => h9) rfl dX1_put_39 ?_
  refine lv_bipush (v := 8) hx hb dX1_put_42 (by decide +kernel) ?_
  refine lv_iadd hx hb dX1_put_44 ?_
  refine lv_topi (fun x_7 e_7 => ?_)
  have e_7 : x_7 = nI (n + 8) := by refine e_7.trans ?_; exact nI_add n 8
  subst e_7
  refine lv_iload_n hx hb dX1_put_45 rfl (lv_at hl 3 rfl) ?_
  refine z_gov (wr := []) (va_runV (As := [.int (nI (n + 8)), .int w2]) (rest := []) ⟨hx, hb, hml, hown, hts⟩ (mX1_word l D H.size h0 q dB n a2 (n + 8) w2 (by omega)) (cwV 2 hts (lw_V q99 q101 qs2 q4 q102) rfl rfl rfl (by decide +kernel) ⟨(Nat.le_of_ble_eq_true rfl), (Nat.le_of_ble_eq_true rfl)⟩) (z_preV (q0 := 0) (ci := 0) rfl rfl hK hP hD hS hA hX [0, 1] [0] rfl (by decide) rfl (fun _ h9 => h9) (fun _ h9 => h9)) rfl rfl hl.1 rfl (lv_room (Nat.le_of_ble_eq_true rfl)) dX1_put_46 ⟨(Nat.le_of_ble_eq_true rfl), (Nat.le_of_ble_eq_true rfl)⟩) hK hP hD hS hA [0, 1] [] rfl rfl (by decide) (by decide) (fun u_8 H locs ha3 _ hP hD hS => ?_)
  obtain ⟨a3, rfl⟩ : ∃ z, z = u_8 := ⟨_, rfl⟩
  have hP : va_P D zCl [(h0, .inr (0, [.ref q, .int (nI n)])), (q, .inl (dB, 4096, .inl a3))] H := hP
  have hD : va_D A [(h0, .inr (0, [.ref q, .int (nI n)])), (q, .inl (dB, 4096, .inl a3))] := hD
  have ha3 : ∀ j, sj_by (a3 j) = sj_wd (fun j => sj_by (a2 j)) (n + 8) w2 j := ha3
  refine lv_aload_n hx hb dX1_put_49 rfl (lv_at hl 0 rfl) ?_
  refine lv_aload_n hx hb dX1_put_50 rfl (lv_at hl 0 rfl) ?_
  refine va_get (D := D) (ci := 0) (v := .int (nI n)) (C := RX1) (T := TX1) (N := 2) hx hb hts in_X1 hown hK hP 0 rfl rfl 1 (by decide) (hts _ q22) (fun _ h9 => h9) rfl dX1_put_51 ?_
  refine lv_bipush (v := 12) hx hb dX1_put_54 (by decide +kernel) ?_
  refine lv_iadd hx hb dX1_put_56 ?_
  refine lv_topi (fun x_10 e_10 => ?_)
  have e_10 : x_10 = nI (n + 12) := by refine e_10.trans ?_; exact nI_add n 12
  subst e_10
  refine lv_iload hx hb dX1_put_57 (lv_at hl 4 rfl) ?_
  refine z_gov (wr := []) (va_runV (As := [.int (nI (n + 12)), .int w3]) (rest := []) ⟨hx, hb, hml, hown, hts⟩ (mX1_word l D H.size h0 q dB n a3 (n + 12) w3 (by omega)) (cwV 2 hts (lw_V q99 q101 qs2 q4 q102) rfl rfl rfl (by decide +kernel) ⟨(Nat.le_of_ble_eq_true rfl), (Nat.le_of_ble_eq_true rfl)⟩) (z_preV (q0 := 0) (ci := 0) rfl rfl hK hP hD hS hA hX [0, 1] [0] rfl (by decide) rfl (fun _ h9 => h9) (fun _ h9 => h9)) rfl rfl hl.1 rfl (lv_room (Nat.le_of_ble_eq_true rfl)) dX1_put_59 ⟨(Nat.le_of_ble_eq_true rfl), (Nat.le_of_ble_eq_true rfl)⟩) hK hP hD hS hA [0, 1] [] rfl rfl (by decide) (by decide) (fun u_11 H locs ha4 _ hP hD hS => ?_)
  obtain ⟨a4, rfl⟩ : ∃ z, z = u_11 := ⟨_, rfl⟩
  have hP : va_P D zCl [(h0, .inr (0, [.ref q, .int (nI n)])), (q, .inl (dB, 4096, .inl a4))] H := hP
  have hD : va_D A [(h0, .inr (0, [.ref q, .int (nI n)])), (q, .inl (dB, 4096, .inl a4))] := hD
  have ha4 : ∀ j, sj_by (a4 j) = sj_wd (fun j => sj_by (a3 j)) (n + 12) w3 j := ha4
  refine lv_aload_n hx hb dX1_put_62 rfl (lv_at hl 0 rfl) ?_
  refine lv_dup hx hb dX1_put_63 rfl ?_
  refine va_get (D := D) (ci := 0) (v := .int (nI n)) (C := RX1) (T := TX1) (N := 2) hx hb hts in_X1 hown hK hP 0 rfl rfl 1 (by decide) (hts _ q22) (fun _ h9 => h9) rfl dX1_put_64 ?_
  refine lv_bipush (v := 16) hx hb dX1_put_67 (by decide +kernel) ?_
  refine lv_iadd hx hb dX1_put_69 ?_
  refine lv_topi (fun x_13 e_13 => ?_)
  have e_13 : x_13 = nI (n + 16) := by refine e_13.trans ?_; exact nI_add n 16
  subst e_13
  refine va_put (D := D) (ci := 0) (v := .int (nI (n + 16))) (ty := .int) (C := RX1) (T := TX1) (N := 2) hx hb hts in_X1 tyX1 tyX1_ok nmX1 hown hK hP hD hS 0 rfl rfl 1 (by decide) (hts _ q22) (fun _ h9 => h9) rfl (by decide +kernel) rfl rfl (Nat.le_of_ble_eq_true rfl) dX1_put_70 (fun H locs hP hD hS => ?_)
  have hP : va_P D zCl [(h0, .inr (0, [.ref q, .int (nI (n + 16))])), (q, .inl (dB, 4096, .inl a4))] H := hP
  have hD : va_D A [(h0, .inr (0, [.ref q, .int (nI (n + 16))])), (q, .inl (dB, 4096, .inl a4))] := hD
  refine lv_iconst (v := 1) hx hb dX1_put_73 (by decide) ?_
  have hfin : ∀ j, sj_by (a4 j) = sj_pt (fun j => sj_by (a j)) n w0 w1 w2 w3 j := fun j => by
    rw [ha4, funext ha3, funext ha2, funext ha1]
    exact zj_put16 _ n w0 w1 w2 w3 j
  have hP9 := hP.sub (ws' := [(h0, .inr (0, [.ref q, .int (nI (n + 16))])), (q, .inl (dB, 4096, .inl a4))]) [0, 1] rfl
  have hD9 := hD.sub (ws' := [(h0, .inr (0, [.ref q, .int (nI (n + 16))])), (q, .inl (dB, 4096, .inl a4))]) [0, 1] (by decide) rfl
  have hK9 := hK.sub (tys' := []) [] rfl
  exact W.zret (v := 1) hx hb hr rfl (fun t ht hW => ⟨⟨1, a4, rfl, ⟨rfl, hfin⟩, by rw [ht]; exact hP9, va_K.moved hW.alike hK9, hD9⟩, hS.F ht⟩) hS.2.2 dX1_put_74
set_option maxHeartbeats 4000000 in
set_option maxRecDepth 100000 in
/-- put: refused -/
theorem mX1_putF (l : Launch) (D : va_G) (sz : Nat) (h0 : Nat) (q : Nat) (dB : ClassId) (n : Nat) (a : Nat → Int32) (w0 : Int32) (w1 : Int32) (w2 : Int32) (w3 : Int32) (hn : n ≤ 4096) (hn2 : 4080 < n) : Met l yX1_put (ws_ yX1_put cX1_put 5 (some .boolean)) ({ frames := 0, cells := 0, slots := 0, locals := 0 }) (va_Pc [.ref h0, .int w0, .int w1, .int w2, .int w3] (zP D sz [(h0, .inr (0, [.ref q, .int (nI n)])), (q, .inl (dB, 4096, .inl a))] [(dB, .byte)] none none)) (va_Qi (fun (r : Int32) (_ : Unit) => r = 0) (zB D (va_A [(h0, .inr (0, [.ref q, .int (nI n)])), (q, .inl (dB, 4096, .inl a))] sz) (fun (_ : Unit) => [(h0, .inr (0, [.ref q, .int (nI n)])), (q, .inl (dB, 4096, .inl a))]) (fun (_ : Unit) => [])) (va_A [(h0, .inr (0, [.ref q, .int (nI n)])), (q, .inl (dB, 4096, .inl a))] sz)) 0 0 (va_A [(h0, .inr (0, [.ref q, .int (nI n)])), (q, .inl (dB, 4096, .inl a))] sz) := by
  refine Met.ofW (cc := cX1_put) (maxL := 5) (ret := (some .boolean)) (by decide) rfl ?_
  intro p e s m args below meth c s₁ B hml hv
  obtain ⟨rfl, hsz, hP, hK, hD0, hX⟩ := hv
  have hx := B.exec
  have hb := B.bytes
  have hr := B.returns
  have hts := atoms_spec (ws := ws_ yX1_put cX1_put 5 (some .boolean)) B.pre
  have hts : ∀ w ∈ lw_all, w.before _ s = true := fun w h => hts w (List.mem_cons_of_mem _ h)
  have hown : s.vm.findClass RX1 = some m.cls := findClass_of_methodNamed B.named
  have hlocks := B.notSynchronized
  subst hsz
  have hD := hD0.self (sz := s.heap.size)
  generalize hAe : va_A [(h0, .inr (0, [.ref q, .int (nI n)])), (q, .inl (dB, 4096, .inl a))] s.heap.size = A at hD hX ⊢
  have hA : ∀ q : Nat, s.heap.size ≤ q → A q := fun q h => by rw [← hAe]; exact Or.inr h
  have hS : va_S A s.heap s.heap [] := va_S.rf
  have hP : va_P D zCl [(h0, .inr (0, [.ref q, .int (nI n)])), (q, .inl (dB, 4096, .inl a))] s.heap := hP
  have hl := lv_entry ([.ref h0, .int w0, .int w1, .int w2, .int w3]) (n := 5) (Nat.le_of_ble_eq_true rfl)
  rw [lg_entry_eq]
  generalize (lg_sl ([.ref h0, .int w0, .int w1, .int w2, .int w3]) ++ List.replicate (5 - (lg_sl ([.ref h0, .int w0, .int w1, .int w2, .int w3])).length) Slot.unset).toArray = ls at hl ⊢
  have hl : lv_has ls 5 [(0, .ref h0), (1, .int w0), (2, .int w1), (3, .int w2), (4, .int w3)] := hl
  refine lv_aload_n hx hb dX1_put_0 rfl (lv_at hl 0 rfl) ?_
  refine va_get (D := D) (ci := 0) (v := .int (nI n)) (C := RX1) (T := TX1) (N := 2) hx hb hts in_X1 hown hK hP 0 rfl rfl 1 (by decide) (hts _ q22) (fun _ h9 => h9) rfl dX1_put_1 ?_
  refine lv_aload_n hx hb dX1_put_4 rfl (lv_at hl 0 rfl) ?_
  refine va_get (D := D) (ci := 0) (v := .ref q) (C := RX1) (T := TX1) (N := 2) hx hb hts in_X1 hown hK hP 0 rfl rfl 0 (by decide) (hts _ q21) (fun _ h9 => h9) rfl dX1_put_5 ?_
  refine va_alen (v := nI 4096) hx hb hK hP 1 0 rfl rfl (by rfl) dX1_put_8 ?_
  refine lv_bipush (v := nI 16) hx hb dX1_put_9 (by decide +kernel) ?_
  refine lv_isub hx hb dX1_put_11 ?_
  refine lv_topi (fun x_1 e_1 => ?_)
  have e_1 : x_1 = nI 4080 := by refine e_1.trans ?_; exact pk_sub (by decide)
  subst e_1
  refine lv_icmp_le (tgt := 17) hx hb dX1_put_12 (by decide) (fun c0 => False.elim (by exact nI_ge hn2 (by omega) c0)) (fun c0 => ?_)
  refine lv_iconst (v := 0) hx hb dX1_put_15 (by decide) ?_
  have hP9 := hP.sub (ws' := [(h0, .inr (0, [.ref q, .int (nI n)])), (q, .inl (dB, 4096, .inl a))]) [0, 1] rfl
  have hD9 := hD.sub (ws' := [(h0, .inr (0, [.ref q, .int (nI n)])), (q, .inl (dB, 4096, .inl a))]) [0, 1] (by decide) rfl
  have hK9 := hK.sub (tys' := []) [] rfl
  exact W.zret (v := 0) hx hb hr rfl (fun t ht hW => ⟨⟨0, (), rfl, rfl, by rw [ht]; exact hP9, va_K.moved hW.alike hK9, hD9⟩, hS.F ht⟩) hS.2.2 dX1_put_16
set_option maxHeartbeats 4000000 in
set_option maxRecDepth 100000 in
/-- sum: the CRC -/
theorem mX1_sum1 (l : Launch) (D : va_G) (sz : Nat) (q : Nat) (dB : ClassId) (t : Nat) (a : Nat → Int32) (f : Nat) (n : Nat) (hfn : f + n ≤ 4096) : Met l yX1_sum (ws_ yX1_sum cX1_sum 5 (some .long)) ({ frames := 2, cells := 1, slots := 1, locals := 32 }) (va_Pc [.int 1, .ref q, .int (nI f), .int (nI n)] (zP D sz [(q, .inl (dB, 4096, .inl a))] [(dB, .byte)] (some t) none)) (va_Ql (fun (r : Int64) (_ : Unit) => r = lN (sj_crc (fun j => sj_by (a j)) f n)) (zB D (va_A [(q, .inl (dB, 4096, .inl a))] sz) (fun (_ : Unit) => [(q, .inl (dB, 4096, .inl a))]) (fun (_ : Unit) => [])) (va_A [(q, .inl (dB, 4096, .inl a))] sz)) 1 1 (va_A [(q, .inl (dB, 4096, .inl a))] sz) := by
  refine Met.ofW (cc := cX1_sum) (maxL := 5) (ret := (some .long)) (by decide) rfl ?_
  intro p e s m args below meth c s₁ B hml hv
  obtain ⟨rfl, hsz, hP, hK, hD0, hX⟩ := hv
  have hx := B.exec
  have hb := B.bytes
  have hr := B.returns
  have hts := atoms_spec (ws := ws_ yX1_sum cX1_sum 5 (some .long)) B.pre
  have hts : ∀ w ∈ lw_all, w.before _ s = true := fun w h => hts w (List.mem_cons_of_mem _ h)
  have hown : s.vm.findClass RX1 = some m.cls := findClass_of_methodNamed B.named
  have hlocks := B.notSynchronized
  subst hsz
  have hD := hD0.self (sz := s.heap.size)
  generalize hAe : va_A [(q, .inl (dB, 4096, .inl a))] s.heap.size = A at hD hX ⊢
  have hA : ∀ q : Nat, s.heap.size ≤ q → A q := fun q h => by rw [← hAe]; exact Or.inr h
  have hS : va_S A s.heap s.heap [] := va_S.rf
  have hP : va_P D zCl [(q, .inl (dB, 4096, .inl a))] s.heap := hP
  have hZt : va_Z "CRC32" "crc_table" "[I" (.ref t) A s s.heap := (hX.1 t rfl).1
  have hTt : va_T .int t 256 (fun j => .int (nI (sj_c8 j))) A s s.heap := (hX.1 t rfl).2
  have hl := lv_entry ([.int 1, .ref q, .int (nI f), .int (nI n)]) (n := 5) (Nat.le_of_ble_eq_true rfl)
  rw [lg_entry_eq]
  generalize (lg_sl ([.int 1, .ref q, .int (nI f), .int (nI n)]) ++ List.replicate (5 - (lg_sl ([.int 1, .ref q, .int (nI f), .int (nI n)])).length) Slot.unset).toArray = ls at hl ⊢
  have hl : lv_has ls 5 [(0, .int 1), (1, .ref q), (2, .int (nI f)), (3, .int (nI n))] := hl
  refine lv_iload_n hx hb dX1_sum_0 rfl (lv_at hl 0 rfl) ?_
  refine lv_if_eq (tgt := 27) hx hb dX1_sum_1 (by decide) (fun c0 => False.elim (by exact absurd c0 (by decide))) (fun c0 => ?_)
  refine va_new (ci := 1) (fs := [.int 0]) (C := RX2) (T := TX2) (N := 1) hx hb hts in_X2 tyX2 tyX2_ok hown (hts _ q45) (hts _ q46) (hts _ q5) hK hP hD hS hA rfl (fun j hj => by rcases (show j = 0 by omega) with rfl <;> rfl) (Nat.le_of_ble_eq_true rfl) (Nat.le_of_ble_eq_true rfl) dX1_sum_4 (fun o1 H hP hD hS => ?_)
  have hP : va_P D zCl [(q, .inl (dB, 4096, .inl a)), (o1, .inr (1, [.int 0]))] H := hP
  have hD : va_D A [(q, .inl (dB, 4096, .inl a)), (o1, .inr (1, [.int 0]))] := hD
  refine lv_dup hx hb dX1_sum_7 rfl ?_
  refine z_gov (wr := [(q, .inl (dB, 4096, .inl a))]) (va_runI (As := []) (rest := [.ref o1]) ⟨hx, hb, hml, hown, hts⟩ (mX2_init l D H.size o1) (cwI 0 hts (lw_meth q49) rfl rfl rfl (hts _ q5) (hts _ q47) (hts _ q48) rfl (by decide +kernel) ⟨(Nat.le_of_ble_eq_true rfl), (Nat.le_of_ble_eq_true rfl)⟩) (z_pre hK hP hD hS hA hX [1] [] rfl (by decide) rfl (fun _ h9 => by cases h9) (fun _ h9 => h9)) rfl rfl hl.1 rfl (lv_room (Nat.le_of_ble_eq_true rfl)) dX1_sum_8 ⟨(Nat.le_of_ble_eq_true rfl), (Nat.le_of_ble_eq_true rfl)⟩) hK hP hD hS hA [1] [0] rfl rfl (by decide) (by decide) (fun u_1 H locs h_3 _ hP hD hS => ?_)
  have hP : va_P D zCl [(q, .inl (dB, 4096, .inl a)), (o1, .inr (1, [.int 0]))] H := hP
  have hD : va_D A [(q, .inl (dB, 4096, .inl a)), (o1, .inr (1, [.int 0]))] := hD
  refine lv_astore (lv' := [(4, .ref o1), (0, .int 1), (1, .ref q), (2, .int (nI f)), (3, .int (nI n))]) hx hb dX1_sum_11 hl (by decide) rfl (fun ls hl => ?_)
  refine lv_aload hx hb dX1_sum_13 (lv_at hl 0 rfl) ?_
  refine lv_aload_n hx hb dX1_sum_15 rfl (lv_at hl 2 rfl) ?_
  refine lv_iload_n hx hb dX1_sum_16 rfl (lv_at hl 3 rfl) ?_
  refine lv_iload_n hx hb dX1_sum_17 rfl (lv_at hl 4 rfl) ?_
  refine z_gov (wr := []) (va_runV (As := [.ref q, .int (nI f), .int (nI n)]) (rest := []) ⟨hx, hb, hml, hown, hts⟩ (mX2_update l D H.size o1 q dB t a f n hfn) (cwV 3 hts (lw_V q55 q56 q57 q5 q58) rfl rfl rfl (by decide +kernel) ⟨(Nat.le_of_ble_eq_true rfl), (Nat.le_of_ble_eq_true rfl)⟩) (z_preV (q0 := 1) (ci := 1) rfl rfl hK hP hD hS hA hX [1, 0] [0] rfl (by decide) rfl (fun _ h9 => h9) (fun _ h9 => h9)) rfl rfl hl.1 rfl (lv_room (Nat.le_of_ble_eq_true rfl)) dX1_sum_18 ⟨(Nat.le_of_ble_eq_true rfl), (Nat.le_of_ble_eq_true rfl)⟩) hK hP hD hS hA [1, 0] [] rfl rfl (by decide) (by decide) (fun u_4 H locs h_6 _ hP hD hS => ?_)
  have hP : va_P D zCl [(o1, .inr (1, [.int (nI (sj_crc (fun j => sj_by (a j)) f n))])), (q, .inl (dB, 4096, .inl a))] H := hP
  have hD : va_D A [(o1, .inr (1, [.int (nI (sj_crc (fun j => sj_by (a j)) f n))])), (q, .inl (dB, 4096, .inl a))] := hD
  refine lv_aload hx hb dX1_sum_21 (lv_at hl 0 rfl) ?_
  refine z_gol (wr := [(q, .inl (dB, 4096, .inl a))]) (va_runV (As := []) (rest := []) ⟨hx, hb, hml, hown, hts⟩ (mX2_getValue l D H.size o1 (sj_crc (fun j => sj_by (a j)) f n) (sj_crc_bd (fun j => sj_by_lt _) f n)) (cwV 0 hts (lw_V q61 q62 q63 q5 q64) rfl rfl rfl (by decide +kernel) ⟨(Nat.le_of_ble_eq_true rfl), (Nat.le_of_ble_eq_true rfl)⟩) (z_preV (q0 := 0) (ci := 1) rfl rfl hK hP hD hS hA hX [0] [] rfl (by decide) rfl (fun _ h9 => by cases h9) (fun _ h9 => h9)) rfl rfl hl.1 rfl (lv_room (Nat.le_of_ble_eq_true rfl)) dX1_sum_23 ⟨(Nat.le_of_ble_eq_true rfl), (Nat.le_of_ble_eq_true rfl)⟩) hK hP hD hS hA [0] [1] rfl rfl (by decide) (by decide) (fun r_8 u_7 H locs h_9 _ hP hD hS => ?_)
  have hP : va_P D zCl [(q, .inl (dB, 4096, .inl a)), (o1, .inr (1, [.int (nI (sj_crc (fun j => sj_by (a j)) f n))]))] H := hP
  have hD : va_D A [(q, .inl (dB, 4096, .inl a)), (o1, .inr (1, [.int (nI (sj_crc (fun j => sj_by (a j)) f n))]))] := hD
  have h_9 : r_8 = lN (sj_crc (fun j => sj_by (a j)) f n) := h_9
  subst h_9
  have hP9 := hP.sub (ws' := [(q, .inl (dB, 4096, .inl a))]) [0] rfl
  have hD9 := hD.sub (ws' := [(q, .inl (dB, 4096, .inl a))]) [0] (by decide) rfl
  have hK9 := hK.sub (tys' := []) [] rfl
  exact W.lret (v := (lN (sj_crc (fun j => sj_by (a j)) f n))) hx hb hr (fun t ht hW => ⟨⟨(lN (sj_crc (fun j => sj_by (a j)) f n)), (), rfl, rfl, by rw [ht]; exact hP9, va_K.moved hW.alike hK9, hD9⟩, hS.F ht⟩) hS.2.2 dX1_sum_26
set_option maxHeartbeats 4000000 in
set_option maxRecDepth 100000 in
/-- sum: the Adler-32 -/
theorem mX1_sum0 (l : Launch) (D : va_G) (sz : Nat) (q : Nat) (dB : ClassId) (a : Nat → Int32) (f : Nat) (n : Nat) (hfn : f + n ≤ 4096) : Met l yX1_sum (ws_ yX1_sum cX1_sum 5 (some .long)) ({ frames := 2, cells := 1, slots := 2, locals := 32 }) (va_Pc [.int 0, .ref q, .int (nI f), .int (nI n)] (zP D sz [(q, .inl (dB, 4096, .inl a))] [(dB, .byte)] none none)) (va_Ql (fun (r : Int64) (_ : Unit) => r = lN (sj_adl (fun j => sj_by (a j)) f n)) (zB D (va_A [(q, .inl (dB, 4096, .inl a))] sz) (fun (_ : Unit) => [(q, .inl (dB, 4096, .inl a))]) (fun (_ : Unit) => [])) (va_A [(q, .inl (dB, 4096, .inl a))] sz)) 1 2 (va_A [(q, .inl (dB, 4096, .inl a))] sz) := by
  refine Met.ofW (cc := cX1_sum) (maxL := 5) (ret := (some .long)) (by decide) rfl ?_
  intro p e s m args below meth c s₁ B hml hv
  obtain ⟨rfl, hsz, hP, hK, hD0, hX⟩ := hv
  have hx := B.exec
  have hb := B.bytes
  have hr := B.returns
  have hts := atoms_spec (ws := ws_ yX1_sum cX1_sum 5 (some .long)) B.pre
  have hts : ∀ w ∈ lw_all, w.before _ s = true := fun w h => hts w (List.mem_cons_of_mem _ h)
  have hown : s.vm.findClass RX1 = some m.cls := findClass_of_methodNamed B.named
  have hlocks := B.notSynchronized
  subst hsz
  have hD := hD0.self (sz := s.heap.size)
  generalize hAe : va_A [(q, .inl (dB, 4096, .inl a))] s.heap.size = A at hD hX ⊢
  have hA : ∀ q : Nat, s.heap.size ≤ q → A q := fun q h => by rw [← hAe]; exact Or.inr h
  have hS : va_S A s.heap s.heap [] := va_S.rf
  have hP : va_P D zCl [(q, .inl (dB, 4096, .inl a))] s.heap := hP
  have hl := lv_entry ([.int 0, .ref q, .int (nI f), .int (nI n)]) (n := 5) (Nat.le_of_ble_eq_true rfl)
  rw [lg_entry_eq]
  generalize (lg_sl ([.int 0, .ref q, .int (nI f), .int (nI n)]) ++ List.replicate (5 - (lg_sl ([.int 0, .ref q, .int (nI f), .int (nI n)])).length) Slot.unset).toArray = ls at hl ⊢
  have hl : lv_has ls 5 [(0, .int 0), (1, .ref q), (2, .int (nI f)), (3, .int (nI n))] := hl
  refine lv_iload_n hx hb dX1_sum_0 rfl (lv_at hl 0 rfl) ?_
  refine lv_if_eq (tgt := 27) hx hb dX1_sum_1 (by decide) (fun c0 => ?_) (fun c0 => False.elim (by exact c0 rfl))
  refine va_new (ci := 2) (fs := [.long 0, .long 0]) (C := RX3) (T := TX3) (N := 2) hx hb hts in_X3 tyX3 tyX3_ok hown (hts _ q66) (hts _ q67) (hts _ q6) hK hP hD hS hA rfl (fun j hj => by rcases (show j = 0 ∨ j = 1 by omega) with rfl | rfl <;> rfl) (Nat.le_of_ble_eq_true rfl) (Nat.le_of_ble_eq_true rfl) dX1_sum_27 (fun o1 H hP hD hS => ?_)
  have hP : va_P D zCl [(q, .inl (dB, 4096, .inl a)), (o1, .inr (2, [.long 0, .long 0]))] H := hP
  have hD : va_D A [(q, .inl (dB, 4096, .inl a)), (o1, .inr (2, [.long 0, .long 0]))] := hD
  refine lv_dup hx hb dX1_sum_30 rfl ?_
  refine z_gov (wr := [(q, .inl (dB, 4096, .inl a))]) (va_runI (As := []) (rest := [.ref o1]) ⟨hx, hb, hml, hown, hts⟩ (mX3_init l D H.size o1) (cwI 0 hts (lw_meth q70) rfl rfl rfl (hts _ q6) (hts _ q68) (hts _ q69) rfl (by decide +kernel) ⟨(Nat.le_of_ble_eq_true rfl), (Nat.le_of_ble_eq_true rfl)⟩) (z_pre hK hP hD hS hA hX [1] [] rfl (by decide) rfl (fun _ h9 => h9) (fun _ h9 => h9)) rfl rfl hl.1 rfl (lv_room (Nat.le_of_ble_eq_true rfl)) dX1_sum_31 ⟨(Nat.le_of_ble_eq_true rfl), (Nat.le_of_ble_eq_true rfl)⟩) hK hP hD hS hA [1] [0] rfl rfl (by decide) (by decide) (fun u_1 H locs h_3 _ hP hD hS => ?_)
  have hP : va_P D zCl [(q, .inl (dB, 4096, .inl a)), (o1, .inr (2, [.long 1, .long 0]))] H := hP
  have hD : va_D A [(q, .inl (dB, 4096, .inl a)), (o1, .inr (2, [.long 1, .long 0]))] := hD
  refine lv_astore (lv' := [(4, .ref o1), (0, .int 0), (1, .ref q), (2, .int (nI f)), (3, .int (nI n))]) hx hb dX1_sum_34 hl (by decide) rfl (fun ls hl => ?_)
  refine lv_aload hx hb dX1_sum_36 (lv_at hl 0 rfl) ?_
  refine lv_aload_n hx hb dX1_sum_38 rfl (lv_at hl 2 rfl) ?_
  refine lv_iload_n hx hb dX1_sum_39 rfl (lv_at hl 3 rfl) ?_
  refine lv_iload_n hx hb dX1_sum_40 rfl (lv_at hl 4 rfl) ?_
  refine z_gov (wr := []) (va_runV (As := [.ref q, .int (nI f), .int (nI n)]) (rest := []) ⟨hx, hb, hml, hown, hts⟩ (mX3_update l D H.size o1 q dB a f n hfn) (cwV 3 hts (lw_V q79 q80 q81 q6 q82) rfl rfl rfl (by decide +kernel) ⟨(Nat.le_of_ble_eq_true rfl), (Nat.le_of_ble_eq_true rfl)⟩) (z_preV (q0 := 1) (ci := 2) rfl rfl hK hP hD hS hA hX [1, 0] [0] rfl (by decide) rfl (fun _ h9 => h9) (fun _ h9 => h9)) rfl rfl hl.1 rfl (lv_room (Nat.le_of_ble_eq_true rfl)) dX1_sum_41 ⟨(Nat.le_of_ble_eq_true rfl), (Nat.le_of_ble_eq_true rfl)⟩) hK hP hD hS hA [1, 0] [] rfl rfl (by decide) (by decide) (fun u_4 H locs h_6 _ hP hD hS => ?_)
  have hP : va_P D zCl [(o1, .inr (2, [.long (lN (sj_a (fun j => sj_by (a j)) f n)), .long (lN (sj_b (fun j => sj_by (a j)) f n))])), (q, .inl (dB, 4096, .inl a))] H := hP
  have hD : va_D A [(o1, .inr (2, [.long (lN (sj_a (fun j => sj_by (a j)) f n)), .long (lN (sj_b (fun j => sj_by (a j)) f n))])), (q, .inl (dB, 4096, .inl a))] := hD
  refine lv_aload hx hb dX1_sum_44 (lv_at hl 0 rfl) ?_
  refine z_gol (wr := [(q, .inl (dB, 4096, .inl a))]) (va_runV (As := []) (rest := []) ⟨hx, hb, hml, hown, hts⟩ (mX3_getValue l D H.size o1 (sj_a (fun j => sj_by (a j)) f n) (sj_b (fun j => sj_by (a j)) f n) (Nat.lt_trans (sj_a_lt _ f n) (by decide)) (Nat.lt_trans (sj_b_lt _ f n) (by decide))) (cwV 0 hts (lw_V q84 q85 q86 q6 q87) rfl rfl rfl (by decide +kernel) ⟨(Nat.le_of_ble_eq_true rfl), (Nat.le_of_ble_eq_true rfl)⟩) (z_preV (q0 := 0) (ci := 2) rfl rfl hK hP hD hS hA hX [0] [] rfl (by decide) rfl (fun _ h9 => h9) (fun _ h9 => h9)) rfl rfl hl.1 rfl (lv_room (Nat.le_of_ble_eq_true rfl)) dX1_sum_46 ⟨(Nat.le_of_ble_eq_true rfl), (Nat.le_of_ble_eq_true rfl)⟩) hK hP hD hS hA [0] [1] rfl rfl (by decide) (by decide) (fun r_8 u_7 H locs h_9 _ hP hD hS => ?_)
  have hP : va_P D zCl [(q, .inl (dB, 4096, .inl a)), (o1, .inr (2, [.long (lN (sj_a (fun j => sj_by (a j)) f n)), .long (lN (sj_b (fun j => sj_by (a j)) f n))]))] H := hP
  have hD : va_D A [(q, .inl (dB, 4096, .inl a)), (o1, .inr (2, [.long (lN (sj_a (fun j => sj_by (a j)) f n)), .long (lN (sj_b (fun j => sj_by (a j)) f n))]))] := hD
  have h_9 : r_8 = lN ((sj_b (fun j => sj_by (a j)) f n) * 65536 + (sj_a (fun j => sj_by (a j)) f n)) := h_9
  subst h_9
  have hP9 := hP.sub (ws' := [(q, .inl (dB, 4096, .inl a))]) [0] rfl
  have hD9 := hD.sub (ws' := [(q, .inl (dB, 4096, .inl a))]) [0] (by decide) rfl
  have hK9 := hK.sub (tys' := []) [] rfl
  exact W.lret (v := (lN ((sj_b (fun j => sj_by (a j)) f n) * 65536 + (sj_a (fun j => sj_by (a j)) f n)))) hx hb hr (fun t ht hW => ⟨⟨(lN ((sj_b (fun j => sj_by (a j)) f n) * 65536 + (sj_a (fun j => sj_by (a j)) f n))), (), rfl, rfl, by rw [ht]; exact hP9, va_K.moved hW.alike hK9, hD9⟩, hS.F ht⟩) hS.2.2 dX1_sum_49
set_option maxHeartbeats 4000000 in
set_option maxRecDepth 100000 in
/-- crc -/
theorem mX1_crc (l : Launch) (D : va_G) (sz : Nat) (h0 : Nat) (q : Nat) (dB : ClassId) (t : Nat) (n : Nat) (a : Nat → Int32) (x : Int32) (y : Int32) (hn : n ≤ 4096) : Met l yX1_crc (ws_ yX1_crc cX1_crc 4 (some .long)) ({ frames := 3, cells := 1, slots := 1, locals := 56 }) (va_Pc [.ref h0, .int x, .int y] (zP D sz [(h0, .inr (0, [.ref q, .int (nI n)])), (q, .inl (dB, 4096, .inl a))] [(dB, .byte)] (some t) none)) (va_Ql (fun (r : Int64) (_ : Unit) => r = lN (sj_crc (fun j => sj_by (a j)) (sj_pos x % (n + 1)) (sj_pos y % (n - sj_pos x % (n + 1) + 1)))) (zB D (va_A [(h0, .inr (0, [.ref q, .int (nI n)])), (q, .inl (dB, 4096, .inl a))] sz) (fun (_ : Unit) => [(h0, .inr (0, [.ref q, .int (nI n)])), (q, .inl (dB, 4096, .inl a))]) (fun (_ : Unit) => [])) (va_A [(h0, .inr (0, [.ref q, .int (nI n)])), (q, .inl (dB, 4096, .inl a))] sz)) 1 1 (va_A [(h0, .inr (0, [.ref q, .int (nI n)])), (q, .inl (dB, 4096, .inl a))] sz) := by
  refine Met.ofW (cc := cX1_crc) (maxL := 4) (ret := (some .long)) (by decide) rfl ?_
  intro p e s m args below meth c s₁ B hml hv
  obtain ⟨rfl, hsz, hP, hK, hD0, hX⟩ := hv
  have hx := B.exec
  have hb := B.bytes
  have hr := B.returns
  have hts := atoms_spec (ws := ws_ yX1_crc cX1_crc 4 (some .long)) B.pre
  have hts : ∀ w ∈ lw_all, w.before _ s = true := fun w h => hts w (List.mem_cons_of_mem _ h)
  have hown : s.vm.findClass RX1 = some m.cls := findClass_of_methodNamed B.named
  have hlocks := B.notSynchronized
  subst hsz
  have hD := hD0.self (sz := s.heap.size)
  generalize hAe : va_A [(h0, .inr (0, [.ref q, .int (nI n)])), (q, .inl (dB, 4096, .inl a))] s.heap.size = A at hD hX ⊢
  have hA : ∀ q : Nat, s.heap.size ≤ q → A q := fun q h => by rw [← hAe]; exact Or.inr h
  have hS : va_S A s.heap s.heap [] := va_S.rf
  have hP : va_P D zCl [(h0, .inr (0, [.ref q, .int (nI n)])), (q, .inl (dB, 4096, .inl a))] s.heap := hP
  have hZt : va_Z "CRC32" "crc_table" "[I" (.ref t) A s s.heap := (hX.1 t rfl).1
  have hTt : va_T .int t 256 (fun j => .int (nI (sj_c8 j))) A s s.heap := (hX.1 t rfl).2
  have hl := lv_entry ([.ref h0, .int x, .int y]) (n := 4) (Nat.le_of_ble_eq_true rfl)
  rw [lg_entry_eq]
  generalize (lg_sl ([.ref h0, .int x, .int y]) ++ List.replicate (4 - (lg_sl ([.ref h0, .int x, .int y])).length) Slot.unset).toArray = ls at hl ⊢
  have hl : lv_has ls 4 [(0, .ref h0), (1, .int x), (2, .int y)] := hl
  refine lv_aload_n hx hb dX1_crc_0 rfl (lv_at hl 0 rfl) ?_
  refine lv_iload_n hx hb dX1_crc_1 rfl (lv_at hl 1 rfl) ?_
  refine z_goi (wr := [(q, .inl (dB, 4096, .inl a))]) (va_runV (As := [.int x]) (rest := []) ⟨hx, hb, hml, hown, hts⟩ (mX1_from l D s.heap.size h0 q n x hn) (cwV 1 hts (lw_V q33 q35 qs0 q4 q36) rfl rfl rfl (by decide +kernel) ⟨(Nat.le_of_ble_eq_true rfl), (Nat.le_of_ble_eq_true rfl)⟩) (z_preV (q0 := 0) (ci := 0) rfl rfl hK hP hD hS hA hX [0] [] rfl (by decide) rfl (fun _ h9 => by cases h9) (fun _ h9 => h9)) rfl rfl hl.1 rfl (lv_room (Nat.le_of_ble_eq_true rfl)) dX1_crc_2 ⟨(Nat.le_of_ble_eq_true rfl), (Nat.le_of_ble_eq_true rfl)⟩) hK hP hD hS hA [0] [1] rfl rfl (by decide) (by decide) (fun r_2 u_1 H locs h_3 _ hP hD hS => ?_)
  have hP : va_P D zCl [(q, .inl (dB, 4096, .inl a)), (h0, .inr (0, [.ref q, .int (nI n)]))] H := hP
  have hD : va_D A [(q, .inl (dB, 4096, .inl a)), (h0, .inr (0, [.ref q, .int (nI n)]))] := hD
  have h_3 : r_2 = nI (sj_pos x % (n + 1)) := h_3
  subst h_3
  have hf := Nat.lt_succ_iff.mp (Nat.mod_lt (sj_pos x) (Nat.succ_pos n))
  generalize sj_pos x % (n + 1) = f at hf ⊢
  refine lv_istore_n (lv' := [(3, .int (nI f)), (0, .ref h0), (1, .int x), (2, .int y)]) hx hb dX1_crc_5 rfl hl (by decide) rfl (fun ls hl => ?_)
  refine lv_iconst (v := 1) hx hb dX1_crc_6 (by decide) ?_
  refine lv_aload_n hx hb dX1_crc_7 rfl (lv_at hl 1 rfl) ?_
  refine va_get (D := D) (ci := 0) (v := .ref q) (C := RX1) (T := TX1) (N := 2) hx hb hts in_X1 hown hK hP 1 rfl rfl 0 (by decide) (hts _ q21) (fun _ h9 => h9) rfl dX1_crc_8 ?_
  refine lv_iload_n hx hb dX1_crc_11 rfl (lv_at hl 0 rfl) ?_
  refine lv_aload_n hx hb dX1_crc_12 rfl (lv_at hl 1 rfl) ?_
  refine lv_iload_n hx hb dX1_crc_13 rfl (lv_at hl 0 rfl) ?_
  refine lv_iload_n hx hb dX1_crc_14 rfl (lv_at hl 3 rfl) ?_
  refine z_goi (wr := [(q, .inl (dB, 4096, .inl a))]) (va_runV (As := [.int (nI f), .int y]) (rest := [.int (nI f), .ref q, .int 1]) ⟨hx, hb, hml, hown, hts⟩ (mX1_count l D H.size h0 q n f y hn hf) (cwV 2 hts (lw_V q38 q40 qs1 q4 q41) rfl rfl rfl (by decide +kernel) ⟨(Nat.le_of_ble_eq_true rfl), (Nat.le_of_ble_eq_true rfl)⟩) (z_preV (q0 := 1) (ci := 0) rfl rfl hK hP hD hS hA hX [1] [] rfl (by decide) rfl (fun _ h9 => by cases h9) (fun _ h9 => h9)) rfl rfl hl.1 rfl (lv_room (Nat.le_of_ble_eq_true rfl)) dX1_crc_15 ⟨(Nat.le_of_ble_eq_true rfl), (Nat.le_of_ble_eq_true rfl)⟩) hK hP hD hS hA [1] [0] rfl rfl (by decide) (by decide) (fun r_5 u_4 H locs h_6 _ hP hD hS => ?_)
  have hP : va_P D zCl [(q, .inl (dB, 4096, .inl a)), (h0, .inr (0, [.ref q, .int (nI n)]))] H := hP
  have hD : va_D A [(q, .inl (dB, 4096, .inl a)), (h0, .inr (0, [.ref q, .int (nI n)]))] := hD
  have h_6 : r_5 = nI (sj_pos y % (n - f + 1)) := h_6
  subst h_6
  have hc := Nat.lt_succ_iff.mp (Nat.mod_lt (sj_pos y) (Nat.succ_pos (n - f)))
  generalize sj_pos y % (n - f + 1) = cn at hc ⊢
  refine z_gol (wr := [(h0, .inr (0, [.ref q, .int (nI n)]))]) (va_runS (As := [.int 1, .ref q, .int (nI f), .int (nI cn)]) (rest := []) ⟨hx, hb, hml, hown, hts⟩ (mX1_sum1 l D H.size q dB t a f cn (by omega)) (va_cwS 4 hts (lw_S q42 q43 q4 q44) rfl rfl rfl (by decide +kernel) ⟨(Nat.le_of_ble_eq_true rfl), (Nat.le_of_ble_eq_true rfl)⟩) (z_pre hK hP hD hS hA hX [0] [0] rfl (by decide) rfl (fun _ h9 => h9) (fun _ h9 => h9)) rfl rfl hl.1 rfl (lv_room (Nat.le_of_ble_eq_true rfl)) dX1_crc_18 ⟨(Nat.le_of_ble_eq_true rfl), (Nat.le_of_ble_eq_true rfl)⟩) hK hP hD hS hA [0] [1] rfl rfl (by decide) (by decide) (fun r_8 u_7 H locs h_9 _ hP hD hS => ?_)
  have hP : va_P D zCl [(h0, .inr (0, [.ref q, .int (nI n)])), (q, .inl (dB, 4096, .inl a))] H := hP
  have hD : va_D A [(h0, .inr (0, [.ref q, .int (nI n)])), (q, .inl (dB, 4096, .inl a))] := hD
  have h_9 : r_8 = lN (sj_crc (fun j => sj_by (a j)) f cn) := h_9
  subst h_9
  have hP9 := hP.sub (ws' := [(h0, .inr (0, [.ref q, .int (nI n)])), (q, .inl (dB, 4096, .inl a))]) [0, 1] rfl
  have hD9 := hD.sub (ws' := [(h0, .inr (0, [.ref q, .int (nI n)])), (q, .inl (dB, 4096, .inl a))]) [0, 1] (by decide) rfl
  have hK9 := hK.sub (tys' := []) [] rfl
  exact W.lret (v := (lN (sj_crc (fun j => sj_by (a j)) f cn))) hx hb hr (fun t ht hW => ⟨⟨(lN (sj_crc (fun j => sj_by (a j)) f cn)), (), rfl, rfl, by rw [ht]; exact hP9, va_K.moved hW.alike hK9, hD9⟩, hS.F ht⟩) hS.2.2 dX1_crc_21
set_option maxHeartbeats 4000000 in
set_option maxRecDepth 100000 in
/-- adler -/
theorem mX1_adler (l : Launch) (D : va_G) (sz : Nat) (h0 : Nat) (q : Nat) (dB : ClassId) (n : Nat) (a : Nat → Int32) (x : Int32) (y : Int32) (hn : n ≤ 4096) : Met l yX1_adler (ws_ yX1_adler cX1_adler 4 (some .long)) ({ frames := 3, cells := 1, slots := 2, locals := 56 }) (va_Pc [.ref h0, .int x, .int y] (zP D sz [(h0, .inr (0, [.ref q, .int (nI n)])), (q, .inl (dB, 4096, .inl a))] [(dB, .byte)] none none)) (va_Ql (fun (r : Int64) (_ : Unit) => r = lN (sj_adl (fun j => sj_by (a j)) (sj_pos x % (n + 1)) (sj_pos y % (n - sj_pos x % (n + 1) + 1)))) (zB D (va_A [(h0, .inr (0, [.ref q, .int (nI n)])), (q, .inl (dB, 4096, .inl a))] sz) (fun (_ : Unit) => [(h0, .inr (0, [.ref q, .int (nI n)])), (q, .inl (dB, 4096, .inl a))]) (fun (_ : Unit) => [])) (va_A [(h0, .inr (0, [.ref q, .int (nI n)])), (q, .inl (dB, 4096, .inl a))] sz)) 1 2 (va_A [(h0, .inr (0, [.ref q, .int (nI n)])), (q, .inl (dB, 4096, .inl a))] sz) := by
  refine Met.ofW (cc := cX1_adler) (maxL := 4) (ret := (some .long)) (by decide) rfl ?_
  intro p e s m args below meth c s₁ B hml hv
  obtain ⟨rfl, hsz, hP, hK, hD0, hX⟩ := hv
  have hx := B.exec
  have hb := B.bytes
  have hr := B.returns
  have hts := atoms_spec (ws := ws_ yX1_adler cX1_adler 4 (some .long)) B.pre
  have hts : ∀ w ∈ lw_all, w.before _ s = true := fun w h => hts w (List.mem_cons_of_mem _ h)
  have hown : s.vm.findClass RX1 = some m.cls := findClass_of_methodNamed B.named
  have hlocks := B.notSynchronized
  subst hsz
  have hD := hD0.self (sz := s.heap.size)
  generalize hAe : va_A [(h0, .inr (0, [.ref q, .int (nI n)])), (q, .inl (dB, 4096, .inl a))] s.heap.size = A at hD hX ⊢
  have hA : ∀ q : Nat, s.heap.size ≤ q → A q := fun q h => by rw [← hAe]; exact Or.inr h
  have hS : va_S A s.heap s.heap [] := va_S.rf
  have hP : va_P D zCl [(h0, .inr (0, [.ref q, .int (nI n)])), (q, .inl (dB, 4096, .inl a))] s.heap := hP
  have hl := lv_entry ([.ref h0, .int x, .int y]) (n := 4) (Nat.le_of_ble_eq_true rfl)
  rw [lg_entry_eq]
  generalize (lg_sl ([.ref h0, .int x, .int y]) ++ List.replicate (4 - (lg_sl ([.ref h0, .int x, .int y])).length) Slot.unset).toArray = ls at hl ⊢
  have hl : lv_has ls 4 [(0, .ref h0), (1, .int x), (2, .int y)] := hl
  refine lv_aload_n hx hb dX1_adler_0 rfl (lv_at hl 0 rfl) ?_
  refine lv_iload_n hx hb dX1_adler_1 rfl (lv_at hl 1 rfl) ?_
  refine z_goi (wr := [(q, .inl (dB, 4096, .inl a))]) (va_runV (As := [.int x]) (rest := []) ⟨hx, hb, hml, hown, hts⟩ (mX1_from l D s.heap.size h0 q n x hn) (cwV 1 hts (lw_V q33 q35 qs0 q4 q36) rfl rfl rfl (by decide +kernel) ⟨(Nat.le_of_ble_eq_true rfl), (Nat.le_of_ble_eq_true rfl)⟩) (z_preV (q0 := 0) (ci := 0) rfl rfl hK hP hD hS hA hX [0] [] rfl (by decide) rfl (fun _ h9 => h9) (fun _ h9 => h9)) rfl rfl hl.1 rfl (lv_room (Nat.le_of_ble_eq_true rfl)) dX1_adler_2 ⟨(Nat.le_of_ble_eq_true rfl), (Nat.le_of_ble_eq_true rfl)⟩) hK hP hD hS hA [0] [1] rfl rfl (by decide) (by decide) (fun r_2 u_1 H locs h_3 _ hP hD hS => ?_)
  have hP : va_P D zCl [(q, .inl (dB, 4096, .inl a)), (h0, .inr (0, [.ref q, .int (nI n)]))] H := hP
  have hD : va_D A [(q, .inl (dB, 4096, .inl a)), (h0, .inr (0, [.ref q, .int (nI n)]))] := hD
  have h_3 : r_2 = nI (sj_pos x % (n + 1)) := h_3
  subst h_3
  have hf := Nat.lt_succ_iff.mp (Nat.mod_lt (sj_pos x) (Nat.succ_pos n))
  generalize sj_pos x % (n + 1) = f at hf ⊢
  refine lv_istore_n (lv' := [(3, .int (nI f)), (0, .ref h0), (1, .int x), (2, .int y)]) hx hb dX1_adler_5 rfl hl (by decide) rfl (fun ls hl => ?_)
  refine lv_iconst (v := 0) hx hb dX1_adler_6 (by decide) ?_
  refine lv_aload_n hx hb dX1_adler_7 rfl (lv_at hl 1 rfl) ?_
  refine va_get (D := D) (ci := 0) (v := .ref q) (C := RX1) (T := TX1) (N := 2) hx hb hts in_X1 hown hK hP 1 rfl rfl 0 (by decide) (hts _ q21) (fun _ h9 => h9) rfl dX1_adler_8 ?_
  refine lv_iload_n hx hb dX1_adler_11 rfl (lv_at hl 0 rfl) ?_
  refine lv_aload_n hx hb dX1_adler_12 rfl (lv_at hl 1 rfl) ?_
  refine lv_iload_n hx hb dX1_adler_13 rfl (lv_at hl 0 rfl) ?_
  refine lv_iload_n hx hb dX1_adler_14 rfl (lv_at hl 3 rfl) ?_
  refine z_goi (wr := [(q, .inl (dB, 4096, .inl a))]) (va_runV (As := [.int (nI f), .int y]) (rest := [.int (nI f), .ref q, .int 0]) ⟨hx, hb, hml, hown, hts⟩ (mX1_count l D H.size h0 q n f y hn hf) (cwV 2 hts (lw_V q38 q40 qs1 q4 q41) rfl rfl rfl (by decide +kernel) ⟨(Nat.le_of_ble_eq_true rfl), (Nat.le_of_ble_eq_true rfl)⟩) (z_preV (q0 := 1) (ci := 0) rfl rfl hK hP hD hS hA hX [1] [] rfl (by decide) rfl (fun _ h9 => h9) (fun _ h9 => h9)) rfl rfl hl.1 rfl (lv_room (Nat.le_of_ble_eq_true rfl)) dX1_adler_15 ⟨(Nat.le_of_ble_eq_true rfl), (Nat.le_of_ble_eq_true rfl)⟩) hK hP hD hS hA [1] [0] rfl rfl (by decide) (by decide) (fun r_5 u_4 H locs h_6 _ hP hD hS => ?_)
  have hP : va_P D zCl [(q, .inl (dB, 4096, .inl a)), (h0, .inr (0, [.ref q, .int (nI n)]))] H := hP
  have hD : va_D A [(q, .inl (dB, 4096, .inl a)), (h0, .inr (0, [.ref q, .int (nI n)]))] := hD
  have h_6 : r_5 = nI (sj_pos y % (n - f + 1)) := h_6
  subst h_6
  have hc := Nat.lt_succ_iff.mp (Nat.mod_lt (sj_pos y) (Nat.succ_pos (n - f)))
  generalize sj_pos y % (n - f + 1) = cn at hc ⊢
  refine z_gol (wr := [(h0, .inr (0, [.ref q, .int (nI n)]))]) (va_runS (As := [.int 0, .ref q, .int (nI f), .int (nI cn)]) (rest := []) ⟨hx, hb, hml, hown, hts⟩ (mX1_sum0 l D H.size q dB a f cn (by omega)) (va_cwS 4 hts (lw_S q42 q43 q4 q44) rfl rfl rfl (by decide +kernel) ⟨(Nat.le_of_ble_eq_true rfl), (Nat.le_of_ble_eq_true rfl)⟩) (z_pre hK hP hD hS hA hX [0] [0] rfl (by decide) rfl (fun _ h9 => h9) (fun _ h9 => h9)) rfl rfl hl.1 rfl (lv_room (Nat.le_of_ble_eq_true rfl)) dX1_adler_18 ⟨(Nat.le_of_ble_eq_true rfl), (Nat.le_of_ble_eq_true rfl)⟩) hK hP hD hS hA [0] [1] rfl rfl (by decide) (by decide) (fun r_8 u_7 H locs h_9 _ hP hD hS => ?_)
  have hP : va_P D zCl [(h0, .inr (0, [.ref q, .int (nI n)])), (q, .inl (dB, 4096, .inl a))] H := hP
  have hD : va_D A [(h0, .inr (0, [.ref q, .int (nI n)])), (q, .inl (dB, 4096, .inl a))] := hD
  have h_9 : r_8 = lN (sj_adl (fun j => sj_by (a j)) f cn) := h_9
  subst h_9
  have hP9 := hP.sub (ws' := [(h0, .inr (0, [.ref q, .int (nI n)])), (q, .inl (dB, 4096, .inl a))]) [0, 1] rfl
  have hD9 := hD.sub (ws' := [(h0, .inr (0, [.ref q, .int (nI n)])), (q, .inl (dB, 4096, .inl a))]) [0, 1] (by decide) rfl
  have hK9 := hK.sub (tys' := []) [] rfl
  exact W.lret (v := (lN (sj_adl (fun j => sj_by (a j)) f cn))) hx hb hr (fun t ht hW => ⟨⟨(lN (sj_adl (fun j => sj_by (a j)) f cn)), (), rfl, rfl, by rw [ht]; exact hP9, va_K.moved hW.alike hK9, hD9⟩, hS.F ht⟩) hS.2.2 dX1_adler_21
set_option maxHeartbeats 4000000 in
set_option maxRecDepth 100000 in
/-- joinCrc -/
theorem mX1_joinCrc (l : Launch) (D : va_G) (sz : Nat) (h0 : Nat) (q : Nat) (dB : ClassId) (t : Nat) (n : Nat) (a : Nat → Int32) (x : Int32) (y : Int32) (z : Int32) (hn : n ≤ 4096) : Met l yX1_joinCrc (ws_ yX1_joinCrc cX1_joinCrc 7 (some .long)) ({ frames := 3, cells := 4, slots := 66, locals := 77 }) (va_Pc [.ref h0, .int x, .int y, .int z] (zP D sz [(h0, .inr (0, [.ref q, .int (nI n)])), (q, .inl (dB, 4096, .inl a))] [(dB, .byte)] (some t) none)) (va_Ql (fun (r : Int64) (_ : Unit) => r = lN (sj_crc (fun j => sj_by (a j)) (sj_pos x % (n + 1)) (sj_pos y % (n - sj_pos x % (n + 1) + 1)))) (zB D (va_A [(h0, .inr (0, [.ref q, .int (nI n)])), (q, .inl (dB, 4096, .inl a))] sz) (fun (_ : Unit) => [(h0, .inr (0, [.ref q, .int (nI n)])), (q, .inl (dB, 4096, .inl a))]) (fun (_ : Unit) => [])) (va_A [(h0, .inr (0, [.ref q, .int (nI n)])), (q, .inl (dB, 4096, .inl a))] sz)) 4 66 (va_A [(h0, .inr (0, [.ref q, .int (nI n)])), (q, .inl (dB, 4096, .inl a))] sz) := by
  refine Met.ofW (cc := cX1_joinCrc) (maxL := 7) (ret := (some .long)) (by decide) rfl ?_
  intro p e s m args below meth c s₁ B hml hv
  obtain ⟨rfl, hsz, hP, hK, hD0, hX⟩ := hv
  have hx := B.exec
  have hb := B.bytes
  have hr := B.returns
  have hts := atoms_spec (ws := ws_ yX1_joinCrc cX1_joinCrc 7 (some .long)) B.pre
  have hts : ∀ w ∈ lw_all, w.before _ s = true := fun w h => hts w (List.mem_cons_of_mem _ h)
  have hown : s.vm.findClass RX1 = some m.cls := findClass_of_methodNamed B.named
  have hlocks := B.notSynchronized
  subst hsz
  have hD := hD0.self (sz := s.heap.size)
  generalize hAe : va_A [(h0, .inr (0, [.ref q, .int (nI n)])), (q, .inl (dB, 4096, .inl a))] s.heap.size = A at hD hX ⊢
  have hA : ∀ q : Nat, s.heap.size ≤ q → A q := fun q h => by rw [← hAe]; exact Or.inr h
  have hS : va_S A s.heap s.heap [] := va_S.rf
  have hP : va_P D zCl [(h0, .inr (0, [.ref q, .int (nI n)])), (q, .inl (dB, 4096, .inl a))] s.heap := hP
  have hZt : va_Z "CRC32" "crc_table" "[I" (.ref t) A s s.heap := (hX.1 t rfl).1
  have hTt : va_T .int t 256 (fun j => .int (nI (sj_c8 j))) A s s.heap := (hX.1 t rfl).2
  have hl := lv_entry ([.ref h0, .int x, .int y, .int z]) (n := 7) (Nat.le_of_ble_eq_true rfl)
  rw [lg_entry_eq]
  generalize (lg_sl ([.ref h0, .int x, .int y, .int z]) ++ List.replicate (7 - (lg_sl ([.ref h0, .int x, .int y, .int z])).length) Slot.unset).toArray = ls at hl ⊢
  have hl : lv_has ls 7 [(0, .ref h0), (1, .int x), (2, .int y), (3, .int z)] := hl
  refine lv_aload_n hx hb dX1_joinCrc_0 rfl (lv_at hl 0 rfl) ?_
  refine lv_iload_n hx hb dX1_joinCrc_1 rfl (lv_at hl 1 rfl) ?_
  refine z_goi (wr := [(q, .inl (dB, 4096, .inl a))]) (va_runV (As := [.int x]) (rest := []) ⟨hx, hb, hml, hown, hts⟩ (mX1_from l D s.heap.size h0 q n x hn) (cwV 1 hts (lw_V q33 q35 qs0 q4 q36) rfl rfl rfl (by decide +kernel) ⟨(Nat.le_of_ble_eq_true rfl), (Nat.le_of_ble_eq_true rfl)⟩) (z_preV (q0 := 0) (ci := 0) rfl rfl hK hP hD hS hA hX [0] [] rfl (by decide) rfl (fun _ h9 => by cases h9) (fun _ h9 => h9)) rfl rfl hl.1 rfl (lv_room (Nat.le_of_ble_eq_true rfl)) dX1_joinCrc_2 ⟨(Nat.le_of_ble_eq_true rfl), (Nat.le_of_ble_eq_true rfl)⟩) hK hP hD hS hA [0] [1] rfl rfl (by decide) (by decide) (fun r_2 u_1 H locs h_3 _ hP hD hS => ?_)
  have hP : va_P D zCl [(q, .inl (dB, 4096, .inl a)), (h0, .inr (0, [.ref q, .int (nI n)]))] H := hP
  have hD : va_D A [(q, .inl (dB, 4096, .inl a)), (h0, .inr (0, [.ref q, .int (nI n)]))] := hD
  have h_3 : r_2 = nI (sj_pos x % (n + 1)) := h_3
  subst h_3
  have hf := Nat.lt_succ_iff.mp (Nat.mod_lt (sj_pos x) (Nat.succ_pos n))
  generalize sj_pos x % (n + 1) = f at hf ⊢
  refine lv_istore (lv' := [(4, .int (nI f)), (0, .ref h0), (1, .int x), (2, .int y), (3, .int z)]) hx hb dX1_joinCrc_5 hl (by decide) rfl (fun ls hl => ?_)
  refine lv_aload_n hx hb dX1_joinCrc_7 rfl (lv_at hl 1 rfl) ?_
  refine lv_iload hx hb dX1_joinCrc_8 (lv_at hl 0 rfl) ?_
  refine lv_iload_n hx hb dX1_joinCrc_10 rfl (lv_at hl 3 rfl) ?_
  refine z_goi (wr := [(q, .inl (dB, 4096, .inl a))]) (va_runV (As := [.int (nI f), .int y]) (rest := []) ⟨hx, hb, hml, hown, hts⟩ (mX1_count l D H.size h0 q n f y hn hf) (cwV 2 hts (lw_V q38 q40 qs1 q4 q41) rfl rfl rfl (by decide +kernel) ⟨(Nat.le_of_ble_eq_true rfl), (Nat.le_of_ble_eq_true rfl)⟩) (z_preV (q0 := 1) (ci := 0) rfl rfl hK hP hD hS hA hX [1] [] rfl (by decide) rfl (fun _ h9 => by cases h9) (fun _ h9 => h9)) rfl rfl hl.1 rfl (lv_room (Nat.le_of_ble_eq_true rfl)) dX1_joinCrc_11 ⟨(Nat.le_of_ble_eq_true rfl), (Nat.le_of_ble_eq_true rfl)⟩) hK hP hD hS hA [1] [0] rfl rfl (by decide) (by decide) (fun r_5 u_4 H locs h_6 _ hP hD hS => ?_)
  have hP : va_P D zCl [(q, .inl (dB, 4096, .inl a)), (h0, .inr (0, [.ref q, .int (nI n)]))] H := hP
  have hD : va_D A [(q, .inl (dB, 4096, .inl a)), (h0, .inr (0, [.ref q, .int (nI n)]))] := hD
  have h_6 : r_5 = nI (sj_pos y % (n - f + 1)) := h_6
  subst h_6
  have hc := Nat.lt_succ_iff.mp (Nat.mod_lt (sj_pos y) (Nat.succ_pos (n - f)))
  generalize sj_pos y % (n - f + 1) = cn at hc ⊢
  refine lv_istore (lv' := [(5, .int (nI cn)), (4, .int (nI f)), (0, .ref h0), (1, .int x), (2, .int y), (3, .int z)]) hx hb dX1_joinCrc_14 hl (by decide) rfl (fun ls hl => ?_)
  refine lv_iload_n hx hb dX1_joinCrc_16 rfl (lv_at hl 5 rfl) ?_
  refine lv_ldc (v := 2147483647) hx hb hown (hts _ q37) dX1_joinCrc_17 ?_
  refine lv_iand hx hb dX1_joinCrc_19 ?_
  refine lv_topi (fun x_7 e_7 => ?_)
  have e_7 : x_7 = nI (sj_pos z) := by refine e_7.trans ?_; exact zj_pos z
  subst e_7
  refine lv_iload hx hb dX1_joinCrc_20 (lv_at hl 0 rfl) ?_
  refine lv_iconst (v := 1) hx hb dX1_joinCrc_22 (by decide) ?_
  refine lv_iadd hx hb dX1_joinCrc_23 ?_
  refine lv_topi (fun x_8 e_8 => ?_)
  have e_8 : x_8 = nI (cn + 1) := by refine e_8.trans ?_; exact nI_1 cn
  subst e_8
  refine lv_irem hx hb dX1_joinCrc_24 (nI_ne0 (by omega) (by omega)) ?_
  refine lv_topi (fun x_9 e_9 => ?_)
  have e_9 : x_9 = nI (sj_pos z % (cn + 1)) := by refine e_9.trans ?_; exact pk_rem (sj_pos_lt z) (by omega) (by omega)
  subst e_9
  have hk := Nat.lt_succ_iff.mp (Nat.mod_lt (sj_pos z) (Nat.succ_pos cn))
  generalize sj_pos z % (cn + 1) = kn at hk ⊢
  refine lv_istore (lv' := [(6, .int (nI kn)), (5, .int (nI cn)), (4, .int (nI f)), (0, .ref h0), (1, .int x), (2, .int y), (3, .int z)]) hx hb dX1_joinCrc_25 hl (by decide) rfl (fun ls hl => ?_)
  refine lv_iconst (v := 1) hx hb dX1_joinCrc_27 (by decide) ?_
  refine lv_aload_n hx hb dX1_joinCrc_28 rfl (lv_at hl 3 rfl) ?_
  refine va_get (D := D) (ci := 0) (v := .ref q) (C := RX1) (T := TX1) (N := 2) hx hb hts in_X1 hown hK hP 1 rfl rfl 0 (by decide) (hts _ q21) (fun _ h9 => h9) rfl dX1_joinCrc_29 ?_
  refine lv_iload hx hb dX1_joinCrc_32 (lv_at hl 2 rfl) ?_
  refine lv_iload hx hb dX1_joinCrc_34 (lv_at hl 0 rfl) ?_
  refine z_gol (wr := [(h0, .inr (0, [.ref q, .int (nI n)]))]) (va_runS (As := [.int 1, .ref q, .int (nI f), .int (nI kn)]) (rest := []) ⟨hx, hb, hml, hown, hts⟩ (mX1_sum1 l D H.size q dB t a f kn (by omega)) (va_cwS 4 hts (lw_S q42 q43 q4 q44) rfl rfl rfl (by decide +kernel) ⟨(Nat.le_of_ble_eq_true rfl), (Nat.le_of_ble_eq_true rfl)⟩) (z_pre hK hP hD hS hA hX [0] [0] rfl (by decide) rfl (fun _ h9 => h9) (fun _ h9 => h9)) rfl rfl hl.1 rfl (lv_room (Nat.le_of_ble_eq_true rfl)) dX1_joinCrc_36 ⟨(Nat.le_of_ble_eq_true rfl), (Nat.le_of_ble_eq_true rfl)⟩) hK hP hD hS hA [0] [1] rfl rfl (by decide) (by decide) (fun r_11 u_10 H locs h_12 _ hP hD hS => ?_)
  have hP : va_P D zCl [(h0, .inr (0, [.ref q, .int (nI n)])), (q, .inl (dB, 4096, .inl a))] H := hP
  have hD : va_D A [(h0, .inr (0, [.ref q, .int (nI n)])), (q, .inl (dB, 4096, .inl a))] := hD
  have h_12 : r_11 = lN (sj_crc (fun j => sj_by (a j)) f kn) := h_12
  subst h_12
  refine lv_iconst (v := 1) hx hb dX1_joinCrc_39 (by decide) ?_
  refine lv_aload_n hx hb dX1_joinCrc_40 rfl (lv_at hl 3 rfl) ?_
  refine va_get (D := D) (ci := 0) (v := .ref q) (C := RX1) (T := TX1) (N := 2) hx hb hts in_X1 hown hK hP 0 rfl rfl 0 (by decide) (hts _ q21) (fun _ h9 => h9) rfl dX1_joinCrc_41 ?_
  refine lv_iload hx hb dX1_joinCrc_44 (lv_at hl 2 rfl) ?_
  refine lv_iload hx hb dX1_joinCrc_46 (lv_at hl 0 rfl) ?_
  refine lv_iadd hx hb dX1_joinCrc_48 ?_
  refine lv_topi (fun x_13 e_13 => ?_)
  have e_13 : x_13 = nI (f + kn) := by refine e_13.trans ?_; exact nI_add f kn
  subst e_13
  refine lv_iload hx hb dX1_joinCrc_49 (lv_at hl 1 rfl) ?_
  refine lv_iload hx hb dX1_joinCrc_51 (lv_at hl 0 rfl) ?_
  refine lv_isub hx hb dX1_joinCrc_53 ?_
  refine lv_topi (fun x_14 e_14 => ?_)
  have e_14 : x_14 = nI (cn - kn) := by refine e_14.trans ?_; exact pk_sub hk
  subst e_14
  refine z_gol (wr := [(h0, .inr (0, [.ref q, .int (nI n)]))]) (va_runS (As := [.int 1, .ref q, .int (nI (f + kn)), .int (nI (cn - kn))]) (rest := [.long (lN (sj_crc (fun j => sj_by (a j)) f kn))]) ⟨hx, hb, hml, hown, hts⟩ (mX1_sum1 l D H.size q dB t a (f + kn) (cn - kn) (by omega)) (va_cwS 4 hts (lw_S q42 q43 q4 q44) rfl rfl rfl (by decide +kernel) ⟨(Nat.le_of_ble_eq_true rfl), (Nat.le_of_ble_eq_true rfl)⟩) (z_pre hK hP hD hS hA hX [1] [0] rfl (by decide) rfl (fun _ h9 => h9) (fun _ h9 => h9)) rfl rfl hl.1 rfl (lv_room (Nat.le_of_ble_eq_true rfl)) dX1_joinCrc_54 ⟨(Nat.le_of_ble_eq_true rfl), (Nat.le_of_ble_eq_true rfl)⟩) hK hP hD hS hA [1] [0] rfl rfl (by decide) (by decide) (fun r_16 u_15 H locs h_17 _ hP hD hS => ?_)
  have hP : va_P D zCl [(h0, .inr (0, [.ref q, .int (nI n)])), (q, .inl (dB, 4096, .inl a))] H := hP
  have hD : va_D A [(h0, .inr (0, [.ref q, .int (nI n)])), (q, .inl (dB, 4096, .inl a))] := hD
  have h_17 : r_16 = lN (sj_crc (fun j => sj_by (a j)) (f + kn) (cn - kn)) := h_17
  subst h_17
  refine lv_iload hx hb dX1_joinCrc_57 (lv_at hl 1 rfl) ?_
  refine lv_iload hx hb dX1_joinCrc_59 (lv_at hl 0 rfl) ?_
  refine lv_isub hx hb dX1_joinCrc_61 ?_
  refine lv_topi (fun x_18 e_18 => ?_)
  have e_18 : x_18 = nI (cn - kn) := by refine e_18.trans ?_; exact pk_sub hk
  subst e_18
  refine lv_i2l hx hb dX1_joinCrc_62 rfl ?_
  refine lv_topl (fun x_19 e_19 => ?_)
  have e_19 : x_19 = lN (cn - kn) := by refine e_19.trans ?_; exact nI_l (by omega)
  subst e_19
  have hgb : ∀ j, (fun j => sj_by (a j)) j < 256 := fun j => sj_by_lt _
  generalize (fun j => sj_by (a j)) = g at hgb ⊢
  refine z_gol (wr := [(h0, .inr (0, [.ref q, .int (nI n)])), (q, .inl (dB, 4096, .inl a))]) (va_runS (As := [.long (lN (sj_crc g f kn)), .long (lN (sj_crc g (f + kn) (cn - kn))), .long (lN (cn - kn))]) (rest := []) ⟨hx, hb, hml, hown, hts⟩ (mX2_combine l D H.size (sj_crc g f kn) (sj_crc g (f + kn) (cn - kn)) (cn - kn) (sj_crc_bd hgb f kn) (by omega)) (va_cwS 3 hts (lw_S q139 q140 q5 q141) rfl rfl rfl (by decide +kernel) ⟨(Nat.le_of_ble_eq_true rfl), (Nat.le_of_ble_eq_true rfl)⟩) (z_pre hK hP hD hS hA hX [] [] rfl (by decide) rfl (fun _ h9 => by cases h9) (fun _ h9 => h9)) rfl rfl hl.1 rfl (lv_room (Nat.le_of_ble_eq_true rfl)) dX1_joinCrc_63 ⟨(Nat.le_of_ble_eq_true rfl), (Nat.le_of_ble_eq_true rfl)⟩) hK hP hD hS hA [] [0, 1] rfl rfl (by decide) (by decide) (fun r_21 u_20 H locs h_22 _ hP hD hS => ?_)
  have hP : va_P D zCl [(h0, .inr (0, [.ref q, .int (nI n)])), (q, .inl (dB, 4096, .inl a))] H := hP
  have hD : va_D A [(h0, .inr (0, [.ref q, .int (nI n)])), (q, .inl (dB, 4096, .inl a))] := hD
  have h_22 : r_21 = lN (if (cn - kn) = 0 then (sj_crc g f kn) else sj_pw sj_c8 (cn - kn) (sj_crc g f kn) ^^^ (sj_crc g (f + kn) (cn - kn))) := h_22
  subst h_22
  have hfin : lN (if cn - kn = 0 then sj_crc g f kn else sj_pw sj_c8 (cn - kn) (sj_crc g f kn) ^^^ sj_crc g (f + kn) (cn - kn)) = lN (sj_crc g f cn) := by
    congr 1
    split
    · rename_i h; rw [show kn = cn by omega]
    · rw [sj_crc_join, show kn + (cn - kn) = cn by omega]
  have hP9 := hP.sub (ws' := [(h0, .inr (0, [.ref q, .int (nI n)])), (q, .inl (dB, 4096, .inl a))]) [0, 1] rfl
  have hD9 := hD.sub (ws' := [(h0, .inr (0, [.ref q, .int (nI n)])), (q, .inl (dB, 4096, .inl a))]) [0, 1] (by decide) rfl
  have hK9 := hK.sub (tys' := []) [] rfl
  exact W.lret (v := (lN (if (cn - kn) = 0 then (sj_crc g f kn) else sj_pw sj_c8 (cn - kn) (sj_crc g f kn) ^^^ (sj_crc g (f + kn) (cn - kn))))) hx hb hr (fun t ht hW => ⟨⟨(lN (if (cn - kn) = 0 then (sj_crc g f kn) else sj_pw sj_c8 (cn - kn) (sj_crc g f kn) ^^^ (sj_crc g (f + kn) (cn - kn)))), (), rfl, hfin, by rw [ht]; exact hP9, va_K.moved hW.alike hK9, hD9⟩, hS.F ht⟩) hS.2.2 dX1_joinCrc_66
set_option maxHeartbeats 4000000 in
set_option maxRecDepth 100000 in
/-- joinAdler -/
theorem mX1_joinAdler (l : Launch) (D : va_G) (sz : Nat) (h0 : Nat) (q : Nat) (dB : ClassId) (n : Nat) (a : Nat → Int32) (x : Int32) (y : Int32) (z : Int32) (hn : n ≤ 4096) : Met l yX1_joinAdler (ws_ yX1_joinAdler cX1_joinAdler 7 (some .long)) ({ frames := 3, cells := 2, slots := 4, locals := 56 }) (va_Pc [.ref h0, .int x, .int y, .int z] (zP D sz [(h0, .inr (0, [.ref q, .int (nI n)])), (q, .inl (dB, 4096, .inl a))] [(dB, .byte)] none none)) (va_Ql (fun (r : Int64) (_ : Unit) => r = lN (sj_adl (fun j => sj_by (a j)) (sj_pos x % (n + 1)) (sj_pos y % (n - sj_pos x % (n + 1) + 1)))) (zB D (va_A [(h0, .inr (0, [.ref q, .int (nI n)])), (q, .inl (dB, 4096, .inl a))] sz) (fun (_ : Unit) => [(h0, .inr (0, [.ref q, .int (nI n)])), (q, .inl (dB, 4096, .inl a))]) (fun (_ : Unit) => [])) (va_A [(h0, .inr (0, [.ref q, .int (nI n)])), (q, .inl (dB, 4096, .inl a))] sz)) 2 4 (va_A [(h0, .inr (0, [.ref q, .int (nI n)])), (q, .inl (dB, 4096, .inl a))] sz) := by
  refine Met.ofW (cc := cX1_joinAdler) (maxL := 7) (ret := (some .long)) (by decide) rfl ?_
  intro p e s m args below meth c s₁ B hml hv
  obtain ⟨rfl, hsz, hP, hK, hD0, hX⟩ := hv
  have hx := B.exec
  have hb := B.bytes
  have hr := B.returns
  have hts := atoms_spec (ws := ws_ yX1_joinAdler cX1_joinAdler 7 (some .long)) B.pre
  have hts : ∀ w ∈ lw_all, w.before _ s = true := fun w h => hts w (List.mem_cons_of_mem _ h)
  have hown : s.vm.findClass RX1 = some m.cls := findClass_of_methodNamed B.named
  have hlocks := B.notSynchronized
  subst hsz
  have hD := hD0.self (sz := s.heap.size)
  generalize hAe : va_A [(h0, .inr (0, [.ref q, .int (nI n)])), (q, .inl (dB, 4096, .inl a))] s.heap.size = A at hD hX ⊢
  have hA : ∀ q : Nat, s.heap.size ≤ q → A q := fun q h => by rw [← hAe]; exact Or.inr h
  have hS : va_S A s.heap s.heap [] := va_S.rf
  have hP : va_P D zCl [(h0, .inr (0, [.ref q, .int (nI n)])), (q, .inl (dB, 4096, .inl a))] s.heap := hP
  have hl := lv_entry ([.ref h0, .int x, .int y, .int z]) (n := 7) (Nat.le_of_ble_eq_true rfl)
  rw [lg_entry_eq]
  generalize (lg_sl ([.ref h0, .int x, .int y, .int z]) ++ List.replicate (7 - (lg_sl ([.ref h0, .int x, .int y, .int z])).length) Slot.unset).toArray = ls at hl ⊢
  have hl : lv_has ls 7 [(0, .ref h0), (1, .int x), (2, .int y), (3, .int z)] := hl
  refine lv_aload_n hx hb dX1_joinAdler_0 rfl (lv_at hl 0 rfl) ?_
  refine lv_iload_n hx hb dX1_joinAdler_1 rfl (lv_at hl 1 rfl) ?_
  refine z_goi (wr := [(q, .inl (dB, 4096, .inl a))]) (va_runV (As := [.int x]) (rest := []) ⟨hx, hb, hml, hown, hts⟩ (mX1_from l D s.heap.size h0 q n x hn) (cwV 1 hts (lw_V q33 q35 qs0 q4 q36) rfl rfl rfl (by decide +kernel) ⟨(Nat.le_of_ble_eq_true rfl), (Nat.le_of_ble_eq_true rfl)⟩) (z_preV (q0 := 0) (ci := 0) rfl rfl hK hP hD hS hA hX [0] [] rfl (by decide) rfl (fun _ h9 => h9) (fun _ h9 => h9)) rfl rfl hl.1 rfl (lv_room (Nat.le_of_ble_eq_true rfl)) dX1_joinAdler_2 ⟨(Nat.le_of_ble_eq_true rfl), (Nat.le_of_ble_eq_true rfl)⟩) hK hP hD hS hA [0] [1] rfl rfl (by decide) (by decide) (fun r_2 u_1 H locs h_3 _ hP hD hS => ?_)
  have hP : va_P D zCl [(q, .inl (dB, 4096, .inl a)), (h0, .inr (0, [.ref q, .int (nI n)]))] H := hP
  have hD : va_D A [(q, .inl (dB, 4096, .inl a)), (h0, .inr (0, [.ref q, .int (nI n)]))] := hD
  have h_3 : r_2 = nI (sj_pos x % (n + 1)) := h_3
  subst h_3
  have hf := Nat.lt_succ_iff.mp (Nat.mod_lt (sj_pos x) (Nat.succ_pos n))
  generalize sj_pos x % (n + 1) = f at hf ⊢
  refine lv_istore (lv' := [(4, .int (nI f)), (0, .ref h0), (1, .int x), (2, .int y), (3, .int z)]) hx hb dX1_joinAdler_5 hl (by decide) rfl (fun ls hl => ?_)
  refine lv_aload_n hx hb dX1_joinAdler_7 rfl (lv_at hl 1 rfl) ?_
  refine lv_iload hx hb dX1_joinAdler_8 (lv_at hl 0 rfl) ?_
  refine lv_iload_n hx hb dX1_joinAdler_10 rfl (lv_at hl 3 rfl) ?_
  refine z_goi (wr := [(q, .inl (dB, 4096, .inl a))]) (va_runV (As := [.int (nI f), .int y]) (rest := []) ⟨hx, hb, hml, hown, hts⟩ (mX1_count l D H.size h0 q n f y hn hf) (cwV 2 hts (lw_V q38 q40 qs1 q4 q41) rfl rfl rfl (by decide +kernel) ⟨(Nat.le_of_ble_eq_true rfl), (Nat.le_of_ble_eq_true rfl)⟩) (z_preV (q0 := 1) (ci := 0) rfl rfl hK hP hD hS hA hX [1] [] rfl (by decide) rfl (fun _ h9 => h9) (fun _ h9 => h9)) rfl rfl hl.1 rfl (lv_room (Nat.le_of_ble_eq_true rfl)) dX1_joinAdler_11 ⟨(Nat.le_of_ble_eq_true rfl), (Nat.le_of_ble_eq_true rfl)⟩) hK hP hD hS hA [1] [0] rfl rfl (by decide) (by decide) (fun r_5 u_4 H locs h_6 _ hP hD hS => ?_)
  have hP : va_P D zCl [(q, .inl (dB, 4096, .inl a)), (h0, .inr (0, [.ref q, .int (nI n)]))] H := hP
  have hD : va_D A [(q, .inl (dB, 4096, .inl a)), (h0, .inr (0, [.ref q, .int (nI n)]))] := hD
  have h_6 : r_5 = nI (sj_pos y % (n - f + 1)) := h_6
  subst h_6
  have hc := Nat.lt_succ_iff.mp (Nat.mod_lt (sj_pos y) (Nat.succ_pos (n - f)))
  generalize sj_pos y % (n - f + 1) = cn at hc ⊢
  refine lv_istore (lv' := [(5, .int (nI cn)), (4, .int (nI f)), (0, .ref h0), (1, .int x), (2, .int y), (3, .int z)]) hx hb dX1_joinAdler_14 hl (by decide) rfl (fun ls hl => ?_)
  refine lv_iload_n hx hb dX1_joinAdler_16 rfl (lv_at hl 5 rfl) ?_
  refine lv_ldc (v := 2147483647) hx hb hown (hts _ q37) dX1_joinAdler_17 ?_
  refine lv_iand hx hb dX1_joinAdler_19 ?_
  refine lv_topi (fun x_7 e_7 => ?_)
  have e_7 : x_7 = nI (sj_pos z) := by refine e_7.trans ?_; exact zj_pos z
  subst e_7
  refine lv_iload hx hb dX1_joinAdler_20 (lv_at hl 0 rfl) ?_
  refine lv_iconst (v := 1) hx hb dX1_joinAdler_22 (by decide) ?_
  refine lv_iadd hx hb dX1_joinAdler_23 ?_
  refine lv_topi (fun x_8 e_8 => ?_)
  have e_8 : x_8 = nI (cn + 1) := by refine e_8.trans ?_; exact nI_1 cn
  subst e_8
  refine lv_irem hx hb dX1_joinAdler_24 (nI_ne0 (by omega) (by omega)) ?_
  refine lv_topi (fun x_9 e_9 => ?_)
  have e_9 : x_9 = nI (sj_pos z % (cn + 1)) := by refine e_9.trans ?_; exact pk_rem (sj_pos_lt z) (by omega) (by omega)
  subst e_9
  have hk := Nat.lt_succ_iff.mp (Nat.mod_lt (sj_pos z) (Nat.succ_pos cn))
  generalize sj_pos z % (cn + 1) = kn at hk ⊢
  refine lv_istore (lv' := [(6, .int (nI kn)), (5, .int (nI cn)), (4, .int (nI f)), (0, .ref h0), (1, .int x), (2, .int y), (3, .int z)]) hx hb dX1_joinAdler_25 hl (by decide) rfl (fun ls hl => ?_)
  refine lv_iconst (v := 0) hx hb dX1_joinAdler_27 (by decide) ?_
  refine lv_aload_n hx hb dX1_joinAdler_28 rfl (lv_at hl 3 rfl) ?_
  refine va_get (D := D) (ci := 0) (v := .ref q) (C := RX1) (T := TX1) (N := 2) hx hb hts in_X1 hown hK hP 1 rfl rfl 0 (by decide) (hts _ q21) (fun _ h9 => h9) rfl dX1_joinAdler_29 ?_
  refine lv_iload hx hb dX1_joinAdler_32 (lv_at hl 2 rfl) ?_
  refine lv_iload hx hb dX1_joinAdler_34 (lv_at hl 0 rfl) ?_
  refine z_gol (wr := [(h0, .inr (0, [.ref q, .int (nI n)]))]) (va_runS (As := [.int 0, .ref q, .int (nI f), .int (nI kn)]) (rest := []) ⟨hx, hb, hml, hown, hts⟩ (mX1_sum0 l D H.size q dB a f kn (by omega)) (va_cwS 4 hts (lw_S q42 q43 q4 q44) rfl rfl rfl (by decide +kernel) ⟨(Nat.le_of_ble_eq_true rfl), (Nat.le_of_ble_eq_true rfl)⟩) (z_pre hK hP hD hS hA hX [0] [0] rfl (by decide) rfl (fun _ h9 => h9) (fun _ h9 => h9)) rfl rfl hl.1 rfl (lv_room (Nat.le_of_ble_eq_true rfl)) dX1_joinAdler_36 ⟨(Nat.le_of_ble_eq_true rfl), (Nat.le_of_ble_eq_true rfl)⟩) hK hP hD hS hA [0] [1] rfl rfl (by decide) (by decide) (fun r_11 u_10 H locs h_12 _ hP hD hS => ?_)
  have hP : va_P D zCl [(h0, .inr (0, [.ref q, .int (nI n)])), (q, .inl (dB, 4096, .inl a))] H := hP
  have hD : va_D A [(h0, .inr (0, [.ref q, .int (nI n)])), (q, .inl (dB, 4096, .inl a))] := hD
  have h_12 : r_11 = lN (sj_adl (fun j => sj_by (a j)) f kn) := h_12
  subst h_12
  refine lv_iconst (v := 0) hx hb dX1_joinAdler_39 (by decide) ?_
  refine lv_aload_n hx hb dX1_joinAdler_40 rfl (lv_at hl 3 rfl) ?_
  refine va_get (D := D) (ci := 0) (v := .ref q) (C := RX1) (T := TX1) (N := 2) hx hb hts in_X1 hown hK hP 0 rfl rfl 0 (by decide) (hts _ q21) (fun _ h9 => h9) rfl dX1_joinAdler_41 ?_
  refine lv_iload hx hb dX1_joinAdler_44 (lv_at hl 2 rfl) ?_
  refine lv_iload hx hb dX1_joinAdler_46 (lv_at hl 0 rfl) ?_
  refine lv_iadd hx hb dX1_joinAdler_48 ?_
  refine lv_topi (fun x_13 e_13 => ?_)
  have e_13 : x_13 = nI (f + kn) := by refine e_13.trans ?_; exact nI_add f kn
  subst e_13
  refine lv_iload hx hb dX1_joinAdler_49 (lv_at hl 1 rfl) ?_
  refine lv_iload hx hb dX1_joinAdler_51 (lv_at hl 0 rfl) ?_
  refine lv_isub hx hb dX1_joinAdler_53 ?_
  refine lv_topi (fun x_14 e_14 => ?_)
  have e_14 : x_14 = nI (cn - kn) := by refine e_14.trans ?_; exact pk_sub hk
  subst e_14
  refine z_gol (wr := [(h0, .inr (0, [.ref q, .int (nI n)]))]) (va_runS (As := [.int 0, .ref q, .int (nI (f + kn)), .int (nI (cn - kn))]) (rest := [.long (lN (sj_adl (fun j => sj_by (a j)) f kn))]) ⟨hx, hb, hml, hown, hts⟩ (mX1_sum0 l D H.size q dB a (f + kn) (cn - kn) (by omega)) (va_cwS 4 hts (lw_S q42 q43 q4 q44) rfl rfl rfl (by decide +kernel) ⟨(Nat.le_of_ble_eq_true rfl), (Nat.le_of_ble_eq_true rfl)⟩) (z_pre hK hP hD hS hA hX [1] [0] rfl (by decide) rfl (fun _ h9 => h9) (fun _ h9 => h9)) rfl rfl hl.1 rfl (lv_room (Nat.le_of_ble_eq_true rfl)) dX1_joinAdler_54 ⟨(Nat.le_of_ble_eq_true rfl), (Nat.le_of_ble_eq_true rfl)⟩) hK hP hD hS hA [1] [0] rfl rfl (by decide) (by decide) (fun r_16 u_15 H locs h_17 _ hP hD hS => ?_)
  have hP : va_P D zCl [(h0, .inr (0, [.ref q, .int (nI n)])), (q, .inl (dB, 4096, .inl a))] H := hP
  have hD : va_D A [(h0, .inr (0, [.ref q, .int (nI n)])), (q, .inl (dB, 4096, .inl a))] := hD
  have h_17 : r_16 = lN (sj_adl (fun j => sj_by (a j)) (f + kn) (cn - kn)) := h_17
  subst h_17
  refine lv_iload hx hb dX1_joinAdler_57 (lv_at hl 1 rfl) ?_
  refine lv_iload hx hb dX1_joinAdler_59 (lv_at hl 0 rfl) ?_
  refine lv_isub hx hb dX1_joinAdler_61 ?_
  refine lv_topi (fun x_18 e_18 => ?_)
  have e_18 : x_18 = nI (cn - kn) := by refine e_18.trans ?_; exact pk_sub hk
  subst e_18
  refine lv_i2l hx hb dX1_joinAdler_62 rfl ?_
  refine lv_topl (fun x_19 e_19 => ?_)
  have e_19 : x_19 = lN (cn - kn) := by refine e_19.trans ?_; exact nI_l (by omega)
  subst e_19
  have hgb : ∀ j, (fun j => sj_by (a j)) j < 256 := fun j => sj_by_lt _
  generalize (fun j => sj_by (a j)) = g at hgb ⊢
  refine z_gol (wr := [(h0, .inr (0, [.ref q, .int (nI n)])), (q, .inl (dB, 4096, .inl a))]) (va_runS (As := [.long (lN ((sj_b g f kn) * 65536 + (sj_a g f kn))), .long (lN ((sj_b g (f + kn) (cn - kn)) * 65536 + (sj_a g (f + kn) (cn - kn)))), .long (lN (cn - kn))]) (rest := []) ⟨hx, hb, hml, hown, hts⟩ (mX3_combine l D H.size (sj_a g f kn) (sj_b g f kn) (sj_a g (f + kn) (cn - kn)) (sj_b g (f + kn) (cn - kn)) (cn - kn) (sj_a_lt _ _ _) (sj_b_lt _ _ _) (sj_a_lt _ _ _) (sj_b_lt _ _ _) (by omega)) (va_cwS 3 hts (lw_S q117 q118 q6 q119) rfl rfl rfl (by decide +kernel) ⟨(Nat.le_of_ble_eq_true rfl), (Nat.le_of_ble_eq_true rfl)⟩) (z_pre hK hP hD hS hA hX [] [] rfl (by decide) rfl (fun _ h9 => h9) (fun _ h9 => h9)) rfl rfl hl.1 rfl (lv_room (Nat.le_of_ble_eq_true rfl)) dX1_joinAdler_63 ⟨(Nat.le_of_ble_eq_true rfl), (Nat.le_of_ble_eq_true rfl)⟩) hK hP hD hS hA [] [0, 1] rfl rfl (by decide) (by decide) (fun r_21 u_20 H locs h_22 _ hP hD hS => ?_)
  have hP : va_P D zCl [(h0, .inr (0, [.ref q, .int (nI n)])), (q, .inl (dB, 4096, .inl a))] H := hP
  have hD : va_D A [(h0, .inr (0, [.ref q, .int (nI n)])), (q, .inl (dB, 4096, .inl a))] := hD
  have h_22 : r_21 = lN (sj_jb (sj_a g f kn) (sj_b g f kn) (sj_b g (f + kn) (cn - kn)) (cn - kn) * 65536 + sj_ja (sj_a g f kn) (sj_a g (f + kn) (cn - kn))) := h_22
  subst h_22
  have hfin : lN (sj_jb (sj_a g f kn) (sj_b g f kn) (sj_b g (f + kn) (cn - kn)) (cn - kn) * 65536 + sj_ja (sj_a g f kn) (sj_a g (f + kn) (cn - kn))) = lN (sj_adl g f cn) := by
    rw [sj_jb_join, sj_ja_join, show kn + (cn - kn) = cn by omega]; rfl
  have hP9 := hP.sub (ws' := [(h0, .inr (0, [.ref q, .int (nI n)])), (q, .inl (dB, 4096, .inl a))]) [0, 1] rfl
  have hD9 := hD.sub (ws' := [(h0, .inr (0, [.ref q, .int (nI n)])), (q, .inl (dB, 4096, .inl a))]) [0, 1] (by decide) rfl
  have hK9 := hK.sub (tys' := []) [] rfl
  exact W.lret (v := (lN (sj_jb (sj_a g f kn) (sj_b g f kn) (sj_b g (f + kn) (cn - kn)) (cn - kn) * 65536 + sj_ja (sj_a g f kn) (sj_a g (f + kn) (cn - kn))))) hx hb hr (fun t ht hW => ⟨⟨(lN (sj_jb (sj_a g f kn) (sj_b g f kn) (sj_b g (f + kn) (cn - kn)) (cn - kn) * 65536 + sj_ja (sj_a g f kn) (sj_a g (f + kn) (cn - kn)))), (), rfl, hfin, by rw [ht]; exact hP9, va_K.moved hW.alike hK9, hD9⟩, hS.F ht⟩) hS.2.2 dX1_joinAdler_66
end
section
/-! THE LAW's SMALL METHODS: cell, askedCell, own, askedCrc, askedAdler -/
/-- the law's cell of the script -/
def sj_cell (Ls : Nat) (xs : Nat → Int32) (k : Nat) : Int32 := if k < Ls then xs k else 0
/-- the bytes that elder's text holds, by the law's own words -/
def sj_ot (Ls : Nat) (xs : Nat → Int32) (j : Nat) : Nat := sj_wb (sj_cell Ls xs (4 + j / 4)) (j % 4)
theorem sj_ot_lt (Ls : Nat) (xs : Nat → Int32) (j : Nat) : sj_ot Ls xs j < 256 := sj_wb_lt _ _
theorem sj_w4_f (f : Nat → Int32) (b u : Nat) (h : u < 4) : sj_w4 (f b) (f (b + 1)) (f (b + 2)) (f (b + 3)) u = f (b + u) := by
  unfold sj_w4
  rcases (show u = 0 ∨ u = 1 ∨ u = 2 ∨ u = 3 by omega) with rfl | rfl | rfl | rfl <;> rfl
theorem sj_pos0 : sj_pos 0 = 0 := by decide +kernel
theorem sj_posn {n : Nat} (h : n < 2147483648) : sj_pos (nI n) = n := by
  unfold sj_pos
  rw [show (nI n).toBitVec.toNat = n from pk_tn (by omega)]
  exact Nat.mod_eq_of_lt h
theorem sj_f0 (n : Nat) : sj_pos 0 % (n + 1) = 0 := by rw [sj_pos0]; exact Nat.zero_mod _
theorem sj_cn {n : Nat} (h : n < 2147483648) : sj_pos (nI n) % (n - sj_pos 0 % (n + 1) + 1) = n := by
  rw [sj_f0, sj_posn h, Nat.sub_zero]
  exact Nat.mod_eq_of_lt (Nat.lt_succ_self n)
/-- one bit's step, either way -/
theorem sj_c1_t {y : Nat} (h : y % 2 = 1) : (y / 2) ^^^ 3988292384 = sj_c1 y := (if_pos h).symm
theorem sj_c1_f {y : Nat} (h : ¬ y % 2 = 1) : y / 2 = sj_c1 y := (if_neg h).symm
set_option maxHeartbeats 4000000 in
set_option maxRecDepth 100000 in
/-- cell -/
theorem mX0_cell (l : Launch) (D : va_G) (sz : Nat) (bs : Nat) (Ls : Nat) (xs : Nat → Int32) (k : Nat) (hL : Ls ≤ 48) (hk : k < 1073741824) : Met l yX0_cell (ws_ yX0_cell cX0_cell 2 (some .int)) ({ frames := 0, cells := 0, slots := 0, locals := 0 }) (va_Pc [.ref bs, .int (nI k)] (zP D sz [] [] none (some (bs, Ls, xs)))) (va_Qi (fun (r : Int32) (_ : Unit) => r = sj_cell Ls xs k) (zB D (va_A [] sz) (fun (_ : Unit) => []) (fun (_ : Unit) => [])) (va_A [] sz)) 0 0 (va_A [] sz) := by
  refine Met.ofW (cc := cX0_cell) (maxL := 2) (ret := (some .int)) (by decide) rfl ?_
  intro p e s m args below meth c s₁ B hml hv
  obtain ⟨rfl, hsz, hP, hK, hD0, hX⟩ := hv
  have hx := B.exec
  have hb := B.bytes
  have hr := B.returns
  have hts := atoms_spec (ws := ws_ yX0_cell cX0_cell 2 (some .int)) B.pre
  have hts : ∀ w ∈ lw_all, w.before _ s = true := fun w h => hts w (List.mem_cons_of_mem _ h)
  have hown : s.vm.findClass RX0 = some m.cls := findClass_of_methodNamed B.named
  have hlocks := B.notSynchronized
  subst hsz
  have hD := hD0.self (sz := s.heap.size)
  generalize hAe : va_A [] s.heap.size = A at hD hX ⊢
  have hA : ∀ q : Nat, s.heap.size ≤ q → A q := fun q h => by rw [← hAe]; exact Or.inr h
  have hS : va_S A s.heap s.heap [] := va_S.rf
  have hP : va_P D zCl [] s.heap := hP
  have hTs : va_T .int bs Ls (fun j => .int (xs j)) A s s.heap := hX.2.1 (bs, Ls, xs) rfl
  have hl := lv_entry ([.ref bs, .int (nI k)]) (n := 2) (Nat.le_of_ble_eq_true rfl)
  rw [lg_entry_eq]
  generalize (lg_sl ([.ref bs, .int (nI k)]) ++ List.replicate (2 - (lg_sl ([.ref bs, .int (nI k)])).length) Slot.unset).toArray = ls at hl ⊢
  have hl : lv_has ls 2 [(0, .ref bs), (1, .int (nI k))] := hl
  refine lv_iload_n hx hb dX0_cell_0 rfl (lv_at hl 1 rfl) ?_
  refine lv_aload_n hx hb dX0_cell_1 rfl (lv_at hl 0 rfl) ?_
  refine va_tlen (v := nI Ls) hx hb hTs hS rfl dX0_cell_2 ?_
  refine lv_icmp_ge (tgt := 12) hx hb dX0_cell_3 (by decide) (fun c0 => ?_) (fun c0 => ?_)
  · skip
    have h9 : ¬ k < Ls := fun h => nI_ge h (by omega) c0
    refine lv_iconst (v := 0) hx hb dX0_cell_12 (by decide) ?_
    have hP9 := hP.sub (ws' := []) [] rfl
    have hD9 := hD.sub (ws' := []) [] (by decide) rfl
    have hK9 := hK.sub (tys' := []) [] rfl
    exact W.iret (v := 0) hx hb hr (fun t ht hW => ⟨⟨0, (), rfl, (if_neg h9).symm, by rw [ht]; exact hP9, va_K.moved hW.alike hK9, hD9⟩, hS.F ht⟩) hS.2.2 dX0_cell_13
  · skip
    have h9 : k < Ls := Nat.lt_of_not_le (fun h => c0 (nI_le h (by omega)))
    refine lv_aload_n hx hb dX0_cell_6 rfl (lv_at hl 0 rfl) ?_
    refine lv_iload_n hx hb dX0_cell_7 rfl (lv_at hl 1 rfl) ?_
    refine va_ti (v := .int (xs ((nI k) : Int32).toNatClampNeg)) hx hb hTs hS (vp_in_nI h9 (by omega)) rfl dX0_cell_8 ?_
    refine lv_topi (fun x_1 e_1 => ?_)
    have e_1 : x_1 = xs k := by refine e_1.trans ?_; rw [nI_clamp (by omega)]
    subst e_1
    refine lv_goto (tgt := 13) hx hb dX0_cell_9 (by decide) ?_
    have hP9 := hP.sub (ws' := []) [] rfl
    have hD9 := hD.sub (ws' := []) [] (by decide) rfl
    have hK9 := hK.sub (tys' := []) [] rfl
    exact W.iret (v := (xs k)) hx hb hr (fun t ht hW => ⟨⟨(xs k), (), rfl, (if_pos h9).symm, by rw [ht]; exact hP9, va_K.moved hW.alike hK9, hD9⟩, hS.F ht⟩) hS.2.2 dX0_cell_13
set_option maxHeartbeats 4000000 in
set_option maxRecDepth 100000 in
/-- askedCell -/
theorem mX0_askedCell (l : Launch) (D : va_G) (sz : Nat) (bs : Nat) (Ls : Nat) (xs : Nat → Int32) (k : Nat) (hL : Ls ≤ 48) (hk : k < 1073741824) : Met l yX0_askedCell (ws_ yX0_askedCell cX0_askedCell 2 (some .int)) ({ frames := 0, cells := 0, slots := 0, locals := 0 }) (va_Pc [.ref bs, .int (nI k)] (zP D sz [] [] none (some (bs, Ls, xs)))) (va_Qi (fun (r : Int32) (_ : Unit) => r = sj_cell Ls xs k) (zB D (va_A [] sz) (fun (_ : Unit) => []) (fun (_ : Unit) => [])) (va_A [] sz)) 0 0 (va_A [] sz) := by
  refine Met.ofW (cc := cX0_askedCell) (maxL := 2) (ret := (some .int)) (by decide) rfl ?_
  intro p e s m args below meth c s₁ B hml hv
  obtain ⟨rfl, hsz, hP, hK, hD0, hX⟩ := hv
  have hx := B.exec
  have hb := B.bytes
  have hr := B.returns
  have hts := atoms_spec (ws := ws_ yX0_askedCell cX0_askedCell 2 (some .int)) B.pre
  have hts : ∀ w ∈ lw_all, w.before _ s = true := fun w h => hts w (List.mem_cons_of_mem _ h)
  have hown : s.vm.findClass RX0 = some m.cls := findClass_of_methodNamed B.named
  have hlocks := B.notSynchronized
  subst hsz
  have hD := hD0.self (sz := s.heap.size)
  generalize hAe : va_A [] s.heap.size = A at hD hX ⊢
  have hA : ∀ q : Nat, s.heap.size ≤ q → A q := fun q h => by rw [← hAe]; exact Or.inr h
  have hS : va_S A s.heap s.heap [] := va_S.rf
  have hP : va_P D zCl [] s.heap := hP
  have hTs : va_T .int bs Ls (fun j => .int (xs j)) A s s.heap := hX.2.1 (bs, Ls, xs) rfl
  have hl := lv_entry ([.ref bs, .int (nI k)]) (n := 2) (Nat.le_of_ble_eq_true rfl)
  rw [lg_entry_eq]
  generalize (lg_sl ([.ref bs, .int (nI k)]) ++ List.replicate (2 - (lg_sl ([.ref bs, .int (nI k)])).length) Slot.unset).toArray = ls at hl ⊢
  have hl : lv_has ls 2 [(0, .ref bs), (1, .int (nI k))] := hl
  refine lv_iload_n hx hb dX0_askedCell_0 rfl (lv_at hl 1 rfl) ?_
  refine lv_aload_n hx hb dX0_askedCell_1 rfl (lv_at hl 0 rfl) ?_
  refine va_tlen (v := nI Ls) hx hb hTs hS rfl dX0_askedCell_2 ?_
  refine lv_icmp_ge (tgt := 12) hx hb dX0_askedCell_3 (by decide) (fun c0 => ?_) (fun c0 => ?_)
  · skip
    have h9 : ¬ k < Ls := fun h => nI_ge h (by omega) c0
    refine lv_iconst (v := 0) hx hb dX0_askedCell_12 (by decide) ?_
    have hP9 := hP.sub (ws' := []) [] rfl
    have hD9 := hD.sub (ws' := []) [] (by decide) rfl
    have hK9 := hK.sub (tys' := []) [] rfl
    exact W.iret (v := 0) hx hb hr (fun t ht hW => ⟨⟨0, (), rfl, (if_neg h9).symm, by rw [ht]; exact hP9, va_K.moved hW.alike hK9, hD9⟩, hS.F ht⟩) hS.2.2 dX0_askedCell_13
  · skip
    have h9 : k < Ls := Nat.lt_of_not_le (fun h => c0 (nI_le h (by omega)))
    refine lv_aload_n hx hb dX0_askedCell_6 rfl (lv_at hl 0 rfl) ?_
    refine lv_iload_n hx hb dX0_askedCell_7 rfl (lv_at hl 1 rfl) ?_
    refine va_ti (v := .int (xs ((nI k) : Int32).toNatClampNeg)) hx hb hTs hS (vp_in_nI h9 (by omega)) rfl dX0_askedCell_8 ?_
    refine lv_topi (fun x_1 e_1 => ?_)
    have e_1 : x_1 = xs k := by refine e_1.trans ?_; rw [nI_clamp (by omega)]
    subst e_1
    refine lv_goto (tgt := 13) hx hb dX0_askedCell_9 (by decide) ?_
    have hP9 := hP.sub (ws' := []) [] rfl
    have hD9 := hD.sub (ws' := []) [] (by decide) rfl
    have hK9 := hK.sub (tys' := []) [] rfl
    exact W.iret (v := (xs k)) hx hb hr (fun t ht hW => ⟨⟨(xs k), (), rfl, (if_pos h9).symm, by rw [ht]; exact hP9, va_K.moved hW.alike hK9, hD9⟩, hS.F ht⟩) hS.2.2 dX0_askedCell_13
set_option maxHeartbeats 4000000 in
set_option maxRecDepth 100000 in
/-- askedCrc: the CRC by its definition -/
theorem mX0_askedCrc (l : Launch) (D : va_G) (sz : Nat) (q : Nat) (dI : ClassId) (N : Nat) (t : Nat → Int32) (g : Nat → Nat) (f : Nat) (n : Nat) (hg : ∀ j, g j < 256) (hN : N ≤ 4096) (ht9 : ∀ j, j < N → t j = nI (g j)) (hfn : f + n ≤ N) : Met l yX0_askedCrc (ws_ yX0_askedCrc cX0_askedCrc 6 (some .long)) ({ frames := 0, cells := 0, slots := 0, locals := 0 }) (va_Pc [.ref q, .int (nI f), .int (nI n)] (zP D sz [(q, .inl (dI, N, .inl t))] [(dI, .int)] none none)) (va_Ql (fun (r : Int64) (_ : Unit) => r = lN (sj_crc g f n)) (zB D (va_A [(q, .inl (dI, N, .inl t))] sz) (fun (_ : Unit) => [(q, .inl (dI, N, .inl t))]) (fun (_ : Unit) => [])) (va_A [(q, .inl (dI, N, .inl t))] sz)) 0 0 (va_A [(q, .inl (dI, N, .inl t))] sz) := by
  refine Met.ofW (cc := cX0_askedCrc) (maxL := 6) (ret := (some .long)) (by decide) rfl ?_
  intro p e s m args below meth c s₁ B hml hv
  obtain ⟨rfl, hsz, hP, hK, hD0, hX⟩ := hv
  have hx := B.exec
  have hb := B.bytes
  have hr := B.returns
  have hts := atoms_spec (ws := ws_ yX0_askedCrc cX0_askedCrc 6 (some .long)) B.pre
  have hts : ∀ w ∈ lw_all, w.before _ s = true := fun w h => hts w (List.mem_cons_of_mem _ h)
  have hown : s.vm.findClass RX0 = some m.cls := findClass_of_methodNamed B.named
  have hlocks := B.notSynchronized
  subst hsz
  have hD := hD0.self (sz := s.heap.size)
  generalize hAe : va_A [(q, .inl (dI, N, .inl t))] s.heap.size = A at hD hX ⊢
  have hA : ∀ q : Nat, s.heap.size ≤ q → A q := fun q h => by rw [← hAe]; exact Or.inr h
  have hS : va_S A s.heap s.heap [] := va_S.rf
  have hP : va_P D zCl [(q, .inl (dI, N, .inl t))] s.heap := hP
  have hl := lv_entry ([.ref q, .int (nI f), .int (nI n)]) (n := 6) (Nat.le_of_ble_eq_true rfl)
  rw [lg_entry_eq]
  generalize (lg_sl ([.ref q, .int (nI f), .int (nI n)]) ++ List.replicate (6 - (lg_sl ([.ref q, .int (nI f), .int (nI n)])).length) Slot.unset).toArray = ls at hl ⊢
  have hl : lv_has ls 6 [(0, .ref q), (1, .int (nI f)), (2, .int (nI n))] := hl
  refine lv_iconst (v := nI (sj_cf g f 0 4294967295)) hx hb dX0_askedCrc_0 (by show (-1 : Int32) = nI 4294967295; decide +kernel) ?_
  refine lv_istore_n (lv' := [(3, .int (nI (sj_cf g f 0 4294967295))), (0, .ref q), (1, .int (nI f)), (2, .int (nI n))]) hx hb dX0_askedCrc_1 rfl hl (by decide) rfl (fun ls hl => ?_)
  refine lv_iload_n hx hb dX0_askedCrc_2 rfl (lv_at hl 2 rfl) ?_
  refine lv_istore (lv' := [(4, .int (nI f)), (3, .int (nI (sj_cf g f 0 4294967295))), (0, .ref q), (1, .int (nI f)), (2, .int (nI n))]) hx hb dX0_askedCrc_3 hl (by decide) rfl (fun ls hl => ?_)
  have hl : lv_has ls 6 [(4, .int (nI (f + 0))), (3, .int (nI (sj_cf g f 0 4294967295))), (0, .ref q), (1, .int (nI f)), (2, .int (nI n))] := hl
  refine z_loop (σ := Unit) (n) (fun i => 0) (fun i => 0) (fun i _ H locs ls => va_P D zCl [(q, .inl (dI, N, .inl t))] H ∧ va_D A [(q, .inl (dI, N, .inl t))] ∧ va_S A s.heap H locs ∧ lv_has ls 6 [(0, .ref q), (1, .int (nI f)), (2, .int (nI n)), (3, .int (nI (sj_cf g f i 4294967295))), (4, .int (nI (f + i)))] ∧ True) ?_ (0) () (by omega) ⟨hP.sub (ws' := [(q, .inl (dI, N, .inl t))]) [0] rfl, hD.sub (ws' := [(q, .inl (dI, N, .inl t))]) [0] (by decide) rfl, hS, lv_sub (l' := [(0, .ref q), (1, .int (nI f)), (2, .int (nI n)), (3, .int (nI (sj_cf g f 0 4294967295))), (4, .int (nI (f + 0)))]) hl [2, 3, 4, 1, 0] rfl, trivial⟩ (by omega) (by omega)
  intro i u H locs ls hi ih hI
  obtain ⟨hP, hD, hS, hl, hJ⟩ := hI
  have hP : va_P D zCl [(q, .inl (dI, N, .inl t))] H := hP
  have hD : va_D A [(q, .inl (dI, N, .inl t))] := hD
  have hl : lv_has ls 6 [(0, .ref q), (1, .int (nI f)), (2, .int (nI n)), (3, .int (nI (sj_cf g f i 4294967295))), (4, .int (nI (f + i)))] := hl
  have hJ : True := hJ
  refine W.widen (k := 0) (n := 0) (Nat.le_refl _) (Nat.le_refl _) ?_
  have hcb : sj_cf g f i 4294967295 < 4294967296 := sj_cf_bd hg f i _ (by decide)
  refine lv_iload hx hb dX0_askedCrc_5 (lv_at hl 4 rfl) ?_
  refine lv_iload_n hx hb dX0_askedCrc_7 rfl (lv_at hl 1 rfl) ?_
  refine lv_iload_n hx hb dX0_askedCrc_8 rfl (lv_at hl 2 rfl) ?_
  refine lv_iadd hx hb dX0_askedCrc_9 ?_
  refine lv_topi (fun x_1 e_1 => ?_)
  have e_1 : x_1 = nI (f + n) := by refine e_1.trans ?_; exact nI_add f n
  subst e_1
  refine lv_icmp_ge (tgt := 62) hx hb dX0_askedCrc_10 (by decide) (fun c0 => ?_) (fun c0 => ?_)
  · skip
    have hin9 : i = n := by have h9 : ¬ i < n := fun h => nI_ge (a := f + i) (b := f + n) (by omega) (by omega) c0; omega
    refine lv_iload_n hx hb dX0_askedCrc_62 rfl (lv_at hl 3 rfl) ?_
    refine lv_iconst (v := (-1)) hx hb dX0_askedCrc_63 (by decide) ?_
    refine lv_ixor hx hb dX0_askedCrc_64 ?_
    refine lv_topi (fun x_2 e_2 => ?_)
    have e_2 : x_2 = nI (sj_crc g f n) := by refine e_2.trans ?_; rw [← hin9]; exact zj_not _
    subst e_2
    refine lv_i2l hx hb dX0_askedCrc_65 rfl ?_
    refine lv_topl (fun x_3 e_3 => ?_)
    have e_3 : x_3 = (nI (sj_crc g f n)).toInt64 := by refine e_3.trans ?_; rfl
    subst e_3
    refine lv_ldc2 (v := 4294967295) hx hb hown (hts _ q133) dX0_askedCrc_66 ?_
    refine lv_land hx hb dX0_askedCrc_69 ?_
    refine lv_topl (fun x_4 e_4 => ?_)
    have e_4 : x_4 = lN (sj_crc g f n) := by refine e_4.trans ?_; exact zj_i2l (sj_crc_bd hg f n)
    subst e_4
    have hP9 := hP.sub (ws' := [(q, .inl (dI, N, .inl t))]) [0] rfl
    have hD9 := hD.sub (ws' := [(q, .inl (dI, N, .inl t))]) [0] (by decide) rfl
    have hK9 := hK.sub (tys' := []) [] rfl
    exact W.lret (v := (lN (sj_crc g f n))) hx hb hr (fun t ht hW => ⟨⟨(lN (sj_crc g f n)), (), rfl, rfl, by rw [ht]; exact hP9, va_K.moved hW.alike hK9, hD9⟩, hS.F ht⟩) hS.2.2 dX0_askedCrc_70
  · skip
    have hin9 : i < n := by have h9 : ¬ f + n ≤ f + i := fun h => c0 (nI_le h (by omega)); omega
    have hXb : (sj_cf g f i 4294967295 ^^^ g (f + i)) < 4294967296 := sj_lt_xor hcb (Nat.lt_trans (hg _) (by decide))
    refine lv_iload_n hx hb dX0_askedCrc_13 rfl (lv_at hl 3 rfl) ?_
    refine lv_aload_n hx hb dX0_askedCrc_14 rfl (lv_at hl 0 rfl) ?_
    refine lv_iload hx hb dX0_askedCrc_15 (lv_at hl 4 rfl) ?_
    refine va_iald hx hb hK hP 0 0 rfl rfl (vp_in_nI (n := f + i) (by omega) (by omega)) dX0_askedCrc_17 ?_
    refine lv_topi (fun x_5 e_5 => ?_)
    have e_5 : x_5 = nI (g (f + i)) := by refine e_5.trans ?_; rw [nI_clamp (by omega)]; exact ht9 _ (by omega)
    subst e_5
    refine lv_ixor hx hb dX0_askedCrc_18 ?_
    refine lv_topi (fun x_6 e_6 => ?_)
    have e_6 : x_6 = nI (sj_cf g f i 4294967295 ^^^ g (f + i)) := by refine e_6.trans ?_; exact nx_xor _ _
    subst e_6
    refine lv_istore_n (lv' := [(3, .int (nI (sj_cf g f i 4294967295 ^^^ g (f + i)))), (0, .ref q), (1, .int (nI f)), (2, .int (nI n)), (4, .int (nI (f + i)))]) hx hb dX0_askedCrc_19 rfl hl (by decide) rfl (fun ls hl => ?_)
    refine lv_iconst (v := 0) hx hb dX0_askedCrc_20 (by decide) ?_
    refine lv_istore (lv' := [(5, .int 0), (3, .int (nI (sj_cf g f i 4294967295 ^^^ g (f + i)))), (0, .ref q), (1, .int (nI f)), (2, .int (nI n)), (4, .int (nI (f + i)))]) hx hb dX0_askedCrc_21 hl (by decide) rfl (fun ls hl => ?_)
    have hl : lv_has ls 6 [(5, .int (nI 0)), (3, .int (nI (sj_pw sj_c1 0 (sj_cf g f i 4294967295 ^^^ g (f + i))))), (0, .ref q), (1, .int (nI f)), (2, .int (nI n)), (4, .int (nI (f + i)))] := hl
    refine z_loop (σ := Unit) (8) (fun j => 0) (fun j => 0) (fun j _ H locs ls => va_P D zCl [(q, .inl (dI, N, .inl t))] H ∧ va_D A [(q, .inl (dI, N, .inl t))] ∧ va_S A s.heap H locs ∧ lv_has ls 6 [(3, .int (nI (sj_pw sj_c1 j (sj_cf g f i 4294967295 ^^^ g (f + i))))), (5, .int (nI j)), (0, .ref q), (1, .int (nI f)), (2, .int (nI n)), (4, .int (nI (f + i)))] ∧ True) ?_ (0) () (by decide) ⟨hP.sub (ws' := [(q, .inl (dI, N, .inl t))]) [0] rfl, hD.sub (ws' := [(q, .inl (dI, N, .inl t))]) [0] (by decide) rfl, hS, lv_sub (l' := [(3, .int (nI (sj_pw sj_c1 0 (sj_cf g f i 4294967295 ^^^ g (f + i))))), (5, .int (nI 0)), (0, .ref q), (1, .int (nI f)), (2, .int (nI n)), (4, .int (nI (f + i)))]) hl [1, 0, 2, 3, 4, 5] rfl, trivial⟩ (Nat.le_refl _) (Nat.le_refl _)
    intro j u H locs ls hi3 ih3 hI
    obtain ⟨hP, hD, hS, hl, hJ3⟩ := hI
    have hP : va_P D zCl [(q, .inl (dI, N, .inl t))] H := hP
    have hD : va_D A [(q, .inl (dI, N, .inl t))] := hD
    have hl : lv_has ls 6 [(3, .int (nI (sj_pw sj_c1 j (sj_cf g f i 4294967295 ^^^ g (f + i))))), (5, .int (nI j)), (0, .ref q), (1, .int (nI f)), (2, .int (nI n)), (4, .int (nI (f + i)))] := hl
    have hJ3 : True := hJ3
    refine W.widen (k := 0) (n := 0) (Nat.le_refl _) (Nat.le_refl _) ?_
    have hY : (sj_pw sj_c1 j (sj_cf g f i 4294967295 ^^^ g (f + i))) < 4294967296 := sj_pw_bd sj_c1_bd j _ hXb
    refine lv_iload hx hb dX0_askedCrc_23 (lv_at hl 1 rfl) ?_
    refine lv_bipush (v := 8) hx hb dX0_askedCrc_25 (by decide +kernel) ?_
    refine lv_icmp_ge (tgt := 56) hx hb dX0_askedCrc_27 (by decide) (fun cj => ?_) (fun cj => ?_)
    · skip
      have hj8 : 8 ≤ j := Nat.not_lt.mp (fun h => nI_ge (a := j) (b := 8) h (by decide) cj)
      have hje : j = 8 := by omega
      rw [hje] at hl
      refine lv_iinc (v := nI (f + (i + 1))) (lv' := [(4, .int (nI (f + (i + 1)))), (3, .int (nI (sj_pw sj_c1 8 (sj_cf g f i 4294967295 ^^^ g (f + i))))), (5, .int (nI 8)), (0, .ref q), (1, .int (nI f)), (2, .int (nI n))]) hx hb dX0_askedCrc_56 hl (k := 5) rfl (by exact nI_1 (f + i)) (by decide) rfl (fun ls hl => ?_)
      refine lv_goto (tgt := 5) hx hb dX0_askedCrc_59 (by decide) ?_
      have hl : lv_has ls 6 [(4, .int (nI (f + (i + 1)))), (3, .int (nI (sj_cf g f (i + 1) 4294967295))), (5, .int (nI 8)), (0, .ref q), (1, .int (nI f)), (2, .int (nI n))] := hl
      refine W.widen (k := 0) (n := 0) (Nat.le_of_ble_eq_true rfl) (Nat.le_of_ble_eq_true rfl) ?_
      exact ih (by omega) () H locs ls ⟨hP.sub (ws' := [(q, .inl (dI, N, .inl t))]) [0] rfl, hD.sub (ws' := [(q, .inl (dI, N, .inl t))]) [0] (by decide) rfl, hS, lv_sub (l' := [(0, .ref q), (1, .int (nI f)), (2, .int (nI n)), (3, .int (nI (sj_cf g f (i + 1) 4294967295))), (4, .int (nI (f + (i + 1))))]) hl [3, 4, 5, 1, 0] rfl, trivial⟩
    · skip
      have hj8 : j < 8 := Nat.lt_of_not_le (fun h => cj (nI_le (a := 8) (b := j) h (by omega)))
      refine lv_iload_n hx hb dX0_askedCrc_30 rfl (lv_at hl 0 rfl) ?_
      refine lv_iconst (v := 1) hx hb dX0_askedCrc_31 (by decide) ?_
      refine lv_iand hx hb dX0_askedCrc_32 ?_
      refine lv_topi (fun x_7 e_7 => ?_)
      have e_7 : x_7 = nI ((sj_pw sj_c1 j (sj_cf g f i 4294967295 ^^^ g (f + i))) % 2) := by refine e_7.trans ?_; exact zj_and1 hY
      subst e_7
      refine lv_iconst (v := 1) hx hb dX0_askedCrc_33 (by decide) ?_
      refine lv_icmp_ne (tgt := 46) hx hb dX0_askedCrc_34 (by decide) (fun cb => ?_) (fun cb => ?_)
      · skip
        refine lv_iload_n hx hb dX0_askedCrc_46 rfl (lv_at hl 0 rfl) ?_
        refine lv_iconst (v := 1) hx hb dX0_askedCrc_47 (by decide) ?_
        refine lv_iushr hx hb dX0_askedCrc_48 rfl ?_
        refine lv_topi (fun x_8 e_8 => ?_)
        have e_8 : x_8 = nI ((sj_pw sj_c1 j (sj_cf g f i 4294967295 ^^^ g (f + i))) / 2) := by refine e_8.trans ?_; exact zj_shr1 hY
        subst e_8
        have hb9 : ¬ (sj_pw sj_c1 j (sj_cf g f i 4294967295 ^^^ g (f + i))) % 2 = 1 := fun h => cb (by rw [h]; rfl)
        rw [sj_c1_f hb9]
        refine lv_istore_n (lv' := [(3, .int (nI (sj_c1 (sj_pw sj_c1 j (sj_cf g f i 4294967295 ^^^ g (f + i)))))), (5, .int (nI j)), (0, .ref q), (1, .int (nI f)), (2, .int (nI n)), (4, .int (nI (f + i)))]) hx hb dX0_askedCrc_49 rfl hl (by decide) rfl (fun ls hl => ?_)
        refine lv_iinc (v := nI (j + 1)) (lv' := [(5, .int (nI (j + 1))), (3, .int (nI (sj_c1 (sj_pw sj_c1 j (sj_cf g f i 4294967295 ^^^ g (f + i)))))), (0, .ref q), (1, .int (nI f)), (2, .int (nI n)), (4, .int (nI (f + i)))]) hx hb dX0_askedCrc_50 hl (k := 1) rfl (by exact nI_1 j) (by decide) rfl (fun ls hl => ?_)
        refine lv_goto (tgt := 23) hx hb dX0_askedCrc_53 (by decide) ?_
        refine W.widen (k := 0) (n := 0) (Nat.le_of_ble_eq_true rfl) (Nat.le_of_ble_eq_true rfl) ?_
        exact ih3 (by omega) () H locs ls ⟨hP.sub (ws' := [(q, .inl (dI, N, .inl t))]) [0] rfl, hD.sub (ws' := [(q, .inl (dI, N, .inl t))]) [0] (by decide) rfl, hS, lv_sub (l' := [(3, .int (nI (sj_pw sj_c1 (j + 1) (sj_cf g f i 4294967295 ^^^ g (f + i))))), (5, .int (nI (j + 1))), (0, .ref q), (1, .int (nI f)), (2, .int (nI n)), (4, .int (nI (f + i)))]) hl [1, 0, 2, 3, 4, 5] rfl, trivial⟩
      · skip
        refine lv_iload_n hx hb dX0_askedCrc_37 rfl (lv_at hl 0 rfl) ?_
        refine lv_iconst (v := 1) hx hb dX0_askedCrc_38 (by decide) ?_
        refine lv_iushr hx hb dX0_askedCrc_39 rfl ?_
        refine lv_topi (fun x_9 e_9 => ?_)
        have e_9 : x_9 = nI ((sj_pw sj_c1 j (sj_cf g f i 4294967295 ^^^ g (f + i))) / 2) := by refine e_9.trans ?_; exact zj_shr1 hY
        subst e_9
        have hb9 : (sj_pw sj_c1 j (sj_cf g f i 4294967295 ^^^ g (f + i))) % 2 = 1 := (nI_eq (b := 1) (by omega) (by decide)).mp cb
        refine lv_ldc (v := (-306674912)) hx hb hown (hts _ q131) dX0_askedCrc_40 ?_
        refine lv_ixor hx hb dX0_askedCrc_42 ?_
        refine lv_topi (fun x_10 e_10 => ?_)
        have e_10 : x_10 = nI (sj_c1 (sj_pw sj_c1 j (sj_cf g f i 4294967295 ^^^ g (f + i)))) := by refine e_10.trans ?_; rw [zj_poly, nx_xor, sj_c1_t hb9]
        subst e_10
        refine lv_goto (tgt := 49) hx hb dX0_askedCrc_43 (by decide) ?_
        refine lv_istore_n (lv' := [(3, .int (nI (sj_c1 (sj_pw sj_c1 j (sj_cf g f i 4294967295 ^^^ g (f + i)))))), (5, .int (nI j)), (0, .ref q), (1, .int (nI f)), (2, .int (nI n)), (4, .int (nI (f + i)))]) hx hb dX0_askedCrc_49 rfl hl (by decide) rfl (fun ls hl => ?_)
        refine lv_iinc (v := nI (j + 1)) (lv' := [(5, .int (nI (j + 1))), (3, .int (nI (sj_c1 (sj_pw sj_c1 j (sj_cf g f i 4294967295 ^^^ g (f + i)))))), (0, .ref q), (1, .int (nI f)), (2, .int (nI n)), (4, .int (nI (f + i)))]) hx hb dX0_askedCrc_50 hl (k := 1) rfl (by exact nI_1 j) (by decide) rfl (fun ls hl => ?_)
        refine lv_goto (tgt := 23) hx hb dX0_askedCrc_53 (by decide) ?_
        refine W.widen (k := 0) (n := 0) (Nat.le_of_ble_eq_true rfl) (Nat.le_of_ble_eq_true rfl) ?_
        exact ih3 (by omega) () H locs ls ⟨hP.sub (ws' := [(q, .inl (dI, N, .inl t))]) [0] rfl, hD.sub (ws' := [(q, .inl (dI, N, .inl t))]) [0] (by decide) rfl, hS, lv_sub (l' := [(3, .int (nI (sj_pw sj_c1 (j + 1) (sj_cf g f i 4294967295 ^^^ g (f + i))))), (5, .int (nI (j + 1))), (0, .ref q), (1, .int (nI f)), (2, .int (nI n)), (4, .int (nI (f + i)))]) hl [1, 0, 2, 3, 4, 5] rfl, trivial⟩
set_option maxHeartbeats 4000000 in
set_option maxRecDepth 100000 in
/-- askedAdler: the Adler-32 by its definition -/
theorem mX0_askedAdler (l : Launch) (D : va_G) (sz : Nat) (q : Nat) (dI : ClassId) (N : Nat) (t : Nat → Int32) (g : Nat → Nat) (f : Nat) (n : Nat) (hg : ∀ j, g j < 256) (hN : N ≤ 4096) (ht9 : ∀ j, j < N → t j = nI (g j)) (hfn : f + n ≤ N) : Met l yX0_askedAdler (ws_ yX0_askedAdler cX0_askedAdler 8 (some .long)) ({ frames := 0, cells := 0, slots := 0, locals := 0 }) (va_Pc [.ref q, .int (nI f), .int (nI n)] (zP D sz [(q, .inl (dI, N, .inl t))] [(dI, .int)] none none)) (va_Ql (fun (r : Int64) (_ : Unit) => r = lN (sj_adl g f n)) (zB D (va_A [(q, .inl (dI, N, .inl t))] sz) (fun (_ : Unit) => [(q, .inl (dI, N, .inl t))]) (fun (_ : Unit) => [])) (va_A [(q, .inl (dI, N, .inl t))] sz)) 0 0 (va_A [(q, .inl (dI, N, .inl t))] sz) := by
  refine Met.ofW (cc := cX0_askedAdler) (maxL := 8) (ret := (some .long)) (by decide) rfl ?_
  intro p e s m args below meth c s₁ B hml hv
  obtain ⟨rfl, hsz, hP, hK, hD0, hX⟩ := hv
  have hx := B.exec
  have hb := B.bytes
  have hr := B.returns
  have hts := atoms_spec (ws := ws_ yX0_askedAdler cX0_askedAdler 8 (some .long)) B.pre
  have hts : ∀ w ∈ lw_all, w.before _ s = true := fun w h => hts w (List.mem_cons_of_mem _ h)
  have hown : s.vm.findClass RX0 = some m.cls := findClass_of_methodNamed B.named
  have hlocks := B.notSynchronized
  subst hsz
  have hD := hD0.self (sz := s.heap.size)
  generalize hAe : va_A [(q, .inl (dI, N, .inl t))] s.heap.size = A at hD hX ⊢
  have hA : ∀ q : Nat, s.heap.size ≤ q → A q := fun q h => by rw [← hAe]; exact Or.inr h
  have hS : va_S A s.heap s.heap [] := va_S.rf
  have hP : va_P D zCl [(q, .inl (dI, N, .inl t))] s.heap := hP
  have hl := lv_entry ([.ref q, .int (nI f), .int (nI n)]) (n := 8) (Nat.le_of_ble_eq_true rfl)
  rw [lg_entry_eq]
  generalize (lg_sl ([.ref q, .int (nI f), .int (nI n)]) ++ List.replicate (8 - (lg_sl ([.ref q, .int (nI f), .int (nI n)])).length) Slot.unset).toArray = ls at hl ⊢
  have hl : lv_has ls 8 [(0, .ref q), (1, .int (nI f)), (2, .int (nI n))] := hl
  refine lv_lconst (v := lN (sj_a g f 0)) hx hb dX0_askedAdler_0 (by rfl) ?_
  refine lv_lstore_n (lv' := [(3, .long (lN (sj_a g f 0))), (0, .ref q), (1, .int (nI f)), (2, .int (nI n))]) hx hb dX0_askedAdler_1 rfl hl (by decide) rfl (fun ls hl => ?_)
  refine lv_lconst (v := lN (sj_b g f 0)) hx hb dX0_askedAdler_2 (by rfl) ?_
  refine lv_lstore (lv' := [(5, .long (lN (sj_b g f 0))), (3, .long (lN (sj_a g f 0))), (0, .ref q), (1, .int (nI f)), (2, .int (nI n))]) hx hb dX0_askedAdler_3 hl (by decide) rfl (fun ls hl => ?_)
  refine lv_iload_n hx hb dX0_askedAdler_5 rfl (lv_at hl 3 rfl) ?_
  refine lv_istore (lv' := [(7, .int (nI f)), (5, .long (lN (sj_b g f 0))), (3, .long (lN (sj_a g f 0))), (0, .ref q), (1, .int (nI f)), (2, .int (nI n))]) hx hb dX0_askedAdler_6 hl (by decide) rfl (fun ls hl => ?_)
  have hl : lv_has ls 8 [(7, .int (nI (f + 0))), (5, .long (lN (sj_b g f 0))), (3, .long (lN (sj_a g f 0))), (0, .ref q), (1, .int (nI f)), (2, .int (nI n))] := hl
  refine z_loop (σ := Unit) (n) (fun i => 0) (fun i => 0) (fun i _ H locs ls => va_P D zCl [(q, .inl (dI, N, .inl t))] H ∧ va_D A [(q, .inl (dI, N, .inl t))] ∧ va_S A s.heap H locs ∧ lv_has ls 8 [(0, .ref q), (1, .int (nI f)), (2, .int (nI n)), (3, .long (lN (sj_a g f i))), (5, .long (lN (sj_b g f i))), (7, .int (nI (f + i)))] ∧ True) ?_ (0) () (by omega) ⟨hP.sub (ws' := [(q, .inl (dI, N, .inl t))]) [0] rfl, hD.sub (ws' := [(q, .inl (dI, N, .inl t))]) [0] (by decide) rfl, hS, lv_sub (l' := [(0, .ref q), (1, .int (nI f)), (2, .int (nI n)), (3, .long (lN (sj_a g f 0))), (5, .long (lN (sj_b g f 0))), (7, .int (nI (f + 0)))]) hl [3, 4, 5, 2, 1, 0] rfl, trivial⟩ (by omega) (by omega)
  intro i u H locs ls hi ih hI
  obtain ⟨hP, hD, hS, hl, hJ⟩ := hI
  have hP : va_P D zCl [(q, .inl (dI, N, .inl t))] H := hP
  have hD : va_D A [(q, .inl (dI, N, .inl t))] := hD
  have hl : lv_has ls 8 [(0, .ref q), (1, .int (nI f)), (2, .int (nI n)), (3, .long (lN (sj_a g f i))), (5, .long (lN (sj_b g f i))), (7, .int (nI (f + i)))] := hl
  have hJ : True := hJ
  refine W.widen (k := 0) (n := 0) (Nat.le_refl _) (Nat.le_refl _) ?_
  have ha1 := sj_a_lt g f i
  have hb1 := sj_b_lt g f i
  have ha2 := sj_a_lt g f (i + 1)
  have hg1 := hg (f + i)
  refine lv_iload hx hb dX0_askedAdler_8 (lv_at hl 5 rfl) ?_
  refine lv_iload_n hx hb dX0_askedAdler_10 rfl (lv_at hl 1 rfl) ?_
  refine lv_iload_n hx hb dX0_askedAdler_11 rfl (lv_at hl 2 rfl) ?_
  refine lv_iadd hx hb dX0_askedAdler_12 ?_
  refine lv_topi (fun x_1 e_1 => ?_)
  have e_1 : x_1 = nI (f + n) := by refine e_1.trans ?_; exact nI_add f n
  subst e_1
  refine lv_icmp_ge (tgt := 44) hx hb dX0_askedAdler_13 (by decide) (fun c0 => ?_) (fun c0 => ?_)
  · skip
    have hin9 : i = n := by have h9 : ¬ i < n := fun h => nI_ge (a := f + i) (b := f + n) (by omega) (by omega) c0; omega
    refine lv_lload hx hb dX0_askedAdler_44 (lv_at hl 4 rfl) ?_
    refine lv_bipush (v := 16) hx hb dX0_askedAdler_46 (by decide +kernel) ?_
    refine lv_lshl hx hb dX0_askedAdler_48 rfl ?_
    refine lv_topl (fun x_2 e_2 => ?_)
    have e_2 : x_2 = lN (sj_b g f i * 65536) := by refine e_2.trans ?_; exact zj_shl16 _
    subst e_2
    refine lv_lload_n hx hb dX0_askedAdler_49 rfl (lv_at hl 3 rfl) ?_
    refine lv_lor hx hb dX0_askedAdler_50 ?_
    refine lv_topl (fun x_3 e_3 => ?_)
    have e_3 : x_3 = lN (sj_adl g f n) := by refine e_3.trans ?_; rw [← hin9]; exact zj_or (by omega) (by omega)
    subst e_3
    have hP9 := hP.sub (ws' := [(q, .inl (dI, N, .inl t))]) [0] rfl
    have hD9 := hD.sub (ws' := [(q, .inl (dI, N, .inl t))]) [0] (by decide) rfl
    have hK9 := hK.sub (tys' := []) [] rfl
    exact W.lret (v := (lN (sj_adl g f n))) hx hb hr (fun t ht hW => ⟨⟨(lN (sj_adl g f n)), (), rfl, rfl, by rw [ht]; exact hP9, va_K.moved hW.alike hK9, hD9⟩, hS.F ht⟩) hS.2.2 dX0_askedAdler_51
  · skip
    have hin9 : i < n := by have h9 : ¬ f + n ≤ f + i := fun h => c0 (nI_le h (by omega)); omega
    refine lv_lload_n hx hb dX0_askedAdler_16 rfl (lv_at hl 3 rfl) ?_
    refine lv_aload_n hx hb dX0_askedAdler_17 rfl (lv_at hl 0 rfl) ?_
    refine lv_iload hx hb dX0_askedAdler_18 (lv_at hl 5 rfl) ?_
    refine va_iald hx hb hK hP 0 0 rfl rfl (vp_in_nI (n := f + i) (by omega) (by omega)) dX0_askedAdler_20 ?_
    refine lv_topi (fun x_4 e_4 => ?_)
    have e_4 : x_4 = nI (g (f + i)) := by refine e_4.trans ?_; rw [nI_clamp (by omega)]; exact ht9 _ (by omega)
    subst e_4
    refine lv_i2l hx hb dX0_askedAdler_21 rfl ?_
    refine lv_topl (fun x_5 e_5 => ?_)
    have e_5 : x_5 = lN (g (f + i)) := by refine e_5.trans ?_; exact nI_l (by omega)
    subst e_5
    refine lv_ladd hx hb dX0_askedAdler_22 ?_
    refine lv_topl (fun x_6 e_6 => ?_)
    have e_6 : x_6 = lN (sj_a g f i + g (f + i)) := by refine e_6.trans ?_; exact lN_add _ _
    subst e_6
    refine lv_ldc2 (v := 65521) hx hb hown (hts _ q167) dX0_askedAdler_23 ?_
    refine lv_lrem hx hb dX0_askedAdler_26 (by decide +kernel) ?_
    refine lv_topl (fun x_7 e_7 => ?_)
    have e_7 : x_7 = lN (sj_a g f (i + 1)) := by refine e_7.trans ?_; exact zj_lmod (by omega)
    subst e_7
    refine lv_lstore_n (lv' := [(3, .long (lN (sj_a g f (i + 1)))), (0, .ref q), (1, .int (nI f)), (2, .int (nI n)), (5, .long (lN (sj_b g f i))), (7, .int (nI (f + i)))]) hx hb dX0_askedAdler_27 rfl hl (by decide) rfl (fun ls hl => ?_)
    refine lv_lload hx hb dX0_askedAdler_28 (lv_at hl 4 rfl) ?_
    refine lv_lload_n hx hb dX0_askedAdler_30 rfl (lv_at hl 0 rfl) ?_
    refine lv_ladd hx hb dX0_askedAdler_31 ?_
    refine lv_topl (fun x_8 e_8 => ?_)
    have e_8 : x_8 = lN (sj_b g f i + sj_a g f (i + 1)) := by refine e_8.trans ?_; exact lN_add _ _
    subst e_8
    refine lv_ldc2 (v := 65521) hx hb hown (hts _ q167) dX0_askedAdler_32 ?_
    refine lv_lrem hx hb dX0_askedAdler_35 (by decide +kernel) ?_
    refine lv_topl (fun x_9 e_9 => ?_)
    have e_9 : x_9 = lN (sj_b g f (i + 1)) := by refine e_9.trans ?_; exact zj_lmod (by omega)
    subst e_9
    refine lv_lstore (lv' := [(5, .long (lN (sj_b g f (i + 1)))), (3, .long (lN (sj_a g f (i + 1)))), (0, .ref q), (1, .int (nI f)), (2, .int (nI n)), (7, .int (nI (f + i)))]) hx hb dX0_askedAdler_36 hl (by decide) rfl (fun ls hl => ?_)
    refine lv_iinc (v := nI (f + (i + 1))) (lv' := [(7, .int (nI (f + (i + 1)))), (5, .long (lN (sj_b g f (i + 1)))), (3, .long (lN (sj_a g f (i + 1)))), (0, .ref q), (1, .int (nI f)), (2, .int (nI n))]) hx hb dX0_askedAdler_38 hl (k := 5) rfl (by exact nI_1 (f + i)) (by decide) rfl (fun ls hl => ?_)
    refine lv_goto (tgt := 8) hx hb dX0_askedAdler_41 (by decide) ?_
    refine W.widen (k := 0) (n := 0) (Nat.le_of_ble_eq_true rfl) (Nat.le_of_ble_eq_true rfl) ?_
    exact ih (by omega) () H locs ls ⟨hP.sub (ws' := [(q, .inl (dI, N, .inl t))]) [0] rfl, hD.sub (ws' := [(q, .inl (dI, N, .inl t))]) [0] (by decide) rfl, hS, lv_sub (l' := [(0, .ref q), (1, .int (nI f)), (2, .int (nI n)), (3, .long (lN (sj_a g f (i + 1)))), (5, .long (lN (sj_b g f (i + 1)))), (7, .int (nI (f + (i + 1))))]) hl [3, 4, 5, 2, 1, 0] rfl, trivial⟩
set_option maxHeartbeats 4000000 in
set_option maxRecDepth 100000 in
/-- own: CRC-32 and Adler-32 by their definitions -/
theorem mX0_own (l : Launch) (D : va_G) (sz : Nat) (bs : Nat) (Ls : Nat) (xs : Nat → Int32) (n : Nat) (hL : Ls ≤ 48) (hn : n ≤ 176) : Met l yX0_own (ws_ yX0_own cX0_own 8 (some (.array .long))) ({ frames := 1, cells := 1, slots := 2, locals := 21 }) (va_Pc [.ref bs, .int (nI n)] (zP D sz [] [] none (some (bs, Ls, xs)))) (va_Qr (fun (u : ClassId × (Nat → Int64)) => u.2 0 = lN (sj_crc (sj_ot Ls xs) 0 n) ∧ u.2 1 = lN (sj_adl (sj_ot Ls xs) 0 n)) (zBr D (va_A [] sz) (fun (u : ClassId × (Nat → Int64)) (ra : Nat) => [(ra, .inl (u.1, 2, .inr (.inl u.2)))]) (fun (u : ClassId × (Nat → Int64)) (ra : Nat) => [(u.1, .long)])) (va_A [] sz)) 1 2 (va_A [] sz) := by
  refine Met.ofW (cc := cX0_own) (maxL := 8) (ret := (some (.array .long))) (by decide) rfl ?_
  intro p e s m args below meth c s₁ B hml hv
  obtain ⟨rfl, hsz, hP, hK, hD0, hX⟩ := hv
  have hx := B.exec
  have hb := B.bytes
  have hr := B.returns
  have hts := atoms_spec (ws := ws_ yX0_own cX0_own 8 (some (.array .long))) B.pre
  have hts : ∀ w ∈ lw_all, w.before _ s = true := fun w h => hts w (List.mem_cons_of_mem _ h)
  have hown : s.vm.findClass RX0 = some m.cls := findClass_of_methodNamed B.named
  have hlocks := B.notSynchronized
  subst hsz
  have hD := hD0.self (sz := s.heap.size)
  generalize hAe : va_A [] s.heap.size = A at hD hX ⊢
  have hA : ∀ q : Nat, s.heap.size ≤ q → A q := fun q h => by rw [← hAe]; exact Or.inr h
  have hS : va_S A s.heap s.heap [] := va_S.rf
  have hP : va_P D zCl [] s.heap := hP
  have hTs : va_T .int bs Ls (fun j => .int (xs j)) A s s.heap := hX.2.1 (bs, Ls, xs) rfl
  have hl := lv_entry ([.ref bs, .int (nI n)]) (n := 8) (Nat.le_of_ble_eq_true rfl)
  rw [lg_entry_eq]
  generalize (lg_sl ([.ref bs, .int (nI n)]) ++ List.replicate (8 - (lg_sl ([.ref bs, .int (nI n)])).length) Slot.unset).toArray = ls at hl ⊢
  have hl : lv_has ls 8 [(0, .ref bs), (1, .int (nI n))] := hl
  have hg : ∀ j, sj_ot Ls xs j < 256 := sj_ot_lt Ls xs
  have hgo : ∀ i, sj_wb (sj_cell Ls xs (4 + i / 4)) (i % 4) = sj_ot Ls xs (0 + i) := fun i => by rw [Nat.zero_add]; rfl
  generalize sj_ot Ls xs = g at hg hgo ⊢
  refine lv_iconst (v := nI (sj_cf g 0 0 4294967295)) hx hb dX0_own_0 (by show (-1 : Int32) = nI 4294967295; decide +kernel) ?_
  refine lv_istore_n (lv' := [(2, .int (nI (sj_cf g 0 0 4294967295))), (0, .ref bs), (1, .int (nI n))]) hx hb dX0_own_1 rfl hl (by decide) rfl (fun ls hl => ?_)
  refine lv_iconst (v := nI (sj_a g 0 0)) hx hb dX0_own_2 (by rfl) ?_
  refine lv_istore_n (lv' := [(3, .int (nI (sj_a g 0 0))), (2, .int (nI (sj_cf g 0 0 4294967295))), (0, .ref bs), (1, .int (nI n))]) hx hb dX0_own_3 rfl hl (by decide) rfl (fun ls hl => ?_)
  refine lv_iconst (v := nI (sj_b g 0 0)) hx hb dX0_own_4 (by rfl) ?_
  refine lv_istore (lv' := [(4, .int (nI (sj_b g 0 0))), (3, .int (nI (sj_a g 0 0))), (2, .int (nI (sj_cf g 0 0 4294967295))), (0, .ref bs), (1, .int (nI n))]) hx hb dX0_own_5 hl (by decide) rfl (fun ls hl => ?_)
  refine lv_iconst (v := nI 0) hx hb dX0_own_7 (by rfl) ?_
  refine lv_istore (lv' := [(5, .int (nI 0)), (4, .int (nI (sj_b g 0 0))), (3, .int (nI (sj_a g 0 0))), (2, .int (nI (sj_cf g 0 0 4294967295))), (0, .ref bs), (1, .int (nI n))]) hx hb dX0_own_8 hl (by decide) rfl (fun ls hl => ?_)
  refine z_loop (σ := Unit) (n) (fun i => 0) (fun i => 0) (fun i _ H locs ls => va_P D zCl [] H ∧ va_D A [] ∧ va_S A s.heap H locs ∧ lv_has ls 8 [(0, .ref bs), (1, .int (nI n)), (2, .int (nI (sj_cf g 0 i 4294967295))), (3, .int (nI (sj_a g 0 i))), (4, .int (nI (sj_b g 0 i))), (5, .int (nI i))] ∧ True) ?_ (0) () (by omega) ⟨hP.sub (ws' := []) [] rfl, hD.sub (ws' := []) [] (by decide) rfl, hS, lv_sub (l' := [(0, .ref bs), (1, .int (nI n)), (2, .int (nI (sj_cf g 0 0 4294967295))), (3, .int (nI (sj_a g 0 0))), (4, .int (nI (sj_b g 0 0))), (5, .int (nI 0))]) hl [4, 5, 3, 2, 1, 0] rfl, trivial⟩ (by omega) (by omega)
  intro i u H locs ls hi ih hI
  obtain ⟨hP, hD, hS, hl, hJ⟩ := hI
  have hP : va_P D zCl [] H := hP
  have hD : va_D A [] := hD
  have hl : lv_has ls 8 [(0, .ref bs), (1, .int (nI n)), (2, .int (nI (sj_cf g 0 i 4294967295))), (3, .int (nI (sj_a g 0 i))), (4, .int (nI (sj_b g 0 i))), (5, .int (nI i))] := hl
  have hJ : True := hJ
  refine W.widen (k := 0) (n := 0) (Nat.le_refl _) (Nat.le_refl _) ?_
  have hcb : sj_cf g 0 i 4294967295 < 4294967296 := sj_cf_bd hg 0 i _ (by decide)
  have ha1 := sj_a_lt g 0 i
  have hb1 := sj_b_lt g 0 i
  have ha2 := sj_a_lt g 0 (i + 1)
  have hg1 := hg (0 + i)
  refine lv_iload hx hb dX0_own_10 (lv_at hl 5 rfl) ?_
  refine lv_iload_n hx hb dX0_own_12 rfl (lv_at hl 1 rfl) ?_
  refine lv_icmp_ge (tgt := 107) hx hb dX0_own_13 (by decide) (fun c0 => ?_) (fun c0 => ?_)
  · skip
    have hin9 : i = n := by have h9 : ¬ i < n := fun h => nI_ge h (by omega) c0; omega
    rw [hin9] at ha1 hb1 hl
    refine lv_iconst (v := 2) hx hb dX0_own_107 (by decide) ?_
    refine va_newa (atype := .long) (ty := .long) (N' := 2) (a0 := (2, .inr (.inl (fun _ => 0)))) hx hb (hts _ q149) rfl hK hP hD hS hA (fun _ => rfl) (by decide) (by decide +kernel) (Nat.le_of_ble_eq_true rfl) (Nat.le_of_ble_eq_true rfl) (Nat.le_of_ble_eq_true rfl) dX0_own_108 (fun qa d1 H hK hP hD hS => ?_)
    have hK : va_K D zCl [(d1, .long)] s := hK
    have hP : va_P D zCl [(qa, .inl (d1, 2, .inr (.inl (fun _ => 0))))] H := hP
    have hD : va_D A [(qa, .inl (d1, 2, .inr (.inl (fun _ => 0))))] := hD
    refine lv_dup hx hb dX0_own_110 rfl ?_
    refine lv_iconst (v := 0) hx hb dX0_own_111 (by decide) ?_
    refine lv_iload_n hx hb dX0_own_112 rfl (lv_at hl 2 rfl) ?_
    refine lv_iconst (v := (-1)) hx hb dX0_own_113 (by decide) ?_
    refine lv_ixor hx hb dX0_own_114 ?_
    refine lv_topi (fun x_1 e_1 => ?_)
    have e_1 : x_1 = nI (sj_crc g 0 n) := by refine e_1.trans ?_; exact zj_not _
    subst e_1
    refine lv_i2l hx hb dX0_own_115 rfl ?_
    refine lv_topl (fun x_2 e_2 => ?_)
    have e_2 : x_2 = (nI (sj_crc g 0 n)).toInt64 := by refine e_2.trans ?_; rfl
    subst e_2
    refine lv_ldc2 (v := 4294967295) hx hb hown (hts _ q133) dX0_own_116 ?_
    refine lv_land hx hb dX0_own_119 ?_
    refine lv_topl (fun x_3 e_3 => ?_)
    have e_3 : x_3 = lN (sj_crc g 0 n) := by refine e_3.trans ?_; exact zj_i2l (sj_crc_bd hg 0 n)
    subst e_3
    refine va_last hx hb hK hP hD hS 0 0 rfl rfl (pk_in 0 2 (by decide)) dX0_own_120 (fun H locs hP hD hS => ?_)
    rw [show vp_updL (fun _ => 0) (0 : Int32).toNatClampNeg (lN (sj_crc g 0 n)) = vp_updL (fun _ => 0) 0 (lN (sj_crc g 0 n)) by rfl] at hP hD
    have hP : va_P D zCl [(qa, .inl (d1, 2, .inr (.inl (vp_updL (fun _ => 0) 0 (lN (sj_crc g 0 n))))))] H := hP
    have hD : va_D A [(qa, .inl (d1, 2, .inr (.inl (vp_updL (fun _ => 0) 0 (lN (sj_crc g 0 n))))))] := hD
    refine lv_dup hx hb dX0_own_121 rfl ?_
    refine lv_iconst (v := 1) hx hb dX0_own_122 (by decide) ?_
    refine lv_iload hx hb dX0_own_123 (lv_at hl 4 rfl) ?_
    refine lv_i2l hx hb dX0_own_125 rfl ?_
    refine lv_topl (fun x_4 e_4 => ?_)
    have e_4 : x_4 = lN (sj_b g 0 n) := by refine e_4.trans ?_; exact nI_l (by omega)
    subst e_4
    refine lv_bipush (v := 16) hx hb dX0_own_126 (by decide +kernel) ?_
    refine lv_lshl hx hb dX0_own_128 rfl ?_
    refine lv_topl (fun x_5 e_5 => ?_)
    have e_5 : x_5 = lN (sj_b g 0 n * 65536) := by refine e_5.trans ?_; exact zj_shl16 _
    subst e_5
    refine lv_iload_n hx hb dX0_own_129 rfl (lv_at hl 3 rfl) ?_
    refine lv_i2l hx hb dX0_own_130 rfl ?_
    refine lv_topl (fun x_6 e_6 => ?_)
    have e_6 : x_6 = lN (sj_a g 0 n) := by refine e_6.trans ?_; exact nI_l (by omega)
    subst e_6
    refine lv_lor hx hb dX0_own_131 ?_
    refine lv_topl (fun x_7 e_7 => ?_)
    have e_7 : x_7 = lN (sj_adl g 0 n) := by refine e_7.trans ?_; exact zj_or (by omega) (by omega)
    subst e_7
    refine va_last hx hb hK hP hD hS 0 0 rfl rfl (pk_in 1 2 (by decide)) dX0_own_132 (fun H locs hP hD hS => ?_)
    rw [show vp_updL (vp_updL (fun _ => 0) 0 (lN (sj_crc g 0 n))) (1 : Int32).toNatClampNeg (lN (sj_adl g 0 n)) = vp_updL (vp_updL (fun _ => 0) 0 (lN (sj_crc g 0 n))) 1 (lN (sj_adl g 0 n)) by rfl] at hP hD
    have hP : va_P D zCl [(qa, .inl (d1, 2, .inr (.inl (vp_updL (vp_updL (fun _ => 0) 0 (lN (sj_crc g 0 n))) 1 (lN (sj_adl g 0 n))))))] H := hP
    have hD : va_D A [(qa, .inl (d1, 2, .inr (.inl (vp_updL (vp_updL (fun _ => 0) 0 (lN (sj_crc g 0 n))) 1 (lN (sj_adl g 0 n))))))] := hD
    have hP9 := hP.sub (ws' := [(qa, .inl (d1, 2, .inr (.inl (vp_updL (vp_updL (fun _ => 0) 0 (lN (sj_crc g 0 n))) 1 (lN (sj_adl g 0 n))))))]) [0] rfl
    have hD9 := hD.sub (ws' := [(qa, .inl (d1, 2, .inr (.inl (vp_updL (vp_updL (fun _ => 0) 0 (lN (sj_crc g 0 n))) 1 (lN (sj_adl g 0 n))))))]) [0] (by decide) rfl
    have hK9 := hK.sub (tys' := [(d1, .long)]) [0] rfl
    exact W.aret (v := .ref qa) hx hb hr (Or.inr ⟨.long, rfl⟩) (Or.inr ⟨_, rfl⟩) (fun t ht hW => ⟨⟨(d1, (vp_updL (vp_updL (fun _ => 0) 0 (lN (sj_crc g 0 n))) 1 (lN (sj_adl g 0 n)))), qa, rfl, ⟨rfl, rfl⟩, by rw [ht]; exact hP9, va_K.moved hW.alike hK9, hD9⟩, hS.F ht⟩) hS.2.2 dX0_own_133
  · skip
    have hin9 : i < n := Nat.lt_of_not_le (fun h => c0 (nI_le h (by omega)))
    have hXb : (sj_cf g 0 i 4294967295 ^^^ g (0 + i)) < 4294967296 := sj_lt_xor hcb (by omega)
    refine lv_aload_n hx hb dX0_own_16 rfl (lv_at hl 0 rfl) ?_
    refine lv_iconst (v := 4) hx hb dX0_own_17 (by decide) ?_
    refine lv_iload hx hb dX0_own_18 (lv_at hl 5 rfl) ?_
    refine lv_iconst (v := 4) hx hb dX0_own_20 (by decide) ?_
    refine lv_idiv hx hb dX0_own_21 (by decide) ?_
    refine lv_topi (fun x_8 e_8 => ?_)
    have e_8 : x_8 = nI (i / 4) := by refine e_8.trans ?_; exact pk_div (d := 4) (by omega) (by decide) (by decide)
    subst e_8
    refine lv_iadd hx hb dX0_own_22 ?_
    refine lv_topi (fun x_9 e_9 => ?_)
    have e_9 : x_9 = nI (4 + i / 4) := by refine e_9.trans ?_; exact nI_add 4 _
    subst e_9
    refine z_goi (wr := []) (va_runS (As := [.ref bs, .int (nI (4 + i / 4))]) (rest := []) ⟨hx, hb, hml, hown, hts⟩ (mX0_cell l D H.size bs Ls xs (4 + i / 4) hL (by omega)) (va_cwS 2 hts (lw_S q121 q122 q3 q123) rfl rfl rfl (by decide +kernel) ⟨(Nat.le_of_ble_eq_true rfl), (Nat.le_of_ble_eq_true rfl)⟩) (z_pre hK hP hD hS hA hX [] [] rfl (by decide) rfl (fun _ h9 => h9) (fun _ h9 => h9)) rfl rfl hl.1 rfl (lv_room (Nat.le_of_ble_eq_true rfl)) dX0_own_23 ⟨(Nat.le_of_ble_eq_true rfl), (Nat.le_of_ble_eq_true rfl)⟩) hK hP hD hS hA [] [] rfl rfl (by decide) (by decide) (fun r_11 u_10 H locs h_12 _ hP hD hS => ?_)
    have hP : va_P D zCl [] H := hP
    have hD : va_D A [] := hD
    have h_12 : r_11 = sj_cell Ls xs (4 + i / 4) := h_12
    subst h_12
    refine lv_bipush (v := nI 24) hx hb dX0_own_26 (by decide +kernel) ?_
    refine lv_bipush (v := nI 8) hx hb dX0_own_28 (by decide +kernel) ?_
    refine lv_iload hx hb dX0_own_30 (lv_at hl 5 rfl) ?_
    refine lv_iconst (v := 4) hx hb dX0_own_32 (by decide) ?_
    refine lv_irem hx hb dX0_own_33 (by decide) ?_
    refine lv_topi (fun x_13 e_13 => ?_)
    have e_13 : x_13 = nI (i % 4) := by refine e_13.trans ?_; exact pk_rem (d := 4) (by omega) (by decide) (by decide)
    subst e_13
    refine lv_imul hx hb dX0_own_34 ?_
    refine lv_topi (fun x_14 e_14 => ?_)
    have e_14 : x_14 = nI (8 * (i % 4)) := by refine e_14.trans ?_; exact pk_mul 8 _
    subst e_14
    refine lv_isub hx hb dX0_own_35 ?_
    refine lv_topi (fun x_15 e_15 => ?_)
    have e_15 : x_15 = nI (24 - 8 * (i % 4)) := by refine e_15.trans ?_; exact pk_sub (by omega)
    subst e_15
    refine lv_iushr hx hb dX0_own_36 rfl ?_
    refine lv_topi (fun xu exu => ?_)
    refine lv_sipush (v := 255) hx hb dX0_own_37 (by decide +kernel) ?_
    refine lv_iand hx hb dX0_own_40 ?_
    refine lv_topi (fun x_16 e_16 => ?_)
    have e_16 : x_16 = nI (g (0 + i)) := by refine e_16.trans ?_; rw [exu, ← hgo]; exact zj_wbU _ _
    subst e_16
    refine lv_istore (lv' := [(6, .int (nI (g (0 + i)))), (0, .ref bs), (1, .int (nI n)), (2, .int (nI (sj_cf g 0 i 4294967295))), (3, .int (nI (sj_a g 0 i))), (4, .int (nI (sj_b g 0 i))), (5, .int (nI i))]) hx hb dX0_own_41 hl (by decide) rfl (fun ls hl => ?_)
    refine lv_iload_n hx hb dX0_own_43 rfl (lv_at hl 3 rfl) ?_
    refine lv_iload hx hb dX0_own_44 (lv_at hl 0 rfl) ?_
    refine lv_ixor hx hb dX0_own_46 ?_
    refine lv_topi (fun x_17 e_17 => ?_)
    have e_17 : x_17 = nI (sj_cf g 0 i 4294967295 ^^^ g (0 + i)) := by refine e_17.trans ?_; exact nx_xor _ _
    subst e_17
    refine lv_istore_n (lv' := [(2, .int (nI (sj_cf g 0 i 4294967295 ^^^ g (0 + i)))), (6, .int (nI (g (0 + i)))), (0, .ref bs), (1, .int (nI n)), (3, .int (nI (sj_a g 0 i))), (4, .int (nI (sj_b g 0 i))), (5, .int (nI i))]) hx hb dX0_own_47 rfl hl (by decide) rfl (fun ls hl => ?_)
    refine lv_iconst (v := 0) hx hb dX0_own_48 (by decide) ?_
    refine lv_istore (lv' := [(7, .int 0), (2, .int (nI (sj_cf g 0 i 4294967295 ^^^ g (0 + i)))), (6, .int (nI (g (0 + i)))), (0, .ref bs), (1, .int (nI n)), (3, .int (nI (sj_a g 0 i))), (4, .int (nI (sj_b g 0 i))), (5, .int (nI i))]) hx hb dX0_own_49 hl (by decide) rfl (fun ls hl => ?_)
    have hl : lv_has ls 8 [(7, .int (nI 0)), (2, .int (nI (sj_pw sj_c1 0 (sj_cf g 0 i 4294967295 ^^^ g (0 + i))))), (6, .int (nI (g (0 + i)))), (0, .ref bs), (1, .int (nI n)), (3, .int (nI (sj_a g 0 i))), (4, .int (nI (sj_b g 0 i))), (5, .int (nI i))] := hl
    refine z_loop (σ := Unit) (8) (fun j => 0) (fun j => 0) (fun j _ H locs ls => va_P D zCl [] H ∧ va_D A [] ∧ va_S A s.heap H locs ∧ lv_has ls 8 [(2, .int (nI (sj_pw sj_c1 j (sj_cf g 0 i 4294967295 ^^^ g (0 + i))))), (7, .int (nI j)), (0, .ref bs), (1, .int (nI n)), (3, .int (nI (sj_a g 0 i))), (4, .int (nI (sj_b g 0 i))), (5, .int (nI i)), (6, .int (nI (g (0 + i))))] ∧ True) ?_ (0) () (by decide) ⟨hP.sub (ws' := []) [] rfl, hD.sub (ws' := []) [] (by decide) rfl, hS, lv_sub (l' := [(2, .int (nI (sj_pw sj_c1 0 (sj_cf g 0 i 4294967295 ^^^ g (0 + i))))), (7, .int (nI 0)), (0, .ref bs), (1, .int (nI n)), (3, .int (nI (sj_a g 0 i))), (4, .int (nI (sj_b g 0 i))), (5, .int (nI i)), (6, .int (nI (g (0 + i))))]) hl [1, 0, 3, 4, 5, 6, 7, 2] rfl, trivial⟩ (Nat.le_refl _) (Nat.le_refl _)
    intro j u H locs ls hi3 ih3 hI
    obtain ⟨hP, hD, hS, hl, hJ3⟩ := hI
    have hP : va_P D zCl [] H := hP
    have hD : va_D A [] := hD
    have hl : lv_has ls 8 [(2, .int (nI (sj_pw sj_c1 j (sj_cf g 0 i 4294967295 ^^^ g (0 + i))))), (7, .int (nI j)), (0, .ref bs), (1, .int (nI n)), (3, .int (nI (sj_a g 0 i))), (4, .int (nI (sj_b g 0 i))), (5, .int (nI i)), (6, .int (nI (g (0 + i))))] := hl
    have hJ3 : True := hJ3
    refine W.widen (k := 0) (n := 0) (Nat.le_refl _) (Nat.le_refl _) ?_
    have hY : (sj_pw sj_c1 j (sj_cf g 0 i 4294967295 ^^^ g (0 + i))) < 4294967296 := sj_pw_bd sj_c1_bd j _ hXb
    refine lv_iload hx hb dX0_own_51 (lv_at hl 1 rfl) ?_
    refine lv_bipush (v := 8) hx hb dX0_own_53 (by decide +kernel) ?_
    refine lv_icmp_ge (tgt := 84) hx hb dX0_own_55 (by decide) (fun cj => ?_) (fun cj => ?_)
    · skip
      have hj8 : 8 ≤ j := Nat.not_lt.mp (fun h => nI_ge (a := j) (b := 8) h (by decide) cj)
      have hje : j = 8 := by omega
      rw [hje] at hl
      refine lv_iload_n hx hb dX0_own_84 rfl (lv_at hl 4 rfl) ?_
      refine lv_iload hx hb dX0_own_85 (lv_at hl 7 rfl) ?_
      refine lv_iadd hx hb dX0_own_87 ?_
      refine lv_topi (fun x_22 e_22 => ?_)
      have e_22 : x_22 = nI (sj_a g 0 i + g (0 + i)) := by refine e_22.trans ?_; exact nI_add _ _
      subst e_22
      refine lv_ldc (v := 65521) hx hb hown (hts _ q132) dX0_own_88 ?_
      refine lv_topi (fun x_23 e_23 => ?_)
      have e_23 : x_23 = nI 65521 := by refine e_23.trans ?_; rfl
      subst e_23
      refine lv_irem hx hb dX0_own_90 (by decide +kernel) ?_
      refine lv_topi (fun x_24 e_24 => ?_)
      have e_24 : x_24 = nI (sj_a g 0 (i + 1)) := by refine e_24.trans ?_; exact pk_rem (by omega) (by decide) (by decide)
      subst e_24
      refine lv_istore_n (lv' := [(3, .int (nI (sj_a g 0 (i + 1)))), (2, .int (nI (sj_pw sj_c1 8 (sj_cf g 0 i 4294967295 ^^^ g (0 + i))))), (7, .int (nI 8)), (0, .ref bs), (1, .int (nI n)), (4, .int (nI (sj_b g 0 i))), (5, .int (nI i)), (6, .int (nI (g (0 + i))))]) hx hb dX0_own_91 rfl hl (by decide) rfl (fun ls hl => ?_)
      refine lv_iload hx hb dX0_own_92 (lv_at hl 5 rfl) ?_
      refine lv_iload_n hx hb dX0_own_94 rfl (lv_at hl 0 rfl) ?_
      refine lv_iadd hx hb dX0_own_95 ?_
      refine lv_topi (fun x_25 e_25 => ?_)
      have e_25 : x_25 = nI (sj_b g 0 i + sj_a g 0 (i + 1)) := by refine e_25.trans ?_; exact nI_add _ _
      subst e_25
      refine lv_ldc (v := 65521) hx hb hown (hts _ q132) dX0_own_96 ?_
      refine lv_topi (fun x_26 e_26 => ?_)
      have e_26 : x_26 = nI 65521 := by refine e_26.trans ?_; rfl
      subst e_26
      refine lv_irem hx hb dX0_own_98 (by decide +kernel) ?_
      refine lv_topi (fun x_27 e_27 => ?_)
      have e_27 : x_27 = nI (sj_b g 0 (i + 1)) := by refine e_27.trans ?_; exact pk_rem (by omega) (by decide) (by decide)
      subst e_27
      refine lv_istore (lv' := [(4, .int (nI (sj_b g 0 (i + 1)))), (3, .int (nI (sj_a g 0 (i + 1)))), (2, .int (nI (sj_pw sj_c1 8 (sj_cf g 0 i 4294967295 ^^^ g (0 + i))))), (7, .int (nI 8)), (0, .ref bs), (1, .int (nI n)), (5, .int (nI i)), (6, .int (nI (g (0 + i))))]) hx hb dX0_own_99 hl (by decide) rfl (fun ls hl => ?_)
      refine lv_iinc (v := nI (i + 1)) (lv' := [(5, .int (nI (i + 1))), (4, .int (nI (sj_b g 0 (i + 1)))), (3, .int (nI (sj_a g 0 (i + 1)))), (2, .int (nI (sj_pw sj_c1 8 (sj_cf g 0 i 4294967295 ^^^ g (0 + i))))), (7, .int (nI 8)), (0, .ref bs), (1, .int (nI n)), (6, .int (nI (g (0 + i))))]) hx hb dX0_own_101 hl (k := 6) rfl (by exact nI_1 i) (by decide) rfl (fun ls hl => ?_)
      refine lv_goto (tgt := 10) hx hb dX0_own_104 (by decide) ?_
      have hl : lv_has ls 8 [(5, .int (nI (i + 1))), (4, .int (nI (sj_b g 0 (i + 1)))), (3, .int (nI (sj_a g 0 (i + 1)))), (2, .int (nI (sj_cf g 0 (i + 1) 4294967295))), (7, .int (nI 8)), (0, .ref bs), (1, .int (nI n)), (6, .int (nI (g (0 + i))))] := hl
      refine W.widen (k := 0) (n := 0) (Nat.le_of_ble_eq_true rfl) (Nat.le_of_ble_eq_true rfl) ?_
      exact ih (by omega) () H locs ls ⟨hP.sub (ws' := []) [] rfl, hD.sub (ws' := []) [] (by decide) rfl, hS, lv_sub (l' := [(0, .ref bs), (1, .int (nI n)), (2, .int (nI (sj_cf g 0 (i + 1) 4294967295))), (3, .int (nI (sj_a g 0 (i + 1)))), (4, .int (nI (sj_b g 0 (i + 1)))), (5, .int (nI (i + 1)))]) hl [5, 6, 3, 2, 1, 0] rfl, trivial⟩
    · skip
      have hj8 : j < 8 := Nat.lt_of_not_le (fun h => cj (nI_le (a := 8) (b := j) h (by omega)))
      refine lv_iload_n hx hb dX0_own_58 rfl (lv_at hl 0 rfl) ?_
      refine lv_iconst (v := 1) hx hb dX0_own_59 (by decide) ?_
      refine lv_iand hx hb dX0_own_60 ?_
      refine lv_topi (fun x_18 e_18 => ?_)
      have e_18 : x_18 = nI ((sj_pw sj_c1 j (sj_cf g 0 i 4294967295 ^^^ g (0 + i))) % 2) := by refine e_18.trans ?_; exact zj_and1 hY
      subst e_18
      refine lv_iconst (v := 1) hx hb dX0_own_61 (by decide) ?_
      refine lv_icmp_ne (tgt := 74) hx hb dX0_own_62 (by decide) (fun cb => ?_) (fun cb => ?_)
      · skip
        refine lv_iload_n hx hb dX0_own_74 rfl (lv_at hl 0 rfl) ?_
        refine lv_iconst (v := 1) hx hb dX0_own_75 (by decide) ?_
        refine lv_iushr hx hb dX0_own_76 rfl ?_
        refine lv_topi (fun x_19 e_19 => ?_)
        have e_19 : x_19 = nI ((sj_pw sj_c1 j (sj_cf g 0 i 4294967295 ^^^ g (0 + i))) / 2) := by refine e_19.trans ?_; exact zj_shr1 hY
        subst e_19
        have hb9 : ¬ (sj_pw sj_c1 j (sj_cf g 0 i 4294967295 ^^^ g (0 + i))) % 2 = 1 := fun h => cb (by rw [h]; rfl)
        rw [sj_c1_f hb9]
        refine lv_istore_n (lv' := [(2, .int (nI (sj_c1 (sj_pw sj_c1 j (sj_cf g 0 i 4294967295 ^^^ g (0 + i)))))), (7, .int (nI j)), (0, .ref bs), (1, .int (nI n)), (3, .int (nI (sj_a g 0 i))), (4, .int (nI (sj_b g 0 i))), (5, .int (nI i)), (6, .int (nI (g (0 + i))))]) hx hb dX0_own_77 rfl hl (by decide) rfl (fun ls hl => ?_)
        refine lv_iinc (v := nI (j + 1)) (lv' := [(7, .int (nI (j + 1))), (2, .int (nI (sj_c1 (sj_pw sj_c1 j (sj_cf g 0 i 4294967295 ^^^ g (0 + i)))))), (0, .ref bs), (1, .int (nI n)), (3, .int (nI (sj_a g 0 i))), (4, .int (nI (sj_b g 0 i))), (5, .int (nI i)), (6, .int (nI (g (0 + i))))]) hx hb dX0_own_78 hl (k := 1) rfl (by exact nI_1 j) (by decide) rfl (fun ls hl => ?_)
        refine lv_goto (tgt := 51) hx hb dX0_own_81 (by decide) ?_
        refine W.widen (k := 0) (n := 0) (Nat.le_of_ble_eq_true rfl) (Nat.le_of_ble_eq_true rfl) ?_
        exact ih3 (by omega) () H locs ls ⟨hP.sub (ws' := []) [] rfl, hD.sub (ws' := []) [] (by decide) rfl, hS, lv_sub (l' := [(2, .int (nI (sj_pw sj_c1 (j + 1) (sj_cf g 0 i 4294967295 ^^^ g (0 + i))))), (7, .int (nI (j + 1))), (0, .ref bs), (1, .int (nI n)), (3, .int (nI (sj_a g 0 i))), (4, .int (nI (sj_b g 0 i))), (5, .int (nI i)), (6, .int (nI (g (0 + i))))]) hl [1, 0, 2, 3, 4, 5, 6, 7] rfl, trivial⟩
      · skip
        refine lv_iload_n hx hb dX0_own_65 rfl (lv_at hl 0 rfl) ?_
        refine lv_iconst (v := 1) hx hb dX0_own_66 (by decide) ?_
        refine lv_iushr hx hb dX0_own_67 rfl ?_
        refine lv_topi (fun x_20 e_20 => ?_)
        have e_20 : x_20 = nI ((sj_pw sj_c1 j (sj_cf g 0 i 4294967295 ^^^ g (0 + i))) / 2) := by refine e_20.trans ?_; exact zj_shr1 hY
        subst e_20
        have hb9 : (sj_pw sj_c1 j (sj_cf g 0 i 4294967295 ^^^ g (0 + i))) % 2 = 1 := (nI_eq (b := 1) (by omega) (by decide)).mp cb
        refine lv_ldc (v := (-306674912)) hx hb hown (hts _ q131) dX0_own_68 ?_
        refine lv_ixor hx hb dX0_own_70 ?_
        refine lv_topi (fun x_21 e_21 => ?_)
        have e_21 : x_21 = nI (sj_c1 (sj_pw sj_c1 j (sj_cf g 0 i 4294967295 ^^^ g (0 + i)))) := by refine e_21.trans ?_; rw [zj_poly, nx_xor, sj_c1_t hb9]
        subst e_21
        refine lv_goto (tgt := 77) hx hb dX0_own_71 (by decide) ?_
        refine lv_istore_n (lv' := [(2, .int (nI (sj_c1 (sj_pw sj_c1 j (sj_cf g 0 i 4294967295 ^^^ g (0 + i)))))), (7, .int (nI j)), (0, .ref bs), (1, .int (nI n)), (3, .int (nI (sj_a g 0 i))), (4, .int (nI (sj_b g 0 i))), (5, .int (nI i)), (6, .int (nI (g (0 + i))))]) hx hb dX0_own_77 rfl hl (by decide) rfl (fun ls hl => ?_)
        refine lv_iinc (v := nI (j + 1)) (lv' := [(7, .int (nI (j + 1))), (2, .int (nI (sj_c1 (sj_pw sj_c1 j (sj_cf g 0 i 4294967295 ^^^ g (0 + i)))))), (0, .ref bs), (1, .int (nI n)), (3, .int (nI (sj_a g 0 i))), (4, .int (nI (sj_b g 0 i))), (5, .int (nI i)), (6, .int (nI (g (0 + i))))]) hx hb dX0_own_78 hl (k := 1) rfl (by exact nI_1 j) (by decide) rfl (fun ls hl => ?_)
        refine lv_goto (tgt := 51) hx hb dX0_own_81 (by decide) ?_
        refine W.widen (k := 0) (n := 0) (Nat.le_of_ble_eq_true rfl) (Nat.le_of_ble_eq_true rfl) ?_
        exact ih3 (by omega) () H locs ls ⟨hP.sub (ws' := []) [] rfl, hD.sub (ws' := []) [] (by decide) rfl, hS, lv_sub (l' := [(2, .int (nI (sj_pw sj_c1 (j + 1) (sj_cf g 0 i 4294967295 ^^^ g (0 + i))))), (7, .int (nI (j + 1))), (0, .ref bs), (1, .int (nI n)), (3, .int (nI (sj_a g 0 i))), (4, .int (nI (sj_b g 0 i))), (5, .int (nI i)), (6, .int (nI (g (0 + i))))]) hl [1, 0, 2, 3, 4, 5, 6, 7] rfl, trivial⟩
end
section
/-! THE LAW: known, askedBounds, elder -/
def sj_z : Nat → Int32 := fun _ => 0
theorem sj_w4_c (c : Int32) (u : Nat) : sj_w4 c c c c u = c := by unfold sj_w4; split <;> (try split) <;> (try split) <;> rfl
theorem sj_ff (u v : Nat) (h : v < 4) : sj_wb (sj_w4 (-1) (-1) (-1) (-1) u) v = 255 := by
  rw [sj_w4_c]
  rcases (show v = 0 ∨ v = 1 ∨ v = 2 ∨ v = 3 by omega) with rfl | rfl | rfl | rfl <;> decide +kernel
theorem sj_pt_in (t : Nat → Nat) (n : Nat) (w0 w1 w2 w3 : Int32) (j : Nat) (h1 : n ≤ j) (h2 : j < n + 16) : sj_pt t n w0 w1 w2 w3 j = sj_wb (sj_w4 w0 w1 w2 w3 ((j - n) / 4)) ((j - n) % 4) := if_pos ⟨h1, h2⟩
theorem sj_pt_out (t : Nat → Nat) (n : Nat) (w0 w1 w2 w3 : Int32) (j : Nat) (h : j < n ∨ n + 16 ≤ j) : sj_pt t n w0 w1 w2 w3 j = t j := if_neg (by omega)
theorem sj_crc_1 : sj_crc (fun j => sj_wb (sj_w4 825373492 892745528 956301312 0 (j / 4)) (j % 4)) 0 9 = 3421780262 := by decide +kernel
theorem sj_adl_w : sj_adl (fun j => sj_wb (sj_w4 1466526569 1885693033 1627389952 0 (j / 4)) (j % 4)) 0 9 = 300286872 := by decide +kernel
theorem sj_adl_f : sj_adl (fun _ => 255) 0 320 = 3830005456 := by decide +kernel
set_option maxHeartbeats 4000000 in
set_option maxRecDepth 100000 in
/-- known: the published values -/
theorem mX0_known (l : Launch) (D : va_G) (sz : Nat) (t : Nat) : Met l yX0_known (ws_ yX0_known cX0_known 4 (some .boolean)) ({ frames := 4, cells := 13, slots := 12306, locals := 82 }) (va_Pc [] (zP D sz [] [] (some t) none)) (va_Qi (fun (r : Int32) (_ : Unit) => r = 1) (zB D (va_A [] sz) (fun (_ : Unit) => []) (fun (_ : Unit) => [])) (va_A [] sz)) 13 12306 (va_A [] sz) := by
  refine Met.ofW (cc := cX0_known) (maxL := 4) (ret := (some .boolean)) (by decide) rfl ?_
  intro p e s m args below meth c s₁ B hml hv
  obtain ⟨rfl, hsz, hP, hK, hD0, hX⟩ := hv
  have hx := B.exec
  have hb := B.bytes
  have hr := B.returns
  have hts := atoms_spec (ws := ws_ yX0_known cX0_known 4 (some .boolean)) B.pre
  have hts : ∀ w ∈ lw_all, w.before _ s = true := fun w h => hts w (List.mem_cons_of_mem _ h)
  have hown : s.vm.findClass RX0 = some m.cls := findClass_of_methodNamed B.named
  have hlocks := B.notSynchronized
  subst hsz
  have hD := hD0.self (sz := s.heap.size)
  generalize hAe : va_A [] s.heap.size = A at hD hX ⊢
  have hA : ∀ q : Nat, s.heap.size ≤ q → A q := fun q h => by rw [← hAe]; exact Or.inr h
  have hS : va_S A s.heap s.heap [] := va_S.rf
  have hP : va_P D zCl [] s.heap := hP
  have hZt : va_Z "CRC32" "crc_table" "[I" (.ref t) A s s.heap := (hX.1 t rfl).1
  have hTt : va_T .int t 256 (fun j => .int (nI (sj_c8 j))) A s s.heap := (hX.1 t rfl).2
  have hl := lv_entry ([]) (n := 4) (Nat.le_of_ble_eq_true rfl)
  rw [lg_entry_eq]
  generalize (lg_sl ([]) ++ List.replicate (4 - (lg_sl ([])).length) Slot.unset).toArray = ls at hl ⊢
  have hl : lv_has ls 4 [] := hl
  refine va_new (ci := 0) (fs := [.null, .int 0]) (C := RX1) (T := TX1) (N := 2) hx hb hts in_X1 tyX1 tyX1_ok hown (hts _ q13) (hts _ q14) (hts _ q4) hK hP hD hS hA rfl (fun j hj => by rcases (show j = 0 ∨ j = 1 by omega) with rfl | rfl <;> rfl) (Nat.le_of_ble_eq_true rfl) (Nat.le_of_ble_eq_true rfl) dX0_known_0 (fun o1 H hP hD hS => ?_)
  have hP : va_P D zCl [(o1, .inr (0, [.null, .int 0]))] H := hP
  have hD : va_D A [(o1, .inr (0, [.null, .int 0]))] := hD
  refine lv_dup hx hb dX0_known_3 rfl ?_
  refine z_gov (wr := []) (va_runI (As := []) (rest := [.ref o1]) ⟨hx, hb, hml, hown, hts⟩ (mX1_init l D H.size o1) (cwI 0 hts (lw_meth q17) rfl rfl rfl (hts _ q4) (hts _ q15) (hts _ q16) rfl (by decide +kernel) ⟨(Nat.le_of_ble_eq_true rfl), (Nat.le_of_ble_eq_true rfl)⟩) (z_pre hK hP hD hS hA hX [0] [] rfl (by decide) rfl (fun _ h9 => by cases h9) (fun _ h9 => h9)) rfl rfl hl.1 rfl (lv_room (Nat.le_of_ble_eq_true rfl)) dX0_known_4 ⟨(Nat.le_of_ble_eq_true rfl), (Nat.le_of_ble_eq_true rfl)⟩) hK hP hD hS hA [0] [] rfl rfl (by decide) (by decide) (fun u_1 H locs h_3 hK hP hD hS => ?_)
  obtain ⟨t1, d1⟩ := u_1
  have hK : va_K D zCl [(d1, .byte)] s := hK
  have hP : va_P D zCl [(o1, .inr (0, [.ref t1, .int (nI 0)])), (t1, .inl (d1, 4096, .inl (fun _ => 0)))] H := hP
  have hD : va_D A [(o1, .inr (0, [.ref t1, .int (nI 0)])), (t1, .inl (d1, 4096, .inl (fun _ => 0)))] := hD
  have hP : va_P D zCl [(o1, .inr (0, [.ref t1, .int (nI 0)])), (t1, .inl (d1, 4096, .inl sj_z))] H := hP
  have hD : va_D A [(o1, .inr (0, [.ref t1, .int (nI 0)])), (t1, .inl (d1, 4096, .inl sj_z))] := hD
  refine lv_astore_n (lv' := [(0, .ref o1)]) hx hb dX0_known_7 rfl hl (by decide) rfl (fun ls hl => ?_)
  refine va_new (ci := 0) (fs := [.null, .int 0]) (C := RX1) (T := TX1) (N := 2) hx hb hts in_X1 tyX1 tyX1_ok hown (hts _ q13) (hts _ q14) (hts _ q4) hK hP hD hS hA rfl (fun j hj => by rcases (show j = 0 ∨ j = 1 by omega) with rfl | rfl <;> rfl) (Nat.le_of_ble_eq_true rfl) (Nat.le_of_ble_eq_true rfl) dX0_known_8 (fun o2 H hP hD hS => ?_)
  have hP : va_P D zCl [(o1, .inr (0, [.ref t1, .int (nI 0)])), (t1, .inl (d1, 4096, .inl sj_z)), (o2, .inr (0, [.null, .int 0]))] H := hP
  have hD : va_D A [(o1, .inr (0, [.ref t1, .int (nI 0)])), (t1, .inl (d1, 4096, .inl sj_z)), (o2, .inr (0, [.null, .int 0]))] := hD
  refine lv_dup hx hb dX0_known_11 rfl ?_
  refine z_gov (wr := [(o1, .inr (0, [.ref t1, .int (nI 0)])), (t1, .inl (d1, 4096, .inl sj_z))]) (va_runI (As := []) (rest := [.ref o2]) ⟨hx, hb, hml, hown, hts⟩ (mX1_init l D H.size o2) (cwI 0 hts (lw_meth q17) rfl rfl rfl (hts _ q4) (hts _ q15) (hts _ q16) rfl (by decide +kernel) ⟨(Nat.le_of_ble_eq_true rfl), (Nat.le_of_ble_eq_true rfl)⟩) (z_pre hK hP hD hS hA hX [2] [] rfl (by decide) rfl (fun _ h9 => by cases h9) (fun _ h9 => h9)) rfl rfl hl.1 rfl (lv_room (Nat.le_of_ble_eq_true rfl)) dX0_known_12 ⟨(Nat.le_of_ble_eq_true rfl), (Nat.le_of_ble_eq_true rfl)⟩) hK hP hD hS hA [2] [0, 1] rfl rfl (by decide) (by decide) (fun u_4 H locs h_6 hK hP hD hS => ?_)
  obtain ⟨t2, d2⟩ := u_4
  have hK : va_K D zCl [(d1, .byte), (d2, .byte)] s := hK
  have hP : va_P D zCl [(o1, .inr (0, [.ref t1, .int (nI 0)])), (t1, .inl (d1, 4096, .inl sj_z)), (o2, .inr (0, [.ref t2, .int (nI 0)])), (t2, .inl (d2, 4096, .inl (fun _ => 0)))] H := hP
  have hD : va_D A [(o1, .inr (0, [.ref t1, .int (nI 0)])), (t1, .inl (d1, 4096, .inl sj_z)), (o2, .inr (0, [.ref t2, .int (nI 0)])), (t2, .inl (d2, 4096, .inl (fun _ => 0)))] := hD
  have hP : va_P D zCl [(o1, .inr (0, [.ref t1, .int (nI 0)])), (t1, .inl (d1, 4096, .inl sj_z)), (o2, .inr (0, [.ref t2, .int (nI 0)])), (t2, .inl (d2, 4096, .inl sj_z))] H := hP
  have hD : va_D A [(o1, .inr (0, [.ref t1, .int (nI 0)])), (t1, .inl (d1, 4096, .inl sj_z)), (o2, .inr (0, [.ref t2, .int (nI 0)])), (t2, .inl (d2, 4096, .inl sj_z))] := hD
  refine lv_astore_n (lv' := [(1, .ref o2), (0, .ref o1)]) hx hb dX0_known_15 rfl hl (by decide) rfl (fun ls hl => ?_)
  refine lv_aload_n hx hb dX0_known_16 rfl (lv_at hl 1 rfl) ?_
  refine lv_iconst (v := 0) hx hb dX0_known_17 (by decide) ?_
  refine lv_iconst (v := 0) hx hb dX0_known_18 (by decide) ?_
  refine z_gol (wr := [(o2, .inr (0, [.ref t2, .int (nI 0)])), (t2, .inl (d2, 4096, .inl sj_z))]) (va_runV (As := [.int 0, .int 0]) (rest := []) ⟨hx, hb, hml, hown, hts⟩ (mX1_crc l D H.size o1 t1 d1 t 0 sj_z 0 0 (by decide)) (cwV 2 hts (lw_V q29 q30 q31 q4 q32) rfl rfl rfl (by decide +kernel) ⟨(Nat.le_of_ble_eq_true rfl), (Nat.le_of_ble_eq_true rfl)⟩) (z_preV (q0 := 0) (ci := 0) rfl rfl hK hP hD hS hA hX [0, 1] [0] rfl (by decide) rfl (fun _ h9 => h9) (fun _ h9 => h9)) rfl rfl hl.1 rfl (lv_room (Nat.le_of_ble_eq_true rfl)) dX0_known_19 ⟨(Nat.le_of_ble_eq_true rfl), (Nat.le_of_ble_eq_true rfl)⟩) hK hP hD hS hA [0, 1] [2, 3] rfl rfl (by decide) (by decide) (fun r_8 u_7 H locs h_9 _ hP hD hS => ?_)
  have hP : va_P D zCl [(o2, .inr (0, [.ref t2, .int (nI 0)])), (t2, .inl (d2, 4096, .inl sj_z)), (o1, .inr (0, [.ref t1, .int (nI 0)])), (t1, .inl (d1, 4096, .inl sj_z))] H := hP
  have hD : va_D A [(o2, .inr (0, [.ref t2, .int (nI 0)])), (t2, .inl (d2, 4096, .inl sj_z)), (o1, .inr (0, [.ref t1, .int (nI 0)])), (t1, .inl (d1, 4096, .inl sj_z))] := hD
  have h_9 : r_8 = lN (sj_crc (fun j => sj_by (sj_z j)) (sj_pos 0 % (0 + 1)) (sj_pos 0 % (0 - sj_pos 0 % (0 + 1) + 1))) := h_9
  subst h_9
  have v_10 : (lN (sj_crc (fun j => sj_by (sj_z j)) (sj_pos 0 % (0 + 1)) (sj_pos 0 % (0 - sj_pos 0 % (0 + 1) + 1)))) = lN 0 := by decide +kernel
  rw [v_10]
  refine lv_lconst (v := lN 0) hx hb dX0_known_22 (by rfl) ?_
  refine W.lcmp hx hb dX0_known_23 ?_
  refine lv_if_ne (tgt := 38) hx hb dX0_known_24 (by decide) (fun c0 => False.elim (by exact c0 ((zj_cmp0 _ _).mpr rfl))) (fun c0 => ?_)
  refine lv_aload_n hx hb dX0_known_27 rfl (lv_at hl 1 rfl) ?_
  refine lv_iconst (v := 0) hx hb dX0_known_28 (by decide) ?_
  refine lv_iconst (v := 0) hx hb dX0_known_29 (by decide) ?_
  refine z_gol (wr := [(o2, .inr (0, [.ref t2, .int (nI 0)])), (t2, .inl (d2, 4096, .inl sj_z))]) (va_runV (As := [.int 0, .int 0]) (rest := []) ⟨hx, hb, hml, hown, hts⟩ (mX1_adler l D H.size o1 t1 d1 0 sj_z 0 0 (by decide)) (cwV 2 hts (lw_V q88 q89 q90 q4 q91) rfl rfl rfl (by decide +kernel) ⟨(Nat.le_of_ble_eq_true rfl), (Nat.le_of_ble_eq_true rfl)⟩) (z_preV (q0 := 2) (ci := 0) rfl rfl hK hP hD hS hA hX [2, 3] [0] rfl (by decide) rfl (fun _ h9 => by cases h9) (fun _ h9 => h9)) rfl rfl hl.1 rfl (lv_room (Nat.le_of_ble_eq_true rfl)) dX0_known_30 ⟨(Nat.le_of_ble_eq_true rfl), (Nat.le_of_ble_eq_true rfl)⟩) hK hP hD hS hA [2, 3] [0, 1] rfl rfl (by decide) (by decide) (fun r_12 u_11 H locs h_13 _ hP hD hS => ?_)
  have hP : va_P D zCl [(o2, .inr (0, [.ref t2, .int (nI 0)])), (t2, .inl (d2, 4096, .inl sj_z)), (o1, .inr (0, [.ref t1, .int (nI 0)])), (t1, .inl (d1, 4096, .inl sj_z))] H := hP
  have hD : va_D A [(o2, .inr (0, [.ref t2, .int (nI 0)])), (t2, .inl (d2, 4096, .inl sj_z)), (o1, .inr (0, [.ref t1, .int (nI 0)])), (t1, .inl (d1, 4096, .inl sj_z))] := hD
  have h_13 : r_12 = lN (sj_adl (fun j => sj_by (sj_z j)) (sj_pos 0 % (0 + 1)) (sj_pos 0 % (0 - sj_pos 0 % (0 + 1) + 1))) := h_13
  subst h_13
  have v_14 : (lN (sj_adl (fun j => sj_by (sj_z j)) (sj_pos 0 % (0 + 1)) (sj_pos 0 % (0 - sj_pos 0 % (0 + 1) + 1)))) = lN 1 := by decide +kernel
  rw [v_14]
  refine lv_lconst (v := lN 1) hx hb dX0_known_33 (by rfl) ?_
  refine W.lcmp hx hb dX0_known_34 ?_
  refine lv_if_eq (tgt := 40) hx hb dX0_known_35 (by decide) (fun c0 => ?_) (fun c0 => False.elim (by exact c0 ((zj_cmp0 _ _).mpr rfl)))
  refine lv_aload_n hx hb dX0_known_40 rfl (lv_at hl 1 rfl) ?_
  refine lv_ldc (v := 825373492) hx hb hown (hts _ q92) dX0_known_41 ?_
  refine lv_ldc (v := 892745528) hx hb hown (hts _ q93) dX0_known_43 ?_
  refine lv_ldc (v := 956301312) hx hb hown (hts _ q94) dX0_known_45 ?_
  refine lv_iconst (v := 0) hx hb dX0_known_47 (by decide) ?_
  refine z_goi (wr := [(o2, .inr (0, [.ref t2, .int (nI 0)])), (t2, .inl (d2, 4096, .inl sj_z))]) (va_runV (As := [.int 825373492, .int 892745528, .int 956301312, .int 0]) (rest := []) ⟨hx, hb, hml, hown, hts⟩ (mX1_put l D H.size o1 t1 d1 0 sj_z 825373492 892745528 956301312 0 (by decide)) (cwV 4 hts (lw_V q95 q96 q97 q4 q98) rfl rfl rfl (by decide +kernel) ⟨(Nat.le_of_ble_eq_true rfl), (Nat.le_of_ble_eq_true rfl)⟩) (z_preV (q0 := 2) (ci := 0) rfl rfl hK hP hD hS hA hX [2, 3] [0] rfl (by decide) rfl (fun _ h9 => by cases h9) (fun _ h9 => h9)) rfl rfl hl.1 rfl (lv_room (Nat.le_of_ble_eq_true rfl)) dX0_known_48 ⟨(Nat.le_of_ble_eq_true rfl), (Nat.le_of_ble_eq_true rfl)⟩) hK hP hD hS hA [2, 3] [0, 1] rfl rfl (by decide) (by decide) (fun r_16 u_15 H locs hb1P _ hP hD hS => ?_)
  obtain ⟨b1, rfl⟩ : ∃ z, z = u_15 := ⟨_, rfl⟩
  have hP : va_P D zCl [(o2, .inr (0, [.ref t2, .int (nI 0)])), (t2, .inl (d2, 4096, .inl sj_z)), (o1, .inr (0, [.ref t1, .int (nI (0 + 16))])), (t1, .inl (d1, 4096, .inl b1))] H := hP
  have hD : va_D A [(o2, .inr (0, [.ref t2, .int (nI 0)])), (t2, .inl (d2, 4096, .inl sj_z)), (o1, .inr (0, [.ref t1, .int (nI (0 + 16))])), (t1, .inl (d1, 4096, .inl b1))] := hD
  have hb1P : r_16 = 1 ∧ ∀ j, sj_by (b1 j) = sj_pt (fun j => sj_by (sj_z j)) 0 825373492 892745528 956301312 0 j := hb1P
  obtain ⟨hb1r, hb1⟩ := hb1P
  subst hb1r
  refine lv_pop hx hb dX0_known_51 rfl ?_
  refine lv_aload_n hx hb dX0_known_52 rfl (lv_at hl 1 rfl) ?_
  refine lv_bipush (v := 9) hx hb dX0_known_53 (by decide +kernel) ?_
  refine z_gov (wr := [(o2, .inr (0, [.ref t2, .int (nI 0)])), (t2, .inl (d2, 4096, .inl sj_z)), (t1, .inl (d1, 4096, .inl b1))]) (va_runV (As := [.int 9]) (rest := []) ⟨hx, hb, hml, hown, hts⟩ (mX1_trim l D H.size o1 t1 (0 + 16) 9 (by decide)) (cwV 1 hts (lw_V q103 q104 q105 q4 q106) rfl rfl rfl (by decide +kernel) ⟨(Nat.le_of_ble_eq_true rfl), (Nat.le_of_ble_eq_true rfl)⟩) (z_preV (q0 := 2) (ci := 0) rfl rfl hK hP hD hS hA hX [2] [] rfl (by decide) rfl (fun _ h9 => by cases h9) (fun _ h9 => h9)) rfl rfl hl.1 rfl (lv_room (Nat.le_of_ble_eq_true rfl)) dX0_known_55 ⟨(Nat.le_of_ble_eq_true rfl), (Nat.le_of_ble_eq_true rfl)⟩) hK hP hD hS hA [2] [0, 1, 3] rfl rfl (by decide) (by decide) (fun u_17 H locs h_19 _ hP hD hS => ?_)
  have hP : va_P D zCl [(o2, .inr (0, [.ref t2, .int (nI 0)])), (t2, .inl (d2, 4096, .inl sj_z)), (t1, .inl (d1, 4096, .inl b1)), (o1, .inr (0, [.ref t1, .int (nI (sj_pos 9 % ((0 + 16) + 1)))]))] H := hP
  have hD : va_D A [(o2, .inr (0, [.ref t2, .int (nI 0)])), (t2, .inl (d2, 4096, .inl sj_z)), (t1, .inl (d1, 4096, .inl b1)), (o1, .inr (0, [.ref t1, .int (nI (sj_pos 9 % ((0 + 16) + 1)))]))] := hD
  rw [show sj_pos 9 % ((0 + 16) + 1) = 9 by decide +kernel] at hP hD
  have hP : va_P D zCl [(o2, .inr (0, [.ref t2, .int (nI 0)])), (t2, .inl (d2, 4096, .inl sj_z)), (t1, .inl (d1, 4096, .inl b1)), (o1, .inr (0, [.ref t1, .int (nI (9))]))] H := hP
  have hD : va_D A [(o2, .inr (0, [.ref t2, .int (nI 0)])), (t2, .inl (d2, 4096, .inl sj_z)), (t1, .inl (d1, 4096, .inl b1)), (o1, .inr (0, [.ref t1, .int (nI (9))]))] := hD
  refine lv_aload_n hx hb dX0_known_58 rfl (lv_at hl 1 rfl) ?_
  refine lv_iconst (v := 0) hx hb dX0_known_59 (by decide) ?_
  refine lv_bipush (v := 9) hx hb dX0_known_60 (by decide +kernel) ?_
  refine z_gol (wr := [(o2, .inr (0, [.ref t2, .int (nI 0)])), (t2, .inl (d2, 4096, .inl sj_z))]) (va_runV (As := [.int 0, .int 9]) (rest := []) ⟨hx, hb, hml, hown, hts⟩ (mX1_crc l D H.size o1 t1 d1 t 9 b1 0 9 (by decide)) (cwV 2 hts (lw_V q29 q30 q31 q4 q32) rfl rfl rfl (by decide +kernel) ⟨(Nat.le_of_ble_eq_true rfl), (Nat.le_of_ble_eq_true rfl)⟩) (z_preV (q0 := 3) (ci := 0) rfl rfl hK hP hD hS hA hX [3, 2] [0] rfl (by decide) rfl (fun _ h9 => h9) (fun _ h9 => h9)) rfl rfl hl.1 rfl (lv_room (Nat.le_of_ble_eq_true rfl)) dX0_known_62 ⟨(Nat.le_of_ble_eq_true rfl), (Nat.le_of_ble_eq_true rfl)⟩) hK hP hD hS hA [3, 2] [0, 1] rfl rfl (by decide) (by decide) (fun r_21 u_20 H locs h_22 _ hP hD hS => ?_)
  have hP : va_P D zCl [(o2, .inr (0, [.ref t2, .int (nI 0)])), (t2, .inl (d2, 4096, .inl sj_z)), (o1, .inr (0, [.ref t1, .int (nI 9)])), (t1, .inl (d1, 4096, .inl b1))] H := hP
  have hD : va_D A [(o2, .inr (0, [.ref t2, .int (nI 0)])), (t2, .inl (d2, 4096, .inl sj_z)), (o1, .inr (0, [.ref t1, .int (nI 9)])), (t1, .inl (d1, 4096, .inl b1))] := hD
  have h_22 : r_21 = lN (sj_crc (fun j => sj_by (b1 j)) (sj_pos 0 % (9 + 1)) (sj_pos 9 % (9 - sj_pos 0 % (9 + 1) + 1))) := h_22
  subst h_22
  have v_23 : (lN (sj_crc (fun j => sj_by (b1 j)) (sj_pos 0 % (9 + 1)) (sj_pos 9 % (9 - sj_pos 0 % (9 + 1) + 1)))) = lN 3421780262 := by rw [show sj_pos 0 % (9 + 1) = 0 by decide +kernel, show sj_pos 9 % (9 - 0 + 1) = 9 by decide +kernel, sj_crc_congr (h := fun j => sj_wb (sj_w4 825373492 892745528 956301312 0 (j / 4)) (j % 4)) (fun j h1 h2 => by show sj_by (b1 j) = sj_wb (sj_w4 825373492 892745528 956301312 0 (j / 4)) (j % 4); rw [hb1, sj_pt_in _ _ _ _ _ _ _ h1 (by omega), Nat.sub_zero])]; rw [sj_crc_1]
  rw [v_23]
  refine lv_ldc2 (v := 3421780262) hx hb hown (hts _ q107) dX0_known_65 ?_
  refine lv_topl (fun x_24 e_24 => ?_)
  have e_24 : x_24 = lN 3421780262 := by refine e_24.trans ?_; rfl
  subst e_24
  refine W.lcmp hx hb dX0_known_68 ?_
  refine lv_if_eq (tgt := 74) hx hb dX0_known_69 (by decide) (fun c0 => ?_) (fun c0 => False.elim (by exact c0 ((zj_cmp0 _ _).mpr rfl)))
  refine lv_aload_n hx hb dX0_known_74 rfl (lv_at hl 0 rfl) ?_
  refine lv_ldc (v := 1466526569) hx hb hown (hts _ q108) dX0_known_75 ?_
  refine lv_ldc (v := 1885693033) hx hb hown (hts _ q109) dX0_known_77 ?_
  refine lv_ldc (v := 1627389952) hx hb hown (hts _ q110) dX0_known_79 ?_
  refine lv_iconst (v := 0) hx hb dX0_known_81 (by decide) ?_
  refine z_goi (wr := [(o1, .inr (0, [.ref t1, .int (nI 9)])), (t1, .inl (d1, 4096, .inl b1))]) (va_runV (As := [.int 1466526569, .int 1885693033, .int 1627389952, .int 0]) (rest := []) ⟨hx, hb, hml, hown, hts⟩ (mX1_put l D H.size o2 t2 d2 0 sj_z 1466526569 1885693033 1627389952 0 (by decide)) (cwV 4 hts (lw_V q95 q96 q97 q4 q98) rfl rfl rfl (by decide +kernel) ⟨(Nat.le_of_ble_eq_true rfl), (Nat.le_of_ble_eq_true rfl)⟩) (z_preV (q0 := 0) (ci := 0) rfl rfl hK hP hD hS hA hX [0, 1] [1] rfl (by decide) rfl (fun _ h9 => by cases h9) (fun _ h9 => h9)) rfl rfl hl.1 rfl (lv_room (Nat.le_of_ble_eq_true rfl)) dX0_known_82 ⟨(Nat.le_of_ble_eq_true rfl), (Nat.le_of_ble_eq_true rfl)⟩) hK hP hD hS hA [0, 1] [2, 3] rfl rfl (by decide) (by decide) (fun r_26 u_25 H locs hb2P _ hP hD hS => ?_)
  obtain ⟨b2, rfl⟩ : ∃ z, z = u_25 := ⟨_, rfl⟩
  have hP : va_P D zCl [(o1, .inr (0, [.ref t1, .int (nI 9)])), (t1, .inl (d1, 4096, .inl b1)), (o2, .inr (0, [.ref t2, .int (nI (0 + 16))])), (t2, .inl (d2, 4096, .inl b2))] H := hP
  have hD : va_D A [(o1, .inr (0, [.ref t1, .int (nI 9)])), (t1, .inl (d1, 4096, .inl b1)), (o2, .inr (0, [.ref t2, .int (nI (0 + 16))])), (t2, .inl (d2, 4096, .inl b2))] := hD
  have hb2P : r_26 = 1 ∧ ∀ j, sj_by (b2 j) = sj_pt (fun j => sj_by (sj_z j)) 0 1466526569 1885693033 1627389952 0 j := hb2P
  obtain ⟨hb2r, hb2⟩ := hb2P
  subst hb2r
  refine lv_pop hx hb dX0_known_85 rfl ?_
  refine lv_aload_n hx hb dX0_known_86 rfl (lv_at hl 0 rfl) ?_
  refine lv_bipush (v := 9) hx hb dX0_known_87 (by decide +kernel) ?_
  refine z_gov (wr := [(o1, .inr (0, [.ref t1, .int (nI 9)])), (t1, .inl (d1, 4096, .inl b1)), (t2, .inl (d2, 4096, .inl b2))]) (va_runV (As := [.int 9]) (rest := []) ⟨hx, hb, hml, hown, hts⟩ (mX1_trim l D H.size o2 t2 (0 + 16) 9 (by decide)) (cwV 1 hts (lw_V q103 q104 q105 q4 q106) rfl rfl rfl (by decide +kernel) ⟨(Nat.le_of_ble_eq_true rfl), (Nat.le_of_ble_eq_true rfl)⟩) (z_preV (q0 := 2) (ci := 0) rfl rfl hK hP hD hS hA hX [2] [] rfl (by decide) rfl (fun _ h9 => by cases h9) (fun _ h9 => h9)) rfl rfl hl.1 rfl (lv_room (Nat.le_of_ble_eq_true rfl)) dX0_known_89 ⟨(Nat.le_of_ble_eq_true rfl), (Nat.le_of_ble_eq_true rfl)⟩) hK hP hD hS hA [2] [0, 1, 3] rfl rfl (by decide) (by decide) (fun u_27 H locs h_29 _ hP hD hS => ?_)
  have hP : va_P D zCl [(o1, .inr (0, [.ref t1, .int (nI 9)])), (t1, .inl (d1, 4096, .inl b1)), (t2, .inl (d2, 4096, .inl b2)), (o2, .inr (0, [.ref t2, .int (nI (sj_pos 9 % ((0 + 16) + 1)))]))] H := hP
  have hD : va_D A [(o1, .inr (0, [.ref t1, .int (nI 9)])), (t1, .inl (d1, 4096, .inl b1)), (t2, .inl (d2, 4096, .inl b2)), (o2, .inr (0, [.ref t2, .int (nI (sj_pos 9 % ((0 + 16) + 1)))]))] := hD
  rw [show sj_pos 9 % ((0 + 16) + 1) = 9 by decide +kernel] at hP hD
  have hP : va_P D zCl [(o1, .inr (0, [.ref t1, .int (nI 9)])), (t1, .inl (d1, 4096, .inl b1)), (t2, .inl (d2, 4096, .inl b2)), (o2, .inr (0, [.ref t2, .int (nI (9))]))] H := hP
  have hD : va_D A [(o1, .inr (0, [.ref t1, .int (nI 9)])), (t1, .inl (d1, 4096, .inl b1)), (t2, .inl (d2, 4096, .inl b2)), (o2, .inr (0, [.ref t2, .int (nI (9))]))] := hD
  refine lv_aload_n hx hb dX0_known_92 rfl (lv_at hl 0 rfl) ?_
  refine lv_iconst (v := 0) hx hb dX0_known_93 (by decide) ?_
  refine lv_bipush (v := 9) hx hb dX0_known_94 (by decide +kernel) ?_
  refine z_gol (wr := [(o1, .inr (0, [.ref t1, .int (nI 9)])), (t1, .inl (d1, 4096, .inl b1))]) (va_runV (As := [.int 0, .int 9]) (rest := []) ⟨hx, hb, hml, hown, hts⟩ (mX1_adler l D H.size o2 t2 d2 9 b2 0 9 (by decide)) (cwV 2 hts (lw_V q88 q89 q90 q4 q91) rfl rfl rfl (by decide +kernel) ⟨(Nat.le_of_ble_eq_true rfl), (Nat.le_of_ble_eq_true rfl)⟩) (z_preV (q0 := 3) (ci := 0) rfl rfl hK hP hD hS hA hX [3, 2] [1] rfl (by decide) rfl (fun _ h9 => by cases h9) (fun _ h9 => h9)) rfl rfl hl.1 rfl (lv_room (Nat.le_of_ble_eq_true rfl)) dX0_known_96 ⟨(Nat.le_of_ble_eq_true rfl), (Nat.le_of_ble_eq_true rfl)⟩) hK hP hD hS hA [3, 2] [0, 1] rfl rfl (by decide) (by decide) (fun r_31 u_30 H locs h_32 _ hP hD hS => ?_)
  have hP : va_P D zCl [(o1, .inr (0, [.ref t1, .int (nI 9)])), (t1, .inl (d1, 4096, .inl b1)), (o2, .inr (0, [.ref t2, .int (nI 9)])), (t2, .inl (d2, 4096, .inl b2))] H := hP
  have hD : va_D A [(o1, .inr (0, [.ref t1, .int (nI 9)])), (t1, .inl (d1, 4096, .inl b1)), (o2, .inr (0, [.ref t2, .int (nI 9)])), (t2, .inl (d2, 4096, .inl b2))] := hD
  have h_32 : r_31 = lN (sj_adl (fun j => sj_by (b2 j)) (sj_pos 0 % (9 + 1)) (sj_pos 9 % (9 - sj_pos 0 % (9 + 1) + 1))) := h_32
  subst h_32
  have v_33 : (lN (sj_adl (fun j => sj_by (b2 j)) (sj_pos 0 % (9 + 1)) (sj_pos 9 % (9 - sj_pos 0 % (9 + 1) + 1)))) = lN 300286872 := by rw [show sj_pos 0 % (9 + 1) = 0 by decide +kernel, show sj_pos 9 % (9 - 0 + 1) = 9 by decide +kernel, sj_adl_congr (h := fun j => sj_wb (sj_w4 1466526569 1885693033 1627389952 0 (j / 4)) (j % 4)) (fun j h1 h2 => by show sj_by (b2 j) = sj_wb (sj_w4 1466526569 1885693033 1627389952 0 (j / 4)) (j % 4); rw [hb2, sj_pt_in _ _ _ _ _ _ _ h1 (by omega), Nat.sub_zero])]; rw [sj_adl_w]
  rw [v_33]
  refine lv_ldc2 (v := 300286872) hx hb hown (hts _ q111) dX0_known_99 ?_
  refine lv_topl (fun x_34 e_34 => ?_)
  have e_34 : x_34 = lN 300286872 := by refine e_34.trans ?_; rfl
  subst e_34
  refine W.lcmp hx hb dX0_known_102 ?_
  refine lv_if_eq (tgt := 108) hx hb dX0_known_103 (by decide) (fun c0 => ?_) (fun c0 => False.elim (by exact c0 ((zj_cmp0 _ _).mpr rfl)))
  refine va_new (ci := 0) (fs := [.null, .int 0]) (C := RX1) (T := TX1) (N := 2) hx hb hts in_X1 tyX1 tyX1_ok hown (hts _ q13) (hts _ q14) (hts _ q4) hK hP hD hS hA rfl (fun j hj => by rcases (show j = 0 ∨ j = 1 by omega) with rfl | rfl <;> rfl) (Nat.le_of_ble_eq_true rfl) (Nat.le_of_ble_eq_true rfl) dX0_known_108 (fun o3 H hP hD hS => ?_)
  have hP : va_P D zCl [(o1, .inr (0, [.ref t1, .int (nI 9)])), (t1, .inl (d1, 4096, .inl b1)), (o2, .inr (0, [.ref t2, .int (nI 9)])), (t2, .inl (d2, 4096, .inl b2)), (o3, .inr (0, [.null, .int 0]))] H := hP
  have hD : va_D A [(o1, .inr (0, [.ref t1, .int (nI 9)])), (t1, .inl (d1, 4096, .inl b1)), (o2, .inr (0, [.ref t2, .int (nI 9)])), (t2, .inl (d2, 4096, .inl b2)), (o3, .inr (0, [.null, .int 0]))] := hD
  refine lv_dup hx hb dX0_known_111 rfl ?_
  refine z_gov (wr := [(o1, .inr (0, [.ref t1, .int (nI 9)])), (t1, .inl (d1, 4096, .inl b1)), (o2, .inr (0, [.ref t2, .int (nI 9)])), (t2, .inl (d2, 4096, .inl b2))]) (va_runI (As := []) (rest := [.ref o3]) ⟨hx, hb, hml, hown, hts⟩ (mX1_init l D H.size o3) (cwI 0 hts (lw_meth q17) rfl rfl rfl (hts _ q4) (hts _ q15) (hts _ q16) rfl (by decide +kernel) ⟨(Nat.le_of_ble_eq_true rfl), (Nat.le_of_ble_eq_true rfl)⟩) (z_pre hK hP hD hS hA hX [4] [] rfl (by decide) rfl (fun _ h9 => by cases h9) (fun _ h9 => h9)) rfl rfl hl.1 rfl (lv_room (Nat.le_of_ble_eq_true rfl)) dX0_known_112 ⟨(Nat.le_of_ble_eq_true rfl), (Nat.le_of_ble_eq_true rfl)⟩) hK hP hD hS hA [4] [0, 1, 2, 3] rfl rfl (by decide) (by decide) (fun u_35 H locs h_37 hK hP hD hS => ?_)
  obtain ⟨t3, d3⟩ := u_35
  have hK : va_K D zCl [(d1, .byte), (d2, .byte), (d3, .byte)] s := hK
  have hP : va_P D zCl [(o1, .inr (0, [.ref t1, .int (nI 9)])), (t1, .inl (d1, 4096, .inl b1)), (o2, .inr (0, [.ref t2, .int (nI 9)])), (t2, .inl (d2, 4096, .inl b2)), (o3, .inr (0, [.ref t3, .int (nI 0)])), (t3, .inl (d3, 4096, .inl (fun _ => 0)))] H := hP
  have hD : va_D A [(o1, .inr (0, [.ref t1, .int (nI 9)])), (t1, .inl (d1, 4096, .inl b1)), (o2, .inr (0, [.ref t2, .int (nI 9)])), (t2, .inl (d2, 4096, .inl b2)), (o3, .inr (0, [.ref t3, .int (nI 0)])), (t3, .inl (d3, 4096, .inl (fun _ => 0)))] := hD
  have hP : va_P D zCl [(o1, .inr (0, [.ref t1, .int (nI 9)])), (t1, .inl (d1, 4096, .inl b1)), (o2, .inr (0, [.ref t2, .int (nI 9)])), (t2, .inl (d2, 4096, .inl b2)), (o3, .inr (0, [.ref t3, .int (nI 0)])), (t3, .inl (d3, 4096, .inl sj_z))] H := hP
  have hD : va_D A [(o1, .inr (0, [.ref t1, .int (nI 9)])), (t1, .inl (d1, 4096, .inl b1)), (o2, .inr (0, [.ref t2, .int (nI 9)])), (t2, .inl (d2, 4096, .inl b2)), (o3, .inr (0, [.ref t3, .int (nI 0)])), (t3, .inl (d3, 4096, .inl sj_z))] := hD
  refine lv_astore_n (lv' := [(2, .ref o3), (1, .ref o2), (0, .ref o1)]) hx hb dX0_known_115 rfl hl (by decide) rfl (fun ls hl => ?_)
  refine lv_iconst (v := nI 0) hx hb dX0_known_116 (by rfl) ?_
  refine lv_istore_n (lv' := [(3, .int (nI 0)), (2, .ref o3), (1, .ref o2), (0, .ref o1)]) hx hb dX0_known_117 rfl hl (by decide) rfl (fun ls hl => ?_)
  refine z_loop (σ := (Nat → Int32)) (20) (fun i => 10) (fun i => 12300) (fun i u H locs ls => va_P D zCl [(o3, .inr (0, [.ref t3, .int (nI (16 * i))])), (t3, .inl (d3, 4096, .inl u))] H ∧ va_D A [(o3, .inr (0, [.ref t3, .int (nI (16 * i))])), (t3, .inl (d3, 4096, .inl u))] ∧ va_S A s.heap H locs ∧ lv_has ls 4 [(2, .ref o3), (3, .int (nI i))] ∧ ∀ j, j < 16 * i → sj_by (u j) = 255) ?_ (0) sj_z (by omega) ⟨hP.sub (ws' := [(o3, .inr (0, [.ref t3, .int (nI (16 * 0))])), (t3, .inl (d3, 4096, .inl sj_z))]) [4, 5] rfl, hD.sub (ws' := [(o3, .inr (0, [.ref t3, .int (nI (16 * 0))])), (t3, .inl (d3, 4096, .inl sj_z))]) [4, 5] (by decide) rfl, hS, lv_sub (l' := [(2, .ref o3), (3, .int (nI 0))]) hl [1, 0] rfl, fun j hj => absurd hj (by omega)⟩ (Nat.le_of_ble_eq_true rfl) (Nat.le_of_ble_eq_true rfl)
  intro i u H locs ls hi ih hI
  obtain ⟨az, rfl⟩ : ∃ z, z = u := ⟨_, rfl⟩
  obtain ⟨hP, hD, hS, hl, hJ⟩ := hI
  have hP : va_P D zCl [(o3, .inr (0, [.ref t3, .int (nI (16 * i))])), (t3, .inl (d3, 4096, .inl az))] H := hP
  have hD : va_D A [(o3, .inr (0, [.ref t3, .int (nI (16 * i))])), (t3, .inl (d3, 4096, .inl az))] := hD
  have hl : lv_has ls 4 [(2, .ref o3), (3, .int (nI i))] := hl
  have hJ : ∀ j, j < 16 * i → sj_by (az j) = 255 := hJ
  refine W.widen (k := 10) (n := 12300) (Nat.le_refl _) (Nat.le_refl _) ?_
  refine lv_iload_n hx hb dX0_known_118 rfl (lv_at hl 1 rfl) ?_
  refine lv_bipush (v := nI 20) hx hb dX0_known_119 (by decide +kernel) ?_
  refine lv_icmp_ge (tgt := 139) hx hb dX0_known_121 (by decide) (fun c0 => ?_) (fun c0 => ?_)
  · skip
    have hi20 : i = 20 := by have h9 : ¬ i < 20 := fun h => nI_ge (a := i) (b := 20) h (by decide) c0; omega
    rw [hi20] at hJ
    rw [show (16 * i) = 320 by rw [hi20]] at hP hD
    have hP : va_P D zCl [(o3, .inr (0, [.ref t3, .int (nI 320)])), (t3, .inl (d3, 4096, .inl az))] H := hP
    have hD : va_D A [(o3, .inr (0, [.ref t3, .int (nI 320)])), (t3, .inl (d3, 4096, .inl az))] := hD
    refine lv_aload_n hx hb dX0_known_139 rfl (lv_at hl 0 rfl) ?_
    refine lv_iconst (v := 0) hx hb dX0_known_140 (by decide) ?_
    refine lv_sipush (v := 320) hx hb dX0_known_141 (by decide +kernel) ?_
    refine z_gol (wr := []) (va_runV (As := [.int 0, .int 320]) (rest := []) ⟨hx, hb, hml, hown, hts⟩ (mX1_adler l D H.size o3 t3 d3 320 az 0 320 (by decide)) (cwV 2 hts (lw_V q88 q89 q90 q4 q91) rfl rfl rfl (by decide +kernel) ⟨(Nat.le_of_ble_eq_true rfl), (Nat.le_of_ble_eq_true rfl)⟩) (z_preV (q0 := 0) (ci := 0) rfl rfl hK hP hD hS hA hX [0, 1] [2] rfl (by decide) rfl (fun _ h9 => by cases h9) (fun _ h9 => h9)) rfl rfl hl.1 rfl (lv_room (Nat.le_of_ble_eq_true rfl)) dX0_known_144 ⟨(Nat.le_of_ble_eq_true rfl), (Nat.le_of_ble_eq_true rfl)⟩) hK hP hD hS hA [0, 1] [] rfl rfl (by decide) (by decide) (fun r_39 u_38 H locs h_40 _ hP hD hS => ?_)
    have hP : va_P D zCl [(o3, .inr (0, [.ref t3, .int (nI 320)])), (t3, .inl (d3, 4096, .inl az))] H := hP
    have hD : va_D A [(o3, .inr (0, [.ref t3, .int (nI 320)])), (t3, .inl (d3, 4096, .inl az))] := hD
    have h_40 : r_39 = lN (sj_adl (fun j => sj_by (az j)) (sj_pos 0 % (320 + 1)) (sj_pos 320 % (320 - sj_pos 0 % (320 + 1) + 1))) := h_40
    subst h_40
    have v_41 : (lN (sj_adl (fun j => sj_by (az j)) (sj_pos 0 % (320 + 1)) (sj_pos 320 % (320 - sj_pos 0 % (320 + 1) + 1)))) = lN 3830005456 := by rw [show sj_pos 0 % (320 + 1) = 0 by decide +kernel, show sj_pos 320 % (320 - 0 + 1) = 320 by decide +kernel, sj_adl_congr (h := fun _ => 255) (fun j h1 h2 => by exact hJ j (by omega))]; rw [sj_adl_f]
    rw [v_41]
    refine lv_ldc2 (v := 3830005456) hx hb hown (hts _ q112) dX0_known_147 ?_
    refine lv_topl (fun x_42 e_42 => ?_)
    have e_42 : x_42 = lN 3830005456 := by refine e_42.trans ?_; rfl
    subst e_42
    refine W.lcmp hx hb dX0_known_150 ?_
    refine lv_if_ne (tgt := 176) hx hb dX0_known_151 (by decide) (fun c0 => False.elim (by exact c0 ((zj_cmp0 _ _).mpr rfl))) (fun c0 => ?_)
    refine lv_aload_n hx hb dX0_known_154 rfl (lv_at hl 0 rfl) ?_
    refine lv_iconst (v := 0) hx hb dX0_known_155 (by decide) ?_
    refine lv_sipush (v := 320) hx hb dX0_known_156 (by decide +kernel) ?_
    refine lv_sipush (v := 160) hx hb dX0_known_159 (by decide +kernel) ?_
    refine z_gol (wr := []) (va_runV (As := [.int 0, .int 320, .int 160]) (rest := []) ⟨hx, hb, hml, hown, hts⟩ (mX1_joinAdler l D H.size o3 t3 d3 320 az 0 320 160 (by decide)) (cwV 3 hts (lw_V q113 q114 q115 q4 q116) rfl rfl rfl (by decide +kernel) ⟨(Nat.le_of_ble_eq_true rfl), (Nat.le_of_ble_eq_true rfl)⟩) (z_preV (q0 := 0) (ci := 0) rfl rfl hK hP hD hS hA hX [0, 1] [2] rfl (by decide) rfl (fun _ h9 => by cases h9) (fun _ h9 => h9)) rfl rfl hl.1 rfl (lv_room (Nat.le_of_ble_eq_true rfl)) dX0_known_162 ⟨(Nat.le_of_ble_eq_true rfl), (Nat.le_of_ble_eq_true rfl)⟩) hK hP hD hS hA [0, 1] [] rfl rfl (by decide) (by decide) (fun r_44 u_43 H locs h_45 _ hP hD hS => ?_)
    have hP : va_P D zCl [(o3, .inr (0, [.ref t3, .int (nI 320)])), (t3, .inl (d3, 4096, .inl az))] H := hP
    have hD : va_D A [(o3, .inr (0, [.ref t3, .int (nI 320)])), (t3, .inl (d3, 4096, .inl az))] := hD
    have h_45 : r_44 = lN (sj_adl (fun j => sj_by (az j)) (sj_pos 0 % (320 + 1)) (sj_pos 320 % (320 - sj_pos 0 % (320 + 1) + 1))) := h_45
    subst h_45
    have v_46 : (lN (sj_adl (fun j => sj_by (az j)) (sj_pos 0 % (320 + 1)) (sj_pos 320 % (320 - sj_pos 0 % (320 + 1) + 1)))) = lN 3830005456 := by rw [show sj_pos 0 % (320 + 1) = 0 by decide +kernel, show sj_pos 320 % (320 - 0 + 1) = 320 by decide +kernel, sj_adl_congr (h := fun _ => 255) (fun j h1 h2 => by exact hJ j (by omega))]; rw [sj_adl_f]
    rw [v_46]
    refine lv_ldc2 (v := 3830005456) hx hb hown (hts _ q112) dX0_known_165 ?_
    refine lv_topl (fun x_47 e_47 => ?_)
    have e_47 : x_47 = lN 3830005456 := by refine e_47.trans ?_; rfl
    subst e_47
    refine W.lcmp hx hb dX0_known_168 ?_
    refine lv_if_ne (tgt := 176) hx hb dX0_known_169 (by decide) (fun c0 => False.elim (by exact c0 ((zj_cmp0 _ _).mpr rfl))) (fun c0 => ?_)
    refine lv_iconst (v := 1) hx hb dX0_known_172 (by decide) ?_
    refine lv_goto (tgt := 177) hx hb dX0_known_173 (by decide) ?_
    have hP9 := hP.sub (ws' := []) [] rfl
    have hD9 := hD.sub (ws' := []) [] (by decide) rfl
    have hK9 := hK.sub (tys' := []) [] rfl
    exact W.zret (v := 1) hx hb hr rfl (fun t ht hW => ⟨⟨1, (), rfl, rfl, by rw [ht]; exact hP9, va_K.moved hW.alike hK9, hD9⟩, hS.F ht⟩) hS.2.2 dX0_known_177
  · skip
    have hi20 : i < 20 := Nat.lt_of_not_le (fun h => c0 (nI_le (a := 20) (b := i) h (by omega)))
    refine lv_aload_n hx hb dX0_known_124 rfl (lv_at hl 0 rfl) ?_
    refine lv_iconst (v := (-1)) hx hb dX0_known_125 (by decide) ?_
    refine lv_iconst (v := (-1)) hx hb dX0_known_126 (by decide) ?_
    refine lv_iconst (v := (-1)) hx hb dX0_known_127 (by decide) ?_
    refine lv_iconst (v := (-1)) hx hb dX0_known_128 (by decide) ?_
    refine z_goi (wr := []) (va_runV (As := [.int (-1), .int (-1), .int (-1), .int (-1)]) (rest := []) ⟨hx, hb, hml, hown, hts⟩ (mX1_put l D H.size o3 t3 d3 (16 * i) az (-1) (-1) (-1) (-1) (by omega)) (cwV 4 hts (lw_V q95 q96 q97 q4 q98) rfl rfl rfl (by decide +kernel) ⟨(Nat.le_of_ble_eq_true rfl), (Nat.le_of_ble_eq_true rfl)⟩) (z_preV (q0 := 0) (ci := 0) rfl rfl hK hP hD hS hA hX [0, 1] [2] rfl (by decide) rfl (fun _ h9 => by cases h9) (fun _ h9 => h9)) rfl rfl hl.1 rfl (lv_room (Nat.le_of_ble_eq_true rfl)) dX0_known_129 ⟨(Nat.le_of_ble_eq_true rfl), (Nat.le_of_ble_eq_true rfl)⟩) hK hP hD hS hA [0, 1] [] rfl rfl (by decide) (by decide) (fun r_49 u_48 H locs hb3P _ hP hD hS => ?_)
    obtain ⟨b3, rfl⟩ : ∃ z, z = u_48 := ⟨_, rfl⟩
    have hP : va_P D zCl [(o3, .inr (0, [.ref t3, .int (nI ((16 * i) + 16))])), (t3, .inl (d3, 4096, .inl b3))] H := hP
    have hD : va_D A [(o3, .inr (0, [.ref t3, .int (nI ((16 * i) + 16))])), (t3, .inl (d3, 4096, .inl b3))] := hD
    have hb3P : r_49 = 1 ∧ ∀ j, sj_by (b3 j) = sj_pt (fun j => sj_by (az j)) (16 * i) (-1) (-1) (-1) (-1) j := hb3P
    obtain ⟨hb3r, hb3⟩ := hb3P
    subst hb3r
    refine lv_pop hx hb dX0_known_132 rfl ?_
    refine lv_iinc (v := nI (i + 1)) (lv' := [(3, .int (nI (i + 1))), (2, .ref o3)]) hx hb dX0_known_133 hl (k := 1) rfl (by exact nI_1 i) (by decide) rfl (fun ls hl => ?_)
    refine lv_goto (tgt := 118) hx hb dX0_known_136 (by decide) ?_
    rw [show ((16 * i) + 16) = (16 * (i + 1)) by omega] at hP hD
    have hP : va_P D zCl [(o3, .inr (0, [.ref t3, .int (nI (16 * (i + 1)))])), (t3, .inl (d3, 4096, .inl b3))] H := hP
    have hD : va_D A [(o3, .inr (0, [.ref t3, .int (nI (16 * (i + 1)))])), (t3, .inl (d3, 4096, .inl b3))] := hD
    refine W.widen (k := 10) (n := 12300) (Nat.le_of_ble_eq_true rfl) (Nat.le_of_ble_eq_true rfl) ?_
    exact ih (by omega) b3 H locs ls ⟨hP.sub (ws' := [(o3, .inr (0, [.ref t3, .int (nI (16 * (i + 1)))])), (t3, .inl (d3, 4096, .inl b3))]) [0, 1] rfl, hD.sub (ws' := [(o3, .inr (0, [.ref t3, .int (nI (16 * (i + 1)))])), (t3, .inl (d3, 4096, .inl b3))]) [0, 1] (by decide) rfl, hS, lv_sub (l' := [(2, .ref o3), (3, .int (nI (i + 1)))]) hl [1, 0] rfl, fun j hj => by by_cases h : j < 16 * i; (rw [hb3, sj_pt_out _ _ _ _ _ _ _ (Or.inl h)]; exact hJ j h); (rw [hb3, sj_pt_in _ _ _ _ _ _ _ (by omega) (by omega)]; exact sj_ff _ _ (by omega))⟩
set_option maxHeartbeats 4000000 in
set_option maxRecDepth 100000 in
/-- askedBounds: empty at first, 4096 bytes at most -/
theorem mX0_askedBounds (l : Launch) (D : va_G) (sz : Nat) (t : Nat) : Met l yX0_askedBounds (ws_ yX0_askedBounds cX0_askedBounds 2 (some .boolean)) ({ frames := 4, cells := 9, slots := 4169, locals := 103 }) (va_Pc [] (zP D sz [] [] (some t) none)) (va_Qi (fun (r : Int32) (_ : Unit) => r = 1) (zB D (va_A [] sz) (fun (_ : Unit) => []) (fun (_ : Unit) => [])) (va_A [] sz)) 9 4169 (va_A [] sz) := by
  refine Met.ofW (cc := cX0_askedBounds) (maxL := 2) (ret := (some .boolean)) (by decide) rfl ?_
  intro p e s m args below meth c s₁ B hml hv
  obtain ⟨rfl, hsz, hP, hK, hD0, hX⟩ := hv
  have hx := B.exec
  have hb := B.bytes
  have hr := B.returns
  have hts := atoms_spec (ws := ws_ yX0_askedBounds cX0_askedBounds 2 (some .boolean)) B.pre
  have hts : ∀ w ∈ lw_all, w.before _ s = true := fun w h => hts w (List.mem_cons_of_mem _ h)
  have hown : s.vm.findClass RX0 = some m.cls := findClass_of_methodNamed B.named
  have hlocks := B.notSynchronized
  subst hsz
  have hD := hD0.self (sz := s.heap.size)
  generalize hAe : va_A [] s.heap.size = A at hD hX ⊢
  have hA : ∀ q : Nat, s.heap.size ≤ q → A q := fun q h => by rw [← hAe]; exact Or.inr h
  have hS : va_S A s.heap s.heap [] := va_S.rf
  have hP : va_P D zCl [] s.heap := hP
  have hZt : va_Z "CRC32" "crc_table" "[I" (.ref t) A s s.heap := (hX.1 t rfl).1
  have hTt : va_T .int t 256 (fun j => .int (nI (sj_c8 j))) A s s.heap := (hX.1 t rfl).2
  have hl := lv_entry ([]) (n := 2) (Nat.le_of_ble_eq_true rfl)
  rw [lg_entry_eq]
  generalize (lg_sl ([]) ++ List.replicate (2 - (lg_sl ([])).length) Slot.unset).toArray = ls at hl ⊢
  have hl : lv_has ls 2 [] := hl
  refine va_new (ci := 0) (fs := [.null, .int 0]) (C := RX1) (T := TX1) (N := 2) hx hb hts in_X1 tyX1 tyX1_ok hown (hts _ q13) (hts _ q14) (hts _ q4) hK hP hD hS hA rfl (fun j hj => by rcases (show j = 0 ∨ j = 1 by omega) with rfl | rfl <;> rfl) (Nat.le_of_ble_eq_true rfl) (Nat.le_of_ble_eq_true rfl) dX0_askedBounds_0 (fun o1 H hP hD hS => ?_)
  have hP : va_P D zCl [(o1, .inr (0, [.null, .int 0]))] H := hP
  have hD : va_D A [(o1, .inr (0, [.null, .int 0]))] := hD
  refine lv_dup hx hb dX0_askedBounds_3 rfl ?_
  refine z_gov (wr := []) (va_runI (As := []) (rest := [.ref o1]) ⟨hx, hb, hml, hown, hts⟩ (mX1_init l D H.size o1) (cwI 0 hts (lw_meth q17) rfl rfl rfl (hts _ q4) (hts _ q15) (hts _ q16) rfl (by decide +kernel) ⟨(Nat.le_of_ble_eq_true rfl), (Nat.le_of_ble_eq_true rfl)⟩) (z_pre hK hP hD hS hA hX [0] [] rfl (by decide) rfl (fun _ h9 => by cases h9) (fun _ h9 => h9)) rfl rfl hl.1 rfl (lv_room (Nat.le_of_ble_eq_true rfl)) dX0_askedBounds_4 ⟨(Nat.le_of_ble_eq_true rfl), (Nat.le_of_ble_eq_true rfl)⟩) hK hP hD hS hA [0] [] rfl rfl (by decide) (by decide) (fun u_1 H locs h_3 hK hP hD hS => ?_)
  obtain ⟨t1, d1⟩ := u_1
  have hK : va_K D zCl [(d1, .byte)] s := hK
  have hP : va_P D zCl [(o1, .inr (0, [.ref t1, .int (nI 0)])), (t1, .inl (d1, 4096, .inl (fun _ => 0)))] H := hP
  have hD : va_D A [(o1, .inr (0, [.ref t1, .int (nI 0)])), (t1, .inl (d1, 4096, .inl (fun _ => 0)))] := hD
  have hP : va_P D zCl [(o1, .inr (0, [.ref t1, .int (nI 0)])), (t1, .inl (d1, 4096, .inl sj_z))] H := hP
  have hD : va_D A [(o1, .inr (0, [.ref t1, .int (nI 0)])), (t1, .inl (d1, 4096, .inl sj_z))] := hD
  refine lv_astore_n (lv' := [(0, .ref o1)]) hx hb dX0_askedBounds_7 rfl hl (by decide) rfl (fun ls hl => ?_)
  refine lv_aload_n hx hb dX0_askedBounds_8 rfl (lv_at hl 0 rfl) ?_
  refine z_goi (wr := [(t1, .inl (d1, 4096, .inl sj_z))]) (va_runV (As := []) (rest := []) ⟨hx, hb, hml, hown, hts⟩ (mX1_size l D H.size o1 t1 0) (cwV 0 hts (lw_V q124 q125 q126 q4 q127) rfl rfl rfl (by decide +kernel) ⟨(Nat.le_of_ble_eq_true rfl), (Nat.le_of_ble_eq_true rfl)⟩) (z_preV (q0 := 0) (ci := 0) rfl rfl hK hP hD hS hA hX [0] [] rfl (by decide) rfl (fun _ h9 => by cases h9) (fun _ h9 => h9)) rfl rfl hl.1 rfl (lv_room (Nat.le_of_ble_eq_true rfl)) dX0_askedBounds_9 ⟨(Nat.le_of_ble_eq_true rfl), (Nat.le_of_ble_eq_true rfl)⟩) hK hP hD hS hA [0] [1] rfl rfl (by decide) (by decide) (fun r_5 u_4 H locs h_6 _ hP hD hS => ?_)
  have hP : va_P D zCl [(t1, .inl (d1, 4096, .inl sj_z)), (o1, .inr (0, [.ref t1, .int (nI 0)]))] H := hP
  have hD : va_D A [(t1, .inl (d1, 4096, .inl sj_z)), (o1, .inr (0, [.ref t1, .int (nI 0)]))] := hD
  have h_6 : r_5 = nI 0 := h_6
  subst h_6
  refine lv_if_ne (tgt := 50) hx hb dX0_askedBounds_12 (by decide) (fun c0 => False.elim (by exact c0 rfl)) (fun c0 => ?_)
  refine lv_aload_n hx hb dX0_askedBounds_15 rfl (lv_at hl 0 rfl) ?_
  refine lv_iconst (v := 3) hx hb dX0_askedBounds_16 (by decide) ?_
  refine lv_iconst (v := 4) hx hb dX0_askedBounds_17 (by decide) ?_
  refine lv_iconst (v := 5) hx hb dX0_askedBounds_18 (by decide) ?_
  refine z_gol (wr := []) (va_runV (As := [.int 3, .int 4, .int 5]) (rest := []) ⟨hx, hb, hml, hown, hts⟩ (mX1_joinCrc l D H.size o1 t1 d1 t 0 sj_z 3 4 5 (by decide)) (cwV 3 hts (lw_V q135 q136 q137 q4 q138) rfl rfl rfl (by decide +kernel) ⟨(Nat.le_of_ble_eq_true rfl), (Nat.le_of_ble_eq_true rfl)⟩) (z_preV (q0 := 1) (ci := 0) rfl rfl hK hP hD hS hA hX [1, 0] [0] rfl (by decide) rfl (fun _ h9 => h9) (fun _ h9 => h9)) rfl rfl hl.1 rfl (lv_room (Nat.le_of_ble_eq_true rfl)) dX0_askedBounds_19 ⟨(Nat.le_of_ble_eq_true rfl), (Nat.le_of_ble_eq_true rfl)⟩) hK hP hD hS hA [1, 0] [] rfl rfl (by decide) (by decide) (fun r_8 u_7 H locs h_9 _ hP hD hS => ?_)
  have hP : va_P D zCl [(o1, .inr (0, [.ref t1, .int (nI 0)])), (t1, .inl (d1, 4096, .inl sj_z))] H := hP
  have hD : va_D A [(o1, .inr (0, [.ref t1, .int (nI 0)])), (t1, .inl (d1, 4096, .inl sj_z))] := hD
  have h_9 : r_8 = lN (sj_crc (fun j => sj_by (sj_z j)) (sj_pos 3 % (0 + 1)) (sj_pos 4 % (0 - sj_pos 3 % (0 + 1) + 1))) := h_9
  subst h_9
  have v_10 : (lN (sj_crc (fun j => sj_by (sj_z j)) (sj_pos 3 % (0 + 1)) (sj_pos 4 % (0 - sj_pos 3 % (0 + 1) + 1)))) = lN 0 := by decide +kernel
  rw [v_10]
  refine lv_lconst (v := lN 0) hx hb dX0_askedBounds_22 (by rfl) ?_
  refine W.lcmp hx hb dX0_askedBounds_23 ?_
  refine lv_if_ne (tgt := 50) hx hb dX0_askedBounds_24 (by decide) (fun c0 => False.elim (by exact c0 ((zj_cmp0 _ _).mpr rfl))) (fun c0 => ?_)
  refine lv_aload_n hx hb dX0_askedBounds_27 rfl (lv_at hl 0 rfl) ?_
  refine lv_iconst (v := 3) hx hb dX0_askedBounds_28 (by decide) ?_
  refine lv_iconst (v := 4) hx hb dX0_askedBounds_29 (by decide) ?_
  refine lv_iconst (v := 5) hx hb dX0_askedBounds_30 (by decide) ?_
  refine z_gol (wr := []) (va_runV (As := [.int 3, .int 4, .int 5]) (rest := []) ⟨hx, hb, hml, hown, hts⟩ (mX1_joinAdler l D H.size o1 t1 d1 0 sj_z 3 4 5 (by decide)) (cwV 3 hts (lw_V q113 q114 q115 q4 q116) rfl rfl rfl (by decide +kernel) ⟨(Nat.le_of_ble_eq_true rfl), (Nat.le_of_ble_eq_true rfl)⟩) (z_preV (q0 := 0) (ci := 0) rfl rfl hK hP hD hS hA hX [0, 1] [0] rfl (by decide) rfl (fun _ h9 => by cases h9) (fun _ h9 => h9)) rfl rfl hl.1 rfl (lv_room (Nat.le_of_ble_eq_true rfl)) dX0_askedBounds_31 ⟨(Nat.le_of_ble_eq_true rfl), (Nat.le_of_ble_eq_true rfl)⟩) hK hP hD hS hA [0, 1] [] rfl rfl (by decide) (by decide) (fun r_12 u_11 H locs h_13 _ hP hD hS => ?_)
  have hP : va_P D zCl [(o1, .inr (0, [.ref t1, .int (nI 0)])), (t1, .inl (d1, 4096, .inl sj_z))] H := hP
  have hD : va_D A [(o1, .inr (0, [.ref t1, .int (nI 0)])), (t1, .inl (d1, 4096, .inl sj_z))] := hD
  have h_13 : r_12 = lN (sj_adl (fun j => sj_by (sj_z j)) (sj_pos 3 % (0 + 1)) (sj_pos 4 % (0 - sj_pos 3 % (0 + 1) + 1))) := h_13
  subst h_13
  have v_14 : (lN (sj_adl (fun j => sj_by (sj_z j)) (sj_pos 3 % (0 + 1)) (sj_pos 4 % (0 - sj_pos 3 % (0 + 1) + 1)))) = lN 1 := by decide +kernel
  rw [v_14]
  refine lv_lconst (v := lN 1) hx hb dX0_askedBounds_34 (by rfl) ?_
  refine W.lcmp hx hb dX0_askedBounds_35 ?_
  refine lv_if_ne (tgt := 50) hx hb dX0_askedBounds_36 (by decide) (fun c0 => False.elim (by exact c0 ((zj_cmp0 _ _).mpr rfl))) (fun c0 => ?_)
  refine lv_aload_n hx hb dX0_askedBounds_39 rfl (lv_at hl 0 rfl) ?_
  refine lv_iconst (v := (-1)) hx hb dX0_askedBounds_40 (by decide) ?_
  refine lv_iconst (v := (-1)) hx hb dX0_askedBounds_41 (by decide) ?_
  refine z_gol (wr := []) (va_runV (As := [.int (-1), .int (-1)]) (rest := []) ⟨hx, hb, hml, hown, hts⟩ (mX1_crc l D H.size o1 t1 d1 t 0 sj_z (-1) (-1) (by decide)) (cwV 2 hts (lw_V q29 q30 q31 q4 q32) rfl rfl rfl (by decide +kernel) ⟨(Nat.le_of_ble_eq_true rfl), (Nat.le_of_ble_eq_true rfl)⟩) (z_preV (q0 := 0) (ci := 0) rfl rfl hK hP hD hS hA hX [0, 1] [0] rfl (by decide) rfl (fun _ h9 => h9) (fun _ h9 => h9)) rfl rfl hl.1 rfl (lv_room (Nat.le_of_ble_eq_true rfl)) dX0_askedBounds_42 ⟨(Nat.le_of_ble_eq_true rfl), (Nat.le_of_ble_eq_true rfl)⟩) hK hP hD hS hA [0, 1] [] rfl rfl (by decide) (by decide) (fun r_16 u_15 H locs h_17 _ hP hD hS => ?_)
  have hP : va_P D zCl [(o1, .inr (0, [.ref t1, .int (nI 0)])), (t1, .inl (d1, 4096, .inl sj_z))] H := hP
  have hD : va_D A [(o1, .inr (0, [.ref t1, .int (nI 0)])), (t1, .inl (d1, 4096, .inl sj_z))] := hD
  have h_17 : r_16 = lN (sj_crc (fun j => sj_by (sj_z j)) (sj_pos (-1) % (0 + 1)) (sj_pos (-1) % (0 - sj_pos (-1) % (0 + 1) + 1))) := h_17
  subst h_17
  have v_18 : (lN (sj_crc (fun j => sj_by (sj_z j)) (sj_pos (-1) % (0 + 1)) (sj_pos (-1) % (0 - sj_pos (-1) % (0 + 1) + 1)))) = lN 0 := by decide +kernel
  rw [v_18]
  refine lv_lconst (v := lN 0) hx hb dX0_askedBounds_45 (by rfl) ?_
  refine W.lcmp hx hb dX0_askedBounds_46 ?_
  refine lv_if_eq (tgt := 52) hx hb dX0_askedBounds_47 (by decide) (fun c0 => ?_) (fun c0 => False.elim (by exact c0 ((zj_cmp0 _ _).mpr rfl)))
  refine lv_iconst (v := nI 0) hx hb dX0_askedBounds_52 (by rfl) ?_
  refine lv_istore_n (lv' := [(1, .int (nI 0)), (0, .ref o1)]) hx hb dX0_askedBounds_53 rfl hl (by decide) rfl (fun ls hl => ?_)
  refine z_loop (σ := (Nat → Int32)) (256) (fun i => 9) (fun i => 4169) (fun i u H locs ls => va_P D zCl [(o1, .inr (0, [.ref t1, .int (nI (16 * i))])), (t1, .inl (d1, 4096, .inl u))] H ∧ va_D A [(o1, .inr (0, [.ref t1, .int (nI (16 * i))])), (t1, .inl (d1, 4096, .inl u))] ∧ va_S A s.heap H locs ∧ lv_has ls 2 [(0, .ref o1), (1, .int (nI i))] ∧ True) ?_ (0) sj_z (by omega) ⟨hP.sub (ws' := [(o1, .inr (0, [.ref t1, .int (nI (16 * 0))])), (t1, .inl (d1, 4096, .inl sj_z))]) [0, 1] rfl, hD.sub (ws' := [(o1, .inr (0, [.ref t1, .int (nI (16 * 0))])), (t1, .inl (d1, 4096, .inl sj_z))]) [0, 1] (by decide) rfl, hS, lv_sub (l' := [(0, .ref o1), (1, .int (nI 0))]) hl [1, 0] rfl, trivial⟩ (Nat.le_of_ble_eq_true rfl) (Nat.le_of_ble_eq_true rfl)
  intro i u H locs ls hi ih hI
  obtain ⟨az, rfl⟩ : ∃ z, z = u := ⟨_, rfl⟩
  obtain ⟨hP, hD, hS, hl, hJ⟩ := hI
  have hP : va_P D zCl [(o1, .inr (0, [.ref t1, .int (nI (16 * i))])), (t1, .inl (d1, 4096, .inl az))] H := hP
  have hD : va_D A [(o1, .inr (0, [.ref t1, .int (nI (16 * i))])), (t1, .inl (d1, 4096, .inl az))] := hD
  have hl : lv_has ls 2 [(0, .ref o1), (1, .int (nI i))] := hl
  have hJ : True := hJ
  refine W.widen (k := 9) (n := 4169) (Nat.le_refl _) (Nat.le_refl _) ?_
  refine lv_iload_n hx hb dX0_askedBounds_54 rfl (lv_at hl 1 rfl) ?_
  refine lv_sipush (v := nI 256) hx hb dX0_askedBounds_55 (by decide +kernel) ?_
  refine lv_icmp_ge (tgt := 80) hx hb dX0_askedBounds_58 (by decide) (fun c0 => ?_) (fun c0 => ?_)
  · skip
    have hi9 : i = 256 := by have h9 : ¬ i < 256 := fun h => nI_ge (a := i) (b := 256) h (by decide) c0; omega
    rw [show (16 * i) = 4096 by rw [hi9]] at hP hD
    have hP : va_P D zCl [(o1, .inr (0, [.ref t1, .int (nI 4096)])), (t1, .inl (d1, 4096, .inl az))] H := hP
    have hD : va_D A [(o1, .inr (0, [.ref t1, .int (nI 4096)])), (t1, .inl (d1, 4096, .inl az))] := hD
    refine lv_aload_n hx hb dX0_askedBounds_80 rfl (lv_at hl 0 rfl) ?_
    refine lv_iconst (v := 1) hx hb dX0_askedBounds_81 (by decide) ?_
    refine lv_iconst (v := 1) hx hb dX0_askedBounds_82 (by decide) ?_
    refine lv_iconst (v := 1) hx hb dX0_askedBounds_83 (by decide) ?_
    refine lv_iconst (v := 1) hx hb dX0_askedBounds_84 (by decide) ?_
    refine z_goi (wr := []) (va_runV (As := [.int 1, .int 1, .int 1, .int 1]) (rest := []) ⟨hx, hb, hml, hown, hts⟩ (mX1_putF l D H.size o1 t1 d1 4096 az 1 1 1 1 (by decide) (by decide)) (cwV 4 hts (lw_V q95 q96 q97 q4 q98) rfl rfl rfl (by decide +kernel) ⟨(Nat.le_of_ble_eq_true rfl), (Nat.le_of_ble_eq_true rfl)⟩) (z_preV (q0 := 0) (ci := 0) rfl rfl hK hP hD hS hA hX [0, 1] [0] rfl (by decide) rfl (fun _ h9 => by cases h9) (fun _ h9 => h9)) rfl rfl hl.1 rfl (lv_room (Nat.le_of_ble_eq_true rfl)) dX0_askedBounds_85 ⟨(Nat.le_of_ble_eq_true rfl), (Nat.le_of_ble_eq_true rfl)⟩) hK hP hD hS hA [0, 1] [] rfl rfl (by decide) (by decide) (fun r_20 u_19 H locs h_21 _ hP hD hS => ?_)
    have hP : va_P D zCl [(o1, .inr (0, [.ref t1, .int (nI 4096)])), (t1, .inl (d1, 4096, .inl az))] H := hP
    have hD : va_D A [(o1, .inr (0, [.ref t1, .int (nI 4096)])), (t1, .inl (d1, 4096, .inl az))] := hD
    have h_21 : r_20 = 0 := h_21
    subst h_21
    refine lv_if_ne (tgt := 101) hx hb dX0_askedBounds_88 (by decide) (fun c0 => False.elim (by exact c0 rfl)) (fun c0 => ?_)
    refine lv_aload_n hx hb dX0_askedBounds_91 rfl (lv_at hl 0 rfl) ?_
    refine z_goi (wr := [(t1, .inl (d1, 4096, .inl az))]) (va_runV (As := []) (rest := []) ⟨hx, hb, hml, hown, hts⟩ (mX1_size l D H.size o1 t1 4096) (cwV 0 hts (lw_V q124 q125 q126 q4 q127) rfl rfl rfl (by decide +kernel) ⟨(Nat.le_of_ble_eq_true rfl), (Nat.le_of_ble_eq_true rfl)⟩) (z_preV (q0 := 0) (ci := 0) rfl rfl hK hP hD hS hA hX [0] [] rfl (by decide) rfl (fun _ h9 => by cases h9) (fun _ h9 => h9)) rfl rfl hl.1 rfl (lv_room (Nat.le_of_ble_eq_true rfl)) dX0_askedBounds_92 ⟨(Nat.le_of_ble_eq_true rfl), (Nat.le_of_ble_eq_true rfl)⟩) hK hP hD hS hA [0] [1] rfl rfl (by decide) (by decide) (fun r_23 u_22 H locs h_24 _ hP hD hS => ?_)
    have hP : va_P D zCl [(t1, .inl (d1, 4096, .inl az)), (o1, .inr (0, [.ref t1, .int (nI 4096)]))] H := hP
    have hD : va_D A [(t1, .inl (d1, 4096, .inl az)), (o1, .inr (0, [.ref t1, .int (nI 4096)]))] := hD
    have h_24 : r_23 = nI 4096 := h_24
    subst h_24
    refine lv_sipush (v := nI 4096) hx hb dX0_askedBounds_95 (by decide +kernel) ?_
    refine lv_icmp_eq (tgt := 103) hx hb dX0_askedBounds_98 (by decide) (fun c0 => ?_) (fun c0 => False.elim (by exact c0 rfl))
    refine lv_aload_n hx hb dX0_askedBounds_103 rfl (lv_at hl 0 rfl) ?_
    refine lv_sipush (v := 4081) hx hb dX0_askedBounds_104 (by decide +kernel) ?_
    refine z_gov (wr := [(t1, .inl (d1, 4096, .inl az))]) (va_runV (As := [.int 4081]) (rest := []) ⟨hx, hb, hml, hown, hts⟩ (mX1_trim l D H.size o1 t1 4096 4081 (by decide)) (cwV 1 hts (lw_V q103 q104 q105 q4 q106) rfl rfl rfl (by decide +kernel) ⟨(Nat.le_of_ble_eq_true rfl), (Nat.le_of_ble_eq_true rfl)⟩) (z_preV (q0 := 1) (ci := 0) rfl rfl hK hP hD hS hA hX [1] [] rfl (by decide) rfl (fun _ h9 => by cases h9) (fun _ h9 => h9)) rfl rfl hl.1 rfl (lv_room (Nat.le_of_ble_eq_true rfl)) dX0_askedBounds_107 ⟨(Nat.le_of_ble_eq_true rfl), (Nat.le_of_ble_eq_true rfl)⟩) hK hP hD hS hA [1] [0] rfl rfl (by decide) (by decide) (fun u_25 H locs h_27 _ hP hD hS => ?_)
    have hP : va_P D zCl [(t1, .inl (d1, 4096, .inl az)), (o1, .inr (0, [.ref t1, .int (nI (sj_pos 4081 % (4096 + 1)))]))] H := hP
    have hD : va_D A [(t1, .inl (d1, 4096, .inl az)), (o1, .inr (0, [.ref t1, .int (nI (sj_pos 4081 % (4096 + 1)))]))] := hD
    rw [show sj_pos 4081 % (4096 + 1) = 4081 by decide +kernel] at hP hD
    have hP : va_P D zCl [(t1, .inl (d1, 4096, .inl az)), (o1, .inr (0, [.ref t1, .int (nI (4081))]))] H := hP
    have hD : va_D A [(t1, .inl (d1, 4096, .inl az)), (o1, .inr (0, [.ref t1, .int (nI (4081))]))] := hD
    refine lv_aload_n hx hb dX0_askedBounds_110 rfl (lv_at hl 0 rfl) ?_
    refine lv_iconst (v := 1) hx hb dX0_askedBounds_111 (by decide) ?_
    refine lv_iconst (v := 1) hx hb dX0_askedBounds_112 (by decide) ?_
    refine lv_iconst (v := 1) hx hb dX0_askedBounds_113 (by decide) ?_
    refine lv_iconst (v := 1) hx hb dX0_askedBounds_114 (by decide) ?_
    refine z_goi (wr := []) (va_runV (As := [.int 1, .int 1, .int 1, .int 1]) (rest := []) ⟨hx, hb, hml, hown, hts⟩ (mX1_putF l D H.size o1 t1 d1 4081 az 1 1 1 1 (by decide) (by decide)) (cwV 4 hts (lw_V q95 q96 q97 q4 q98) rfl rfl rfl (by decide +kernel) ⟨(Nat.le_of_ble_eq_true rfl), (Nat.le_of_ble_eq_true rfl)⟩) (z_preV (q0 := 1) (ci := 0) rfl rfl hK hP hD hS hA hX [1, 0] [0] rfl (by decide) rfl (fun _ h9 => by cases h9) (fun _ h9 => h9)) rfl rfl hl.1 rfl (lv_room (Nat.le_of_ble_eq_true rfl)) dX0_askedBounds_115 ⟨(Nat.le_of_ble_eq_true rfl), (Nat.le_of_ble_eq_true rfl)⟩) hK hP hD hS hA [1, 0] [] rfl rfl (by decide) (by decide) (fun r_29 u_28 H locs h_30 _ hP hD hS => ?_)
    have hP : va_P D zCl [(o1, .inr (0, [.ref t1, .int (nI 4081)])), (t1, .inl (d1, 4096, .inl az))] H := hP
    have hD : va_D A [(o1, .inr (0, [.ref t1, .int (nI 4081)])), (t1, .inl (d1, 4096, .inl az))] := hD
    have h_30 : r_29 = 0 := h_30
    subst h_30
    refine lv_if_ne (tgt := 131) hx hb dX0_askedBounds_118 (by decide) (fun c0 => False.elim (by exact c0 rfl)) (fun c0 => ?_)
    refine lv_aload_n hx hb dX0_askedBounds_121 rfl (lv_at hl 0 rfl) ?_
    refine z_goi (wr := [(t1, .inl (d1, 4096, .inl az))]) (va_runV (As := []) (rest := []) ⟨hx, hb, hml, hown, hts⟩ (mX1_size l D H.size o1 t1 4081) (cwV 0 hts (lw_V q124 q125 q126 q4 q127) rfl rfl rfl (by decide +kernel) ⟨(Nat.le_of_ble_eq_true rfl), (Nat.le_of_ble_eq_true rfl)⟩) (z_preV (q0 := 0) (ci := 0) rfl rfl hK hP hD hS hA hX [0] [] rfl (by decide) rfl (fun _ h9 => by cases h9) (fun _ h9 => h9)) rfl rfl hl.1 rfl (lv_room (Nat.le_of_ble_eq_true rfl)) dX0_askedBounds_122 ⟨(Nat.le_of_ble_eq_true rfl), (Nat.le_of_ble_eq_true rfl)⟩) hK hP hD hS hA [0] [1] rfl rfl (by decide) (by decide) (fun r_32 u_31 H locs h_33 _ hP hD hS => ?_)
    have hP : va_P D zCl [(t1, .inl (d1, 4096, .inl az)), (o1, .inr (0, [.ref t1, .int (nI 4081)]))] H := hP
    have hD : va_D A [(t1, .inl (d1, 4096, .inl az)), (o1, .inr (0, [.ref t1, .int (nI 4081)]))] := hD
    have h_33 : r_32 = nI 4081 := h_33
    subst h_33
    refine lv_sipush (v := nI 4081) hx hb dX0_askedBounds_125 (by decide +kernel) ?_
    refine lv_icmp_eq (tgt := 133) hx hb dX0_askedBounds_128 (by decide) (fun c0 => ?_) (fun c0 => False.elim (by exact c0 rfl))
    refine lv_aload_n hx hb dX0_askedBounds_133 rfl (lv_at hl 0 rfl) ?_
    refine lv_sipush (v := 4080) hx hb dX0_askedBounds_134 (by decide +kernel) ?_
    refine z_gov (wr := [(t1, .inl (d1, 4096, .inl az))]) (va_runV (As := [.int 4080]) (rest := []) ⟨hx, hb, hml, hown, hts⟩ (mX1_trim l D H.size o1 t1 4081 4080 (by decide)) (cwV 1 hts (lw_V q103 q104 q105 q4 q106) rfl rfl rfl (by decide +kernel) ⟨(Nat.le_of_ble_eq_true rfl), (Nat.le_of_ble_eq_true rfl)⟩) (z_preV (q0 := 1) (ci := 0) rfl rfl hK hP hD hS hA hX [1] [] rfl (by decide) rfl (fun _ h9 => by cases h9) (fun _ h9 => h9)) rfl rfl hl.1 rfl (lv_room (Nat.le_of_ble_eq_true rfl)) dX0_askedBounds_137 ⟨(Nat.le_of_ble_eq_true rfl), (Nat.le_of_ble_eq_true rfl)⟩) hK hP hD hS hA [1] [0] rfl rfl (by decide) (by decide) (fun u_34 H locs h_36 _ hP hD hS => ?_)
    have hP : va_P D zCl [(t1, .inl (d1, 4096, .inl az)), (o1, .inr (0, [.ref t1, .int (nI (sj_pos 4080 % (4081 + 1)))]))] H := hP
    have hD : va_D A [(t1, .inl (d1, 4096, .inl az)), (o1, .inr (0, [.ref t1, .int (nI (sj_pos 4080 % (4081 + 1)))]))] := hD
    rw [show sj_pos 4080 % (4081 + 1) = 4080 by decide +kernel] at hP hD
    have hP : va_P D zCl [(t1, .inl (d1, 4096, .inl az)), (o1, .inr (0, [.ref t1, .int (nI (4080))]))] H := hP
    have hD : va_D A [(t1, .inl (d1, 4096, .inl az)), (o1, .inr (0, [.ref t1, .int (nI (4080))]))] := hD
    refine lv_aload_n hx hb dX0_askedBounds_140 rfl (lv_at hl 0 rfl) ?_
    refine lv_iconst (v := 1) hx hb dX0_askedBounds_141 (by decide) ?_
    refine lv_iconst (v := 1) hx hb dX0_askedBounds_142 (by decide) ?_
    refine lv_iconst (v := 1) hx hb dX0_askedBounds_143 (by decide) ?_
    refine lv_iconst (v := 1) hx hb dX0_askedBounds_144 (by decide) ?_
    refine z_goi (wr := []) (va_runV (As := [.int 1, .int 1, .int 1, .int 1]) (rest := []) ⟨hx, hb, hml, hown, hts⟩ (mX1_put l D H.size o1 t1 d1 4080 az 1 1 1 1 (by decide)) (cwV 4 hts (lw_V q95 q96 q97 q4 q98) rfl rfl rfl (by decide +kernel) ⟨(Nat.le_of_ble_eq_true rfl), (Nat.le_of_ble_eq_true rfl)⟩) (z_preV (q0 := 1) (ci := 0) rfl rfl hK hP hD hS hA hX [1, 0] [0] rfl (by decide) rfl (fun _ h9 => by cases h9) (fun _ h9 => h9)) rfl rfl hl.1 rfl (lv_room (Nat.le_of_ble_eq_true rfl)) dX0_askedBounds_145 ⟨(Nat.le_of_ble_eq_true rfl), (Nat.le_of_ble_eq_true rfl)⟩) hK hP hD hS hA [1, 0] [] rfl rfl (by decide) (by decide) (fun r_38 u_37 H locs hb1P _ hP hD hS => ?_)
    obtain ⟨b1, rfl⟩ : ∃ z, z = u_37 := ⟨_, rfl⟩
    have hP : va_P D zCl [(o1, .inr (0, [.ref t1, .int (nI (4080 + 16))])), (t1, .inl (d1, 4096, .inl b1))] H := hP
    have hD : va_D A [(o1, .inr (0, [.ref t1, .int (nI (4080 + 16))])), (t1, .inl (d1, 4096, .inl b1))] := hD
    have hb1P : r_38 = 1 ∧ ∀ j, sj_by (b1 j) = sj_pt (fun j => sj_by (az j)) 4080 1 1 1 1 j := hb1P
    obtain ⟨hb1r, hb1⟩ := hb1P
    subst hb1r
    refine lv_if_eq (tgt := 161) hx hb dX0_askedBounds_148 (by decide) (fun c0 => False.elim (by exact absurd c0 (by decide))) (fun c0 => ?_)
    refine lv_aload_n hx hb dX0_askedBounds_151 rfl (lv_at hl 0 rfl) ?_
    refine z_goi (wr := [(t1, .inl (d1, 4096, .inl b1))]) (va_runV (As := []) (rest := []) ⟨hx, hb, hml, hown, hts⟩ (mX1_size l D H.size o1 t1 (4080 + 16)) (cwV 0 hts (lw_V q124 q125 q126 q4 q127) rfl rfl rfl (by decide +kernel) ⟨(Nat.le_of_ble_eq_true rfl), (Nat.le_of_ble_eq_true rfl)⟩) (z_preV (q0 := 0) (ci := 0) rfl rfl hK hP hD hS hA hX [0] [] rfl (by decide) rfl (fun _ h9 => by cases h9) (fun _ h9 => h9)) rfl rfl hl.1 rfl (lv_room (Nat.le_of_ble_eq_true rfl)) dX0_askedBounds_152 ⟨(Nat.le_of_ble_eq_true rfl), (Nat.le_of_ble_eq_true rfl)⟩) hK hP hD hS hA [0] [1] rfl rfl (by decide) (by decide) (fun r_40 u_39 H locs h_41 _ hP hD hS => ?_)
    have hP : va_P D zCl [(t1, .inl (d1, 4096, .inl b1)), (o1, .inr (0, [.ref t1, .int (nI (4080 + 16))]))] H := hP
    have hD : va_D A [(t1, .inl (d1, 4096, .inl b1)), (o1, .inr (0, [.ref t1, .int (nI (4080 + 16))]))] := hD
    have h_41 : r_40 = nI (4080 + 16) := h_41
    subst h_41
    refine lv_sipush (v := nI 4096) hx hb dX0_askedBounds_155 (by decide +kernel) ?_
    refine lv_icmp_eq (tgt := 163) hx hb dX0_askedBounds_158 (by decide) (fun c0 => ?_) (fun c0 => False.elim (by exact c0 rfl))
    refine lv_aload_n hx hb dX0_askedBounds_163 rfl (lv_at hl 0 rfl) ?_
    refine lv_iconst (v := (-1)) hx hb dX0_askedBounds_164 (by decide) ?_
    refine z_gov (wr := [(t1, .inl (d1, 4096, .inl b1))]) (va_runV (As := [.int (-1)]) (rest := []) ⟨hx, hb, hml, hown, hts⟩ (mX1_trim l D H.size o1 t1 (4080 + 16) (-1) (by decide)) (cwV 1 hts (lw_V q103 q104 q105 q4 q106) rfl rfl rfl (by decide +kernel) ⟨(Nat.le_of_ble_eq_true rfl), (Nat.le_of_ble_eq_true rfl)⟩) (z_preV (q0 := 1) (ci := 0) rfl rfl hK hP hD hS hA hX [1] [] rfl (by decide) rfl (fun _ h9 => by cases h9) (fun _ h9 => h9)) rfl rfl hl.1 rfl (lv_room (Nat.le_of_ble_eq_true rfl)) dX0_askedBounds_165 ⟨(Nat.le_of_ble_eq_true rfl), (Nat.le_of_ble_eq_true rfl)⟩) hK hP hD hS hA [1] [0] rfl rfl (by decide) (by decide) (fun u_42 H locs h_44 _ hP hD hS => ?_)
    have hP : va_P D zCl [(t1, .inl (d1, 4096, .inl b1)), (o1, .inr (0, [.ref t1, .int (nI (sj_pos (-1) % ((4080 + 16) + 1)))]))] H := hP
    have hD : va_D A [(t1, .inl (d1, 4096, .inl b1)), (o1, .inr (0, [.ref t1, .int (nI (sj_pos (-1) % ((4080 + 16) + 1)))]))] := hD
    rw [show sj_pos (-1) % ((4080 + 16) + 1) = 127 by decide +kernel] at hP hD
    have hP : va_P D zCl [(t1, .inl (d1, 4096, .inl b1)), (o1, .inr (0, [.ref t1, .int (nI (127))]))] H := hP
    have hD : va_D A [(t1, .inl (d1, 4096, .inl b1)), (o1, .inr (0, [.ref t1, .int (nI (127))]))] := hD
    refine lv_aload_n hx hb dX0_askedBounds_168 rfl (lv_at hl 0 rfl) ?_
    refine z_goi (wr := [(t1, .inl (d1, 4096, .inl b1))]) (va_runV (As := []) (rest := []) ⟨hx, hb, hml, hown, hts⟩ (mX1_size l D H.size o1 t1 127) (cwV 0 hts (lw_V q124 q125 q126 q4 q127) rfl rfl rfl (by decide +kernel) ⟨(Nat.le_of_ble_eq_true rfl), (Nat.le_of_ble_eq_true rfl)⟩) (z_preV (q0 := 1) (ci := 0) rfl rfl hK hP hD hS hA hX [1] [] rfl (by decide) rfl (fun _ h9 => by cases h9) (fun _ h9 => h9)) rfl rfl hl.1 rfl (lv_room (Nat.le_of_ble_eq_true rfl)) dX0_askedBounds_169 ⟨(Nat.le_of_ble_eq_true rfl), (Nat.le_of_ble_eq_true rfl)⟩) hK hP hD hS hA [1] [0] rfl rfl (by decide) (by decide) (fun r_46 u_45 H locs h_47 _ hP hD hS => ?_)
    have hP : va_P D zCl [(t1, .inl (d1, 4096, .inl b1)), (o1, .inr (0, [.ref t1, .int (nI 127)]))] H := hP
    have hD : va_D A [(t1, .inl (d1, 4096, .inl b1)), (o1, .inr (0, [.ref t1, .int (nI 127)]))] := hD
    have h_47 : r_46 = nI 127 := h_47
    subst h_47
    refine lv_bipush (v := nI 127) hx hb dX0_askedBounds_172 (by decide +kernel) ?_
    refine lv_icmp_ne (tgt := 181) hx hb dX0_askedBounds_174 (by decide) (fun c0 => False.elim (by exact c0 rfl)) (fun c0 => ?_)
    refine lv_iconst (v := 1) hx hb dX0_askedBounds_177 (by decide) ?_
    refine lv_goto (tgt := 182) hx hb dX0_askedBounds_178 (by decide) ?_
    have hP9 := hP.sub (ws' := []) [] rfl
    have hD9 := hD.sub (ws' := []) [] (by decide) rfl
    have hK9 := hK.sub (tys' := []) [] rfl
    exact W.zret (v := 1) hx hb hr rfl (fun t ht hW => ⟨⟨1, (), rfl, rfl, by rw [ht]; exact hP9, va_K.moved hW.alike hK9, hD9⟩, hS.F ht⟩) hS.2.2 dX0_askedBounds_182
  · skip
    have hi9 : i < 256 := Nat.lt_of_not_le (fun h => c0 (nI_le (a := 256) (b := i) h (by omega)))
    refine lv_aload_n hx hb dX0_askedBounds_61 rfl (lv_at hl 0 rfl) ?_
    refine lv_iload_n hx hb dX0_askedBounds_62 rfl (lv_at hl 1 rfl) ?_
    refine lv_iload_n hx hb dX0_askedBounds_63 rfl (lv_at hl 1 rfl) ?_
    refine lv_iload_n hx hb dX0_askedBounds_64 rfl (lv_at hl 1 rfl) ?_
    refine lv_iload_n hx hb dX0_askedBounds_65 rfl (lv_at hl 1 rfl) ?_
    refine z_goi (wr := []) (va_runV (As := [.int (nI i), .int (nI i), .int (nI i), .int (nI i)]) (rest := []) ⟨hx, hb, hml, hown, hts⟩ (mX1_put l D H.size o1 t1 d1 (16 * i) az (nI i) (nI i) (nI i) (nI i) (by omega)) (cwV 4 hts (lw_V q95 q96 q97 q4 q98) rfl rfl rfl (by decide +kernel) ⟨(Nat.le_of_ble_eq_true rfl), (Nat.le_of_ble_eq_true rfl)⟩) (z_preV (q0 := 0) (ci := 0) rfl rfl hK hP hD hS hA hX [0, 1] [0] rfl (by decide) rfl (fun _ h9 => by cases h9) (fun _ h9 => h9)) rfl rfl hl.1 rfl (lv_room (Nat.le_of_ble_eq_true rfl)) dX0_askedBounds_66 ⟨(Nat.le_of_ble_eq_true rfl), (Nat.le_of_ble_eq_true rfl)⟩) hK hP hD hS hA [0, 1] [] rfl rfl (by decide) (by decide) (fun r_49 u_48 H locs hb3P _ hP hD hS => ?_)
    obtain ⟨b3, rfl⟩ : ∃ z, z = u_48 := ⟨_, rfl⟩
    have hP : va_P D zCl [(o1, .inr (0, [.ref t1, .int (nI ((16 * i) + 16))])), (t1, .inl (d1, 4096, .inl b3))] H := hP
    have hD : va_D A [(o1, .inr (0, [.ref t1, .int (nI ((16 * i) + 16))])), (t1, .inl (d1, 4096, .inl b3))] := hD
    have hb3P : r_49 = 1 ∧ ∀ j, sj_by (b3 j) = sj_pt (fun j => sj_by (az j)) (16 * i) (nI i) (nI i) (nI i) (nI i) j := hb3P
    obtain ⟨hb3r, hb3⟩ := hb3P
    subst hb3r
    refine lv_if_ne (tgt := 74) hx hb dX0_askedBounds_69 (by decide) (fun c1 => ?_) (fun c1 => False.elim (by exact absurd c1 (by decide)))
    refine lv_iinc (v := nI (i + 1)) (lv' := [(1, .int (nI (i + 1))), (0, .ref o1)]) hx hb dX0_askedBounds_74 hl (k := 1) rfl (by exact nI_1 i) (by decide) rfl (fun ls hl => ?_)
    refine lv_goto (tgt := 54) hx hb dX0_askedBounds_77 (by decide) ?_
    rw [show ((16 * i) + 16) = (16 * (i + 1)) by omega] at hP hD
    have hP : va_P D zCl [(o1, .inr (0, [.ref t1, .int (nI (16 * (i + 1)))])), (t1, .inl (d1, 4096, .inl b3))] H := hP
    have hD : va_D A [(o1, .inr (0, [.ref t1, .int (nI (16 * (i + 1)))])), (t1, .inl (d1, 4096, .inl b3))] := hD
    refine W.widen (k := 9) (n := 4169) (Nat.le_of_ble_eq_true rfl) (Nat.le_of_ble_eq_true rfl) ?_
    exact ih (by omega) b3 H locs ls ⟨hP.sub (ws' := [(o1, .inr (0, [.ref t1, .int (nI (16 * (i + 1)))])), (t1, .inl (d1, 4096, .inl b3))]) [0, 1] rfl, hD.sub (ws' := [(o1, .inr (0, [.ref t1, .int (nI (16 * (i + 1)))])), (t1, .inl (d1, 4096, .inl b3))]) [0, 1] (by decide) rfl, hS, lv_sub (l' := [(0, .ref o1), (1, .int (nI (i + 1)))]) hl [1, 0] rfl, trivial⟩
end
section
/-! THE LAW: elder -/
set_option maxHeartbeats 4000000 in
set_option maxRecDepth 100000 in
/-- elder -/
theorem mX0_elder (l : Launch) (D : va_G) (sz : Nat) (bs : Nat) (Ls : Nat) (xs : Nat → Int32) (t : Nat) (hL : Ls ≤ 48) : Met l yX0_elder (ws_ yX0_elder cX0_elder 7 (some .boolean)) ({ frames := 5, cells := 34, slots := 16555, locals := 105 }) (va_Pc [.ref bs] (zP D sz [] [] (some t) (some (bs, Ls, xs)))) (va_Qi (fun (r : Int32) (_ : Unit) => r = 1) (zB D (va_A [] sz) (fun (_ : Unit) => []) (fun (_ : Unit) => [])) (va_A [] sz)) 34 16555 (va_A [] sz) := by
  refine Met.ofW (cc := cX0_elder) (maxL := 7) (ret := (some .boolean)) (by decide) rfl ?_
  intro p e s m args below meth c s₁ B hml hv
  obtain ⟨rfl, hsz, hP, hK, hD0, hX⟩ := hv
  have hx := B.exec
  have hb := B.bytes
  have hr := B.returns
  have hts := atoms_spec (ws := ws_ yX0_elder cX0_elder 7 (some .boolean)) B.pre
  have hts : ∀ w ∈ lw_all, w.before _ s = true := fun w h => hts w (List.mem_cons_of_mem _ h)
  have hown : s.vm.findClass RX0 = some m.cls := findClass_of_methodNamed B.named
  have hlocks := B.notSynchronized
  subst hsz
  have hD := hD0.self (sz := s.heap.size)
  generalize hAe : va_A [] s.heap.size = A at hD hX ⊢
  have hA : ∀ q : Nat, s.heap.size ≤ q → A q := fun q h => by rw [← hAe]; exact Or.inr h
  have hS : va_S A s.heap s.heap [] := va_S.rf
  have hP : va_P D zCl [] s.heap := hP
  have hZt : va_Z "CRC32" "crc_table" "[I" (.ref t) A s s.heap := (hX.1 t rfl).1
  have hTt : va_T .int t 256 (fun j => .int (nI (sj_c8 j))) A s s.heap := (hX.1 t rfl).2
  have hTs : va_T .int bs Ls (fun j => .int (xs j)) A s s.heap := hX.2.1 (bs, Ls, xs) rfl
  have hl := lv_entry ([.ref bs]) (n := 7) (Nat.le_of_ble_eq_true rfl)
  rw [lg_entry_eq]
  generalize (lg_sl ([.ref bs]) ++ List.replicate (7 - (lg_sl ([.ref bs])).length) Slot.unset).toArray = ls at hl ⊢
  have hl : lv_has ls 7 [(0, .ref bs)] := hl
  refine z_goi (wr := []) (va_runS (As := []) (rest := []) ⟨hx, hb, hml, hown, hts⟩ (mX0_known l D s.heap.size t) (va_cwS 0 hts (lw_S q10 q11 q3 q12) rfl rfl rfl (by decide +kernel) ⟨(Nat.le_of_ble_eq_true rfl), (Nat.le_of_ble_eq_true rfl)⟩) (z_pre hK hP hD hS hA hX [] [] rfl (by decide) rfl (fun _ h9 => h9) (fun _ h9 => by cases h9)) rfl rfl hl.1 rfl (lv_room (Nat.le_of_ble_eq_true rfl)) dX0_elder_0 ⟨(Nat.le_of_ble_eq_true rfl), (Nat.le_of_ble_eq_true rfl)⟩) hK hP hD hS hA [] [] rfl rfl (by decide) (by decide) (fun r_2 u_1 H locs h_3 _ hP hD hS => ?_)
  have hP : va_P D zCl [] H := hP
  have hD : va_D A [] := hD
  have h_3 : r_2 = 1 := h_3
  subst h_3
  refine lv_if_ne (tgt := 8) hx hb dX0_elder_3 (by decide) (fun c0 => ?_) (fun c0 => False.elim (by exact absurd c0 (by decide)))
  refine va_new (ci := 0) (fs := [.null, .int 0]) (C := RX1) (T := TX1) (N := 2) hx hb hts in_X1 tyX1 tyX1_ok hown (hts _ q13) (hts _ q14) (hts _ q4) hK hP hD hS hA rfl (fun j hj => by rcases (show j = 0 ∨ j = 1 by omega) with rfl | rfl <;> rfl) (Nat.le_of_ble_eq_true rfl) (Nat.le_of_ble_eq_true rfl) dX0_elder_8 (fun o1 H hP hD hS => ?_)
  have hP : va_P D zCl [(o1, .inr (0, [.null, .int 0]))] H := hP
  have hD : va_D A [(o1, .inr (0, [.null, .int 0]))] := hD
  refine lv_dup hx hb dX0_elder_11 rfl ?_
  refine z_gov (wr := []) (va_runI (As := []) (rest := [.ref o1]) ⟨hx, hb, hml, hown, hts⟩ (mX1_init l D H.size o1) (cwI 0 hts (lw_meth q17) rfl rfl rfl (hts _ q4) (hts _ q15) (hts _ q16) rfl (by decide +kernel) ⟨(Nat.le_of_ble_eq_true rfl), (Nat.le_of_ble_eq_true rfl)⟩) (z_pre hK hP hD hS hA hX [0] [] rfl (by decide) rfl (fun _ h9 => by cases h9) (fun _ h9 => by cases h9)) rfl rfl hl.1 rfl (lv_room (Nat.le_of_ble_eq_true rfl)) dX0_elder_12 ⟨(Nat.le_of_ble_eq_true rfl), (Nat.le_of_ble_eq_true rfl)⟩) hK hP hD hS hA [0] [] rfl rfl (by decide) (by decide) (fun u_4 H locs h_6 hK hP hD hS => ?_)
  obtain ⟨t1, d1⟩ := u_4
  have hK : va_K D zCl [(d1, .byte)] s := hK
  have hP : va_P D zCl [(o1, .inr (0, [.ref t1, .int (nI 0)])), (t1, .inl (d1, 4096, .inl (fun _ => 0)))] H := hP
  have hD : va_D A [(o1, .inr (0, [.ref t1, .int (nI 0)])), (t1, .inl (d1, 4096, .inl (fun _ => 0)))] := hD
  have hP : va_P D zCl [(o1, .inr (0, [.ref t1, .int (nI 0)])), (t1, .inl (d1, 4096, .inl sj_z))] H := hP
  have hD : va_D A [(o1, .inr (0, [.ref t1, .int (nI 0)])), (t1, .inl (d1, 4096, .inl sj_z))] := hD
  refine lv_astore_n (lv' := [(1, .ref o1), (0, .ref bs)]) hx hb dX0_elder_15 rfl hl (by decide) rfl (fun ls hl => ?_)
  refine lv_iconst (v := nI (4 + 4 * 0)) hx hb dX0_elder_16 (by rfl) ?_
  refine lv_istore_n (lv' := [(2, .int (nI (4 + 4 * 0))), (1, .ref o1), (0, .ref bs)]) hx hb dX0_elder_17 rfl hl (by decide) rfl (fun ls hl => ?_)
  refine z_loop (σ := (Nat → Int32)) (11) (fun i => 15) (fun i => 16404) (fun i u H locs ls => va_P D zCl [(o1, .inr (0, [.ref t1, .int (nI (16 * i))])), (t1, .inl (d1, 4096, .inl u))] H ∧ va_D A [(o1, .inr (0, [.ref t1, .int (nI (16 * i))])), (t1, .inl (d1, 4096, .inl u))] ∧ va_S A s.heap H locs ∧ lv_has ls 7 [(0, .ref bs), (1, .ref o1), (2, .int (nI (4 + 4 * i)))] ∧ ∀ j, j < 16 * i → sj_by (u j) = sj_ot Ls xs j) ?_ (0) sj_z (by omega) ⟨hP.sub (ws' := [(o1, .inr (0, [.ref t1, .int (nI (16 * 0))])), (t1, .inl (d1, 4096, .inl sj_z))]) [0, 1] rfl, hD.sub (ws' := [(o1, .inr (0, [.ref t1, .int (nI (16 * 0))])), (t1, .inl (d1, 4096, .inl sj_z))]) [0, 1] (by decide) rfl, hS, lv_sub (l' := [(0, .ref bs), (1, .ref o1), (2, .int (nI (4 + 4 * 0)))]) hl [2, 1, 0] rfl, fun j hj => absurd hj (by omega)⟩ (Nat.le_of_ble_eq_true rfl) (Nat.le_of_ble_eq_true rfl)
  intro i u H locs ls hi ih hI
  obtain ⟨az, rfl⟩ : ∃ z, z = u := ⟨_, rfl⟩
  obtain ⟨hP, hD, hS, hl, hJ⟩ := hI
  have hP : va_P D zCl [(o1, .inr (0, [.ref t1, .int (nI (16 * i))])), (t1, .inl (d1, 4096, .inl az))] H := hP
  have hD : va_D A [(o1, .inr (0, [.ref t1, .int (nI (16 * i))])), (t1, .inl (d1, 4096, .inl az))] := hD
  have hl : lv_has ls 7 [(0, .ref bs), (1, .ref o1), (2, .int (nI (4 + 4 * i)))] := hl
  have hJ : ∀ j, j < 16 * i → sj_by (az j) = sj_ot Ls xs j := hJ
  refine W.widen (k := 15) (n := 16404) (Nat.le_refl _) (Nat.le_refl _) ?_
  refine lv_iload_n hx hb dX0_elder_18 rfl (lv_at hl 2 rfl) ?_
  refine lv_bipush (v := nI 48) hx hb dX0_elder_19 (by decide +kernel) ?_
  refine lv_icmp_ge (tgt := 65) hx hb dX0_elder_21 (by decide) (fun c0 => ?_) (fun c0 => ?_)
  · skip
    have hi9 : i = 11 := by have h9 : ¬ 4 + 4 * i < 48 := fun h => nI_ge (a := 4 + 4 * i) (b := 48) h (by decide) c0; omega
    rw [hi9] at hJ
    rw [show (16 * i) = 176 by rw [hi9]] at hP hD
    have hP : va_P D zCl [(o1, .inr (0, [.ref t1, .int (nI 176)])), (t1, .inl (d1, 4096, .inl az))] H := hP
    have hD : va_D A [(o1, .inr (0, [.ref t1, .int (nI 176)])), (t1, .inl (d1, 4096, .inl az))] := hD
    refine lv_aload_n hx hb dX0_elder_65 rfl (lv_at hl 1 rfl) ?_
    refine lv_aload_n hx hb dX0_elder_66 rfl (lv_at hl 0 rfl) ?_
    refine lv_iconst (v := nI 3) hx hb dX0_elder_67 (by rfl) ?_
    refine z_goi (wr := [(o1, .inr (0, [.ref t1, .int (nI 176)])), (t1, .inl (d1, 4096, .inl az))]) (va_runS (As := [.ref bs, .int (nI 3)]) (rest := [.ref o1]) ⟨hx, hb, hml, hown, hts⟩ (mX0_cell l D H.size bs Ls xs 3 hL (by omega)) (va_cwS 2 hts (lw_S q121 q122 q3 q123) rfl rfl rfl (by decide +kernel) ⟨(Nat.le_of_ble_eq_true rfl), (Nat.le_of_ble_eq_true rfl)⟩) (z_pre hK hP hD hS hA hX [] [] rfl (by decide) rfl (fun _ h9 => by cases h9) (fun _ h9 => h9)) rfl rfl hl.1 rfl (lv_room (Nat.le_of_ble_eq_true rfl)) dX0_elder_68 ⟨(Nat.le_of_ble_eq_true rfl), (Nat.le_of_ble_eq_true rfl)⟩) hK hP hD hS hA [] [0, 1] rfl rfl (by decide) (by decide) (fun r_25 u_24 H locs h_26 _ hP hD hS => ?_)
    have hP : va_P D zCl [(o1, .inr (0, [.ref t1, .int (nI 176)])), (t1, .inl (d1, 4096, .inl az))] H := hP
    have hD : va_D A [(o1, .inr (0, [.ref t1, .int (nI 176)])), (t1, .inl (d1, 4096, .inl az))] := hD
    have h_26 : r_25 = sj_cell Ls xs 3 := h_26
    subst h_26
    refine z_gov (wr := [(t1, .inl (d1, 4096, .inl az))]) (va_runV (As := [.int (sj_cell Ls xs 3)]) (rest := []) ⟨hx, hb, hml, hown, hts⟩ (mX1_trim l D H.size o1 t1 176 (sj_cell Ls xs 3) (by decide)) (cwV 1 hts (lw_V q103 q104 q105 q4 q106) rfl rfl rfl (by decide +kernel) ⟨(Nat.le_of_ble_eq_true rfl), (Nat.le_of_ble_eq_true rfl)⟩) (z_preV (q0 := 0) (ci := 0) rfl rfl hK hP hD hS hA hX [0] [] rfl (by decide) rfl (fun _ h9 => by cases h9) (fun _ h9 => by cases h9)) rfl rfl hl.1 rfl (lv_room (Nat.le_of_ble_eq_true rfl)) dX0_elder_71 ⟨(Nat.le_of_ble_eq_true rfl), (Nat.le_of_ble_eq_true rfl)⟩) hK hP hD hS hA [0] [1] rfl rfl (by decide) (by decide) (fun u_27 H locs h_29 _ hP hD hS => ?_)
    have hP : va_P D zCl [(t1, .inl (d1, 4096, .inl az)), (o1, .inr (0, [.ref t1, .int (nI (sj_pos (sj_cell Ls xs 3) % (176 + 1)))]))] H := hP
    have hD : va_D A [(t1, .inl (d1, 4096, .inl az)), (o1, .inr (0, [.ref t1, .int (nI (sj_pos (sj_cell Ls xs 3) % (176 + 1)))]))] := hD
    have hn := Nat.mod_lt (sj_pos (sj_cell Ls xs 3)) (show 0 < 176 + 1 by decide)
    generalize hn9 : sj_pos (sj_cell Ls xs 3) % (176 + 1) = n at hP hD hn
    have hP : va_P D zCl [(t1, .inl (d1, 4096, .inl az)), (o1, .inr (0, [.ref t1, .int (nI (n))]))] H := hP
    have hD : va_D A [(t1, .inl (d1, 4096, .inl az)), (o1, .inr (0, [.ref t1, .int (nI (n))]))] := hD
    refine lv_aload_n hx hb dX0_elder_74 rfl (lv_at hl 0 rfl) ?_
    refine lv_iconst (v := nI 0) hx hb dX0_elder_75 (by rfl) ?_
    refine z_goi (wr := [(t1, .inl (d1, 4096, .inl az)), (o1, .inr (0, [.ref t1, .int (nI (n))]))]) (va_runS (As := [.ref bs, .int (nI 0)]) (rest := []) ⟨hx, hb, hml, hown, hts⟩ (mX0_cell l D H.size bs Ls xs 0 hL (by omega)) (va_cwS 2 hts (lw_S q121 q122 q3 q123) rfl rfl rfl (by decide +kernel) ⟨(Nat.le_of_ble_eq_true rfl), (Nat.le_of_ble_eq_true rfl)⟩) (z_pre hK hP hD hS hA hX [] [] rfl (by decide) rfl (fun _ h9 => by cases h9) (fun _ h9 => h9)) rfl rfl hl.1 rfl (lv_room (Nat.le_of_ble_eq_true rfl)) dX0_elder_76 ⟨(Nat.le_of_ble_eq_true rfl), (Nat.le_of_ble_eq_true rfl)⟩) hK hP hD hS hA [] [0, 1] rfl rfl (by decide) (by decide) (fun r_31 u_30 H locs h_32 _ hP hD hS => ?_)
    have hP : va_P D zCl [(t1, .inl (d1, 4096, .inl az)), (o1, .inr (0, [.ref t1, .int (nI (n))]))] H := hP
    have hD : va_D A [(t1, .inl (d1, 4096, .inl az)), (o1, .inr (0, [.ref t1, .int (nI (n))]))] := hD
    have h_32 : r_31 = sj_cell Ls xs 0 := h_32
    subst h_32
    refine lv_istore_n (lv' := [(2, .int (sj_cell Ls xs 0)), (0, .ref bs), (1, .ref o1)]) hx hb dX0_elder_79 rfl hl (by decide) rfl (fun ls hl => ?_)
    refine lv_aload_n hx hb dX0_elder_80 rfl (lv_at hl 1 rfl) ?_
    refine lv_iconst (v := nI 1) hx hb dX0_elder_81 (by rfl) ?_
    refine z_goi (wr := [(t1, .inl (d1, 4096, .inl az)), (o1, .inr (0, [.ref t1, .int (nI (n))]))]) (va_runS (As := [.ref bs, .int (nI 1)]) (rest := []) ⟨hx, hb, hml, hown, hts⟩ (mX0_cell l D H.size bs Ls xs 1 hL (by omega)) (va_cwS 2 hts (lw_S q121 q122 q3 q123) rfl rfl rfl (by decide +kernel) ⟨(Nat.le_of_ble_eq_true rfl), (Nat.le_of_ble_eq_true rfl)⟩) (z_pre hK hP hD hS hA hX [] [] rfl (by decide) rfl (fun _ h9 => by cases h9) (fun _ h9 => h9)) rfl rfl hl.1 rfl (lv_room (Nat.le_of_ble_eq_true rfl)) dX0_elder_82 ⟨(Nat.le_of_ble_eq_true rfl), (Nat.le_of_ble_eq_true rfl)⟩) hK hP hD hS hA [] [0, 1] rfl rfl (by decide) (by decide) (fun r_34 u_33 H locs h_35 _ hP hD hS => ?_)
    have hP : va_P D zCl [(t1, .inl (d1, 4096, .inl az)), (o1, .inr (0, [.ref t1, .int (nI (n))]))] H := hP
    have hD : va_D A [(t1, .inl (d1, 4096, .inl az)), (o1, .inr (0, [.ref t1, .int (nI (n))]))] := hD
    have h_35 : r_34 = sj_cell Ls xs 1 := h_35
    subst h_35
    refine lv_istore_n (lv' := [(3, .int (sj_cell Ls xs 1)), (2, .int (sj_cell Ls xs 0)), (0, .ref bs), (1, .ref o1)]) hx hb dX0_elder_85 rfl hl (by decide) rfl (fun ls hl => ?_)
    refine lv_aload_n hx hb dX0_elder_86 rfl (lv_at hl 2 rfl) ?_
    refine lv_iconst (v := nI 2) hx hb dX0_elder_87 (by rfl) ?_
    refine z_goi (wr := [(t1, .inl (d1, 4096, .inl az)), (o1, .inr (0, [.ref t1, .int (nI (n))]))]) (va_runS (As := [.ref bs, .int (nI 2)]) (rest := []) ⟨hx, hb, hml, hown, hts⟩ (mX0_cell l D H.size bs Ls xs 2 hL (by omega)) (va_cwS 2 hts (lw_S q121 q122 q3 q123) rfl rfl rfl (by decide +kernel) ⟨(Nat.le_of_ble_eq_true rfl), (Nat.le_of_ble_eq_true rfl)⟩) (z_pre hK hP hD hS hA hX [] [] rfl (by decide) rfl (fun _ h9 => by cases h9) (fun _ h9 => h9)) rfl rfl hl.1 rfl (lv_room (Nat.le_of_ble_eq_true rfl)) dX0_elder_88 ⟨(Nat.le_of_ble_eq_true rfl), (Nat.le_of_ble_eq_true rfl)⟩) hK hP hD hS hA [] [0, 1] rfl rfl (by decide) (by decide) (fun r_37 u_36 H locs h_38 _ hP hD hS => ?_)
    have hP : va_P D zCl [(t1, .inl (d1, 4096, .inl az)), (o1, .inr (0, [.ref t1, .int (nI (n))]))] H := hP
    have hD : va_D A [(t1, .inl (d1, 4096, .inl az)), (o1, .inr (0, [.ref t1, .int (nI (n))]))] := hD
    have h_38 : r_37 = sj_cell Ls xs 2 := h_38
    subst h_38
    refine lv_istore (lv' := [(4, .int (sj_cell Ls xs 2)), (3, .int (sj_cell Ls xs 1)), (2, .int (sj_cell Ls xs 0)), (0, .ref bs), (1, .ref o1)]) hx hb dX0_elder_91 hl (by decide) rfl (fun ls hl => ?_)
    refine lv_aload_n hx hb dX0_elder_93 rfl (lv_at hl 4 rfl) ?_
    refine z_goi (wr := [(t1, .inl (d1, 4096, .inl az))]) (va_runV (As := []) (rest := []) ⟨hx, hb, hml, hown, hts⟩ (mX1_size l D H.size o1 t1 n) (cwV 0 hts (lw_V q124 q125 q126 q4 q127) rfl rfl rfl (by decide +kernel) ⟨(Nat.le_of_ble_eq_true rfl), (Nat.le_of_ble_eq_true rfl)⟩) (z_preV (q0 := 1) (ci := 0) rfl rfl hK hP hD hS hA hX [1] [] rfl (by decide) rfl (fun _ h9 => by cases h9) (fun _ h9 => by cases h9)) rfl rfl hl.1 rfl (lv_room (Nat.le_of_ble_eq_true rfl)) dX0_elder_94 ⟨(Nat.le_of_ble_eq_true rfl), (Nat.le_of_ble_eq_true rfl)⟩) hK hP hD hS hA [1] [0] rfl rfl (by decide) (by decide) (fun r_40 u_39 H locs h_41 _ hP hD hS => ?_)
    have hP : va_P D zCl [(t1, .inl (d1, 4096, .inl az)), (o1, .inr (0, [.ref t1, .int (nI n)]))] H := hP
    have hD : va_D A [(t1, .inl (d1, 4096, .inl az)), (o1, .inr (0, [.ref t1, .int (nI n)]))] := hD
    have h_41 : r_40 = nI n := h_41
    subst h_41
    refine lv_istore (lv' := [(5, .int (nI n)), (4, .int (sj_cell Ls xs 2)), (3, .int (sj_cell Ls xs 1)), (2, .int (sj_cell Ls xs 0)), (0, .ref bs), (1, .ref o1)]) hx hb dX0_elder_97 hl (by decide) rfl (fun ls hl => ?_)
    refine lv_aload_n hx hb dX0_elder_99 rfl (lv_at hl 4 rfl) ?_
    refine lv_iload hx hb dX0_elder_100 (lv_at hl 0 rfl) ?_
    refine z_gor (wr := [(t1, .inl (d1, 4096, .inl az)), (o1, .inr (0, [.ref t1, .int (nI n)]))]) (va_runS (As := [.ref bs, .int (nI n)]) (rest := []) ⟨hx, hb, hml, hown, hts⟩ (mX0_own l D H.size bs Ls xs n hL (by omega)) (va_cwS 2 hts (lw_S q128 q129 q3 q130) rfl rfl rfl (by decide +kernel) ⟨(Nat.le_of_ble_eq_true rfl), (Nat.le_of_ble_eq_true rfl)⟩) (z_pre hK hP hD hS hA hX [] [] rfl (by decide) rfl (fun _ h9 => by cases h9) (fun _ h9 => h9)) rfl rfl hl.1 rfl (lv_room (Nat.le_of_ble_eq_true rfl)) dX0_elder_102 ⟨(Nat.le_of_ble_eq_true rfl), (Nat.le_of_ble_eq_true rfl)⟩) hK hP hD hS hA [] [0, 1] rfl rfl (by decide) (by decide) (fun u_42 qa H locs ho hK hP hD hS => ?_)
    obtain ⟨dq, fl⟩ := u_42
    have hK : va_K D zCl [(d1, .byte), (dq, .long)] s := hK
    have hP : va_P D zCl [(t1, .inl (d1, 4096, .inl az)), (o1, .inr (0, [.ref t1, .int (nI n)])), (qa, .inl (dq, 2, .inr (.inl fl)))] H := hP
    have hD : va_D A [(t1, .inl (d1, 4096, .inl az)), (o1, .inr (0, [.ref t1, .int (nI n)])), (qa, .inl (dq, 2, .inr (.inl fl)))] := hD
    have ho : fl 0 = lN (sj_crc (sj_ot Ls xs) 0 n) ∧ fl 1 = lN (sj_adl (sj_ot Ls xs) 0 n) := ho
    refine lv_astore (lv' := [(6, .ref qa), (5, .int (nI n)), (4, .int (sj_cell Ls xs 2)), (3, .int (sj_cell Ls xs 1)), (2, .int (sj_cell Ls xs 0)), (0, .ref bs), (1, .ref o1)]) hx hb dX0_elder_105 hl (by decide) rfl (fun ls hl => ?_)
    refine lv_iload hx hb dX0_elder_107 (lv_at hl 1 rfl) ?_
    refine lv_aload_n hx hb dX0_elder_109 rfl (lv_at hl 5 rfl) ?_
    refine lv_iconst (v := nI 3) hx hb dX0_elder_110 (by rfl) ?_
    refine z_goi (wr := [(t1, .inl (d1, 4096, .inl az)), (o1, .inr (0, [.ref t1, .int (nI n)])), (qa, .inl (dq, 2, .inr (.inl fl)))]) (va_runS (As := [.ref bs, .int (nI 3)]) (rest := [.int (nI n)]) ⟨hx, hb, hml, hown, hts⟩ (mX0_cell l D H.size bs Ls xs 3 hL (by omega)) (va_cwS 2 hts (lw_S q121 q122 q3 q123) rfl rfl rfl (by decide +kernel) ⟨(Nat.le_of_ble_eq_true rfl), (Nat.le_of_ble_eq_true rfl)⟩) (z_pre hK hP hD hS hA hX [] [] rfl (by decide) rfl (fun _ h9 => by cases h9) (fun _ h9 => h9)) rfl rfl hl.1 rfl (lv_room (Nat.le_of_ble_eq_true rfl)) dX0_elder_111 ⟨(Nat.le_of_ble_eq_true rfl), (Nat.le_of_ble_eq_true rfl)⟩) hK hP hD hS hA [] [0, 1, 2] rfl rfl (by decide) (by decide) (fun r_44 u_43 H locs h_45 _ hP hD hS => ?_)
    have hP : va_P D zCl [(t1, .inl (d1, 4096, .inl az)), (o1, .inr (0, [.ref t1, .int (nI n)])), (qa, .inl (dq, 2, .inr (.inl fl)))] H := hP
    have hD : va_D A [(t1, .inl (d1, 4096, .inl az)), (o1, .inr (0, [.ref t1, .int (nI n)])), (qa, .inl (dq, 2, .inr (.inl fl)))] := hD
    have h_45 : r_44 = sj_cell Ls xs 3 := h_45
    subst h_45
    refine lv_ldc (v := 2147483647) hx hb hown (hts _ q134) dX0_elder_114 ?_
    refine lv_iand hx hb dX0_elder_116 ?_
    refine lv_topi (fun x_46 e_46 => ?_)
    have e_46 : x_46 = nI (sj_pos (sj_cell Ls xs 3)) := by refine e_46.trans ?_; exact zj_pos _
    subst e_46
    refine lv_sipush (v := nI 177) hx hb dX0_elder_117 (by decide +kernel) ?_
    refine lv_irem hx hb dX0_elder_120 (by decide +kernel) ?_
    refine lv_topi (fun x_47 e_47 => ?_)
    have e_47 : x_47 = nI n := by refine e_47.trans ?_; rw [← hn9]; exact pk_rem (sj_pos_lt _) (by decide) (by decide)
    subst e_47
    refine lv_icmp_ne (tgt := 154) hx hb dX0_elder_121 (by decide) (fun c0 => False.elim (by exact c0 rfl)) (fun c0 => ?_)
    refine lv_aload_n hx hb dX0_elder_124 rfl (lv_at hl 6 rfl) ?_
    refine lv_iconst (v := 0) hx hb dX0_elder_125 (by decide) ?_
    refine lv_iload hx hb dX0_elder_126 (lv_at hl 1 rfl) ?_
    refine z_gol (wr := [(qa, .inl (dq, 2, .inr (.inl fl)))]) (va_runV (As := [.int 0, .int (nI n)]) (rest := []) ⟨hx, hb, hml, hown, hts⟩ (mX1_crc l D H.size o1 t1 d1 t n az 0 (nI n) (by omega)) (cwV 2 hts (lw_V q29 q30 q31 q4 q32) rfl rfl rfl (by decide +kernel) ⟨(Nat.le_of_ble_eq_true rfl), (Nat.le_of_ble_eq_true rfl)⟩) (z_preV (q0 := 1) (ci := 0) rfl rfl hK hP hD hS hA hX [1, 0] [0] rfl (by decide) rfl (fun _ h9 => h9) (fun _ h9 => by cases h9)) rfl rfl hl.1 rfl (lv_room (Nat.le_of_ble_eq_true rfl)) dX0_elder_128 ⟨(Nat.le_of_ble_eq_true rfl), (Nat.le_of_ble_eq_true rfl)⟩) hK hP hD hS hA [1, 0] [2] rfl rfl (by decide) (by decide) (fun r_49 u_48 H locs h_50 _ hP hD hS => ?_)
    have hP : va_P D zCl [(qa, .inl (dq, 2, .inr (.inl fl))), (o1, .inr (0, [.ref t1, .int (nI n)])), (t1, .inl (d1, 4096, .inl az))] H := hP
    have hD : va_D A [(qa, .inl (dq, 2, .inr (.inl fl))), (o1, .inr (0, [.ref t1, .int (nI n)])), (t1, .inl (d1, 4096, .inl az))] := hD
    have h_50 : r_49 = lN (sj_crc (fun j => sj_by (az j)) (sj_pos 0 % (n + 1)) (sj_pos (nI n) % (n - sj_pos 0 % (n + 1) + 1))) := h_50
    subst h_50
    have v_51 : (lN (sj_crc (fun j => sj_by (az j)) (sj_pos 0 % (n + 1)) (sj_pos (nI n) % (n - sj_pos 0 % (n + 1) + 1)))) = lN (sj_crc (sj_ot Ls xs) 0 n) := by rw [sj_cn (by omega), sj_f0, sj_crc_congr (h := (sj_ot Ls xs)) (fun j h1 h2 => hJ j (by omega))]
    rw [v_51]
    refine lv_aload hx hb dX0_elder_131 (lv_at hl 0 rfl) ?_
    refine lv_iconst (v := 0) hx hb dX0_elder_133 (by decide) ?_
    refine va_lald hx hb hK hP 0 1 rfl rfl (pk_in 0 2 (by decide)) dX0_elder_134 ?_
    refine lv_topl (fun x_52 e_52 => ?_)
    have e_52 : x_52 = lN (sj_crc (sj_ot Ls xs) 0 n) := by refine e_52.trans ?_; exact ho.1
    subst e_52
    refine W.lcmp hx hb dX0_elder_135 ?_
    refine lv_if_ne (tgt := 154) hx hb dX0_elder_136 (by decide) (fun c0 => False.elim (by exact c0 ((zj_cmp0 _ _).mpr rfl))) (fun c0 => ?_)
    refine lv_aload_n hx hb dX0_elder_139 rfl (lv_at hl 6 rfl) ?_
    refine lv_iconst (v := 0) hx hb dX0_elder_140 (by decide) ?_
    refine lv_iload hx hb dX0_elder_141 (lv_at hl 1 rfl) ?_
    refine z_gol (wr := [(qa, .inl (dq, 2, .inr (.inl fl)))]) (va_runV (As := [.int 0, .int (nI n)]) (rest := []) ⟨hx, hb, hml, hown, hts⟩ (mX1_adler l D H.size o1 t1 d1 n az 0 (nI n) (by omega)) (cwV 2 hts (lw_V q88 q89 q90 q4 q91) rfl rfl rfl (by decide +kernel) ⟨(Nat.le_of_ble_eq_true rfl), (Nat.le_of_ble_eq_true rfl)⟩) (z_preV (q0 := 1) (ci := 0) rfl rfl hK hP hD hS hA hX [1, 2] [0] rfl (by decide) rfl (fun _ h9 => by cases h9) (fun _ h9 => by cases h9)) rfl rfl hl.1 rfl (lv_room (Nat.le_of_ble_eq_true rfl)) dX0_elder_143 ⟨(Nat.le_of_ble_eq_true rfl), (Nat.le_of_ble_eq_true rfl)⟩) hK hP hD hS hA [1, 2] [0] rfl rfl (by decide) (by decide) (fun r_54 u_53 H locs h_55 _ hP hD hS => ?_)
    have hP : va_P D zCl [(qa, .inl (dq, 2, .inr (.inl fl))), (o1, .inr (0, [.ref t1, .int (nI n)])), (t1, .inl (d1, 4096, .inl az))] H := hP
    have hD : va_D A [(qa, .inl (dq, 2, .inr (.inl fl))), (o1, .inr (0, [.ref t1, .int (nI n)])), (t1, .inl (d1, 4096, .inl az))] := hD
    have h_55 : r_54 = lN (sj_adl (fun j => sj_by (az j)) (sj_pos 0 % (n + 1)) (sj_pos (nI n) % (n - sj_pos 0 % (n + 1) + 1))) := h_55
    subst h_55
    have v_56 : (lN (sj_adl (fun j => sj_by (az j)) (sj_pos 0 % (n + 1)) (sj_pos (nI n) % (n - sj_pos 0 % (n + 1) + 1)))) = lN (sj_adl (sj_ot Ls xs) 0 n) := by rw [sj_cn (by omega), sj_f0, sj_adl_congr (h := (sj_ot Ls xs)) (fun j h1 h2 => hJ j (by omega))]
    rw [v_56]
    refine lv_aload hx hb dX0_elder_146 (lv_at hl 0 rfl) ?_
    refine lv_iconst (v := 1) hx hb dX0_elder_148 (by decide) ?_
    refine va_lald hx hb hK hP 0 1 rfl rfl (pk_in 1 2 (by decide)) dX0_elder_149 ?_
    refine lv_topl (fun x_57 e_57 => ?_)
    have e_57 : x_57 = lN (sj_adl (sj_ot Ls xs) 0 n) := by refine e_57.trans ?_; exact ho.2
    subst e_57
    refine W.lcmp hx hb dX0_elder_150 ?_
    refine lv_if_eq (tgt := 156) hx hb dX0_elder_151 (by decide) (fun c0 => ?_) (fun c0 => False.elim (by exact c0 ((zj_cmp0 _ _).mpr rfl)))
    refine lv_aload_n hx hb dX0_elder_156 rfl (lv_at hl 6 rfl) ?_
    refine lv_iload_n hx hb dX0_elder_157 rfl (lv_at hl 4 rfl) ?_
    refine lv_iload_n hx hb dX0_elder_158 rfl (lv_at hl 3 rfl) ?_
    refine lv_iload hx hb dX0_elder_159 (lv_at hl 2 rfl) ?_
    refine z_gol (wr := [(qa, .inl (dq, 2, .inr (.inl fl)))]) (va_runV (As := [.int (sj_cell Ls xs 0), .int (sj_cell Ls xs 1), .int (sj_cell Ls xs 2)]) (rest := []) ⟨hx, hb, hml, hown, hts⟩ (mX1_joinCrc l D H.size o1 t1 d1 t n az (sj_cell Ls xs 0) (sj_cell Ls xs 1) (sj_cell Ls xs 2) (by omega)) (cwV 3 hts (lw_V q135 q136 q137 q4 q138) rfl rfl rfl (by decide +kernel) ⟨(Nat.le_of_ble_eq_true rfl), (Nat.le_of_ble_eq_true rfl)⟩) (z_preV (q0 := 1) (ci := 0) rfl rfl hK hP hD hS hA hX [1, 2] [0] rfl (by decide) rfl (fun _ h9 => h9) (fun _ h9 => by cases h9)) rfl rfl hl.1 rfl (lv_room (Nat.le_of_ble_eq_true rfl)) dX0_elder_161 ⟨(Nat.le_of_ble_eq_true rfl), (Nat.le_of_ble_eq_true rfl)⟩) hK hP hD hS hA [1, 2] [0] rfl rfl (by decide) (by decide) (fun r_59 u_58 H locs h_60 _ hP hD hS => ?_)
    have hP : va_P D zCl [(qa, .inl (dq, 2, .inr (.inl fl))), (o1, .inr (0, [.ref t1, .int (nI n)])), (t1, .inl (d1, 4096, .inl az))] H := hP
    have hD : va_D A [(qa, .inl (dq, 2, .inr (.inl fl))), (o1, .inr (0, [.ref t1, .int (nI n)])), (t1, .inl (d1, 4096, .inl az))] := hD
    have h_60 : r_59 = lN (sj_crc (fun j => sj_by (az j)) (sj_pos (sj_cell Ls xs 0) % (n + 1)) (sj_pos (sj_cell Ls xs 1) % (n - sj_pos (sj_cell Ls xs 0) % (n + 1) + 1))) := h_60
    subst h_60
    refine lv_aload_n hx hb dX0_elder_164 rfl (lv_at hl 6 rfl) ?_
    refine lv_iload_n hx hb dX0_elder_165 rfl (lv_at hl 4 rfl) ?_
    refine lv_iload_n hx hb dX0_elder_166 rfl (lv_at hl 3 rfl) ?_
    refine z_gol (wr := [(qa, .inl (dq, 2, .inr (.inl fl)))]) (va_runV (As := [.int (sj_cell Ls xs 0), .int (sj_cell Ls xs 1)]) (rest := [.long (lN (sj_crc (fun j => sj_by (az j)) (sj_pos (sj_cell Ls xs 0) % (n + 1)) (sj_pos (sj_cell Ls xs 1) % (n - sj_pos (sj_cell Ls xs 0) % (n + 1) + 1))))]) ⟨hx, hb, hml, hown, hts⟩ (mX1_crc l D H.size o1 t1 d1 t n az (sj_cell Ls xs 0) (sj_cell Ls xs 1) (by omega)) (cwV 2 hts (lw_V q29 q30 q31 q4 q32) rfl rfl rfl (by decide +kernel) ⟨(Nat.le_of_ble_eq_true rfl), (Nat.le_of_ble_eq_true rfl)⟩) (z_preV (q0 := 1) (ci := 0) rfl rfl hK hP hD hS hA hX [1, 2] [0] rfl (by decide) rfl (fun _ h9 => h9) (fun _ h9 => by cases h9)) rfl rfl hl.1 rfl (lv_room (Nat.le_of_ble_eq_true rfl)) dX0_elder_167 ⟨(Nat.le_of_ble_eq_true rfl), (Nat.le_of_ble_eq_true rfl)⟩) hK hP hD hS hA [1, 2] [0] rfl rfl (by decide) (by decide) (fun r_62 u_61 H locs h_63 _ hP hD hS => ?_)
    have hP : va_P D zCl [(qa, .inl (dq, 2, .inr (.inl fl))), (o1, .inr (0, [.ref t1, .int (nI n)])), (t1, .inl (d1, 4096, .inl az))] H := hP
    have hD : va_D A [(qa, .inl (dq, 2, .inr (.inl fl))), (o1, .inr (0, [.ref t1, .int (nI n)])), (t1, .inl (d1, 4096, .inl az))] := hD
    have h_63 : r_62 = lN (sj_crc (fun j => sj_by (az j)) (sj_pos (sj_cell Ls xs 0) % (n + 1)) (sj_pos (sj_cell Ls xs 1) % (n - sj_pos (sj_cell Ls xs 0) % (n + 1) + 1))) := h_63
    subst h_63
    refine W.lcmp hx hb dX0_elder_170 ?_
    refine lv_if_ne (tgt := 236) hx hb dX0_elder_171 (by decide) (fun c0 => False.elim (by exact c0 ((zj_cmp0 _ _).mpr rfl))) (fun c0 => ?_)
    refine lv_aload_n hx hb dX0_elder_174 rfl (lv_at hl 6 rfl) ?_
    refine lv_iload_n hx hb dX0_elder_175 rfl (lv_at hl 4 rfl) ?_
    refine lv_iload_n hx hb dX0_elder_176 rfl (lv_at hl 3 rfl) ?_
    refine lv_iload hx hb dX0_elder_177 (lv_at hl 2 rfl) ?_
    refine z_gol (wr := [(qa, .inl (dq, 2, .inr (.inl fl)))]) (va_runV (As := [.int (sj_cell Ls xs 0), .int (sj_cell Ls xs 1), .int (sj_cell Ls xs 2)]) (rest := []) ⟨hx, hb, hml, hown, hts⟩ (mX1_joinAdler l D H.size o1 t1 d1 n az (sj_cell Ls xs 0) (sj_cell Ls xs 1) (sj_cell Ls xs 2) (by omega)) (cwV 3 hts (lw_V q113 q114 q115 q4 q116) rfl rfl rfl (by decide +kernel) ⟨(Nat.le_of_ble_eq_true rfl), (Nat.le_of_ble_eq_true rfl)⟩) (z_preV (q0 := 1) (ci := 0) rfl rfl hK hP hD hS hA hX [1, 2] [0] rfl (by decide) rfl (fun _ h9 => by cases h9) (fun _ h9 => by cases h9)) rfl rfl hl.1 rfl (lv_room (Nat.le_of_ble_eq_true rfl)) dX0_elder_179 ⟨(Nat.le_of_ble_eq_true rfl), (Nat.le_of_ble_eq_true rfl)⟩) hK hP hD hS hA [1, 2] [0] rfl rfl (by decide) (by decide) (fun r_65 u_64 H locs h_66 _ hP hD hS => ?_)
    have hP : va_P D zCl [(qa, .inl (dq, 2, .inr (.inl fl))), (o1, .inr (0, [.ref t1, .int (nI n)])), (t1, .inl (d1, 4096, .inl az))] H := hP
    have hD : va_D A [(qa, .inl (dq, 2, .inr (.inl fl))), (o1, .inr (0, [.ref t1, .int (nI n)])), (t1, .inl (d1, 4096, .inl az))] := hD
    have h_66 : r_65 = lN (sj_adl (fun j => sj_by (az j)) (sj_pos (sj_cell Ls xs 0) % (n + 1)) (sj_pos (sj_cell Ls xs 1) % (n - sj_pos (sj_cell Ls xs 0) % (n + 1) + 1))) := h_66
    subst h_66
    refine lv_aload_n hx hb dX0_elder_182 rfl (lv_at hl 6 rfl) ?_
    refine lv_iload_n hx hb dX0_elder_183 rfl (lv_at hl 4 rfl) ?_
    refine lv_iload_n hx hb dX0_elder_184 rfl (lv_at hl 3 rfl) ?_
    refine z_gol (wr := [(qa, .inl (dq, 2, .inr (.inl fl)))]) (va_runV (As := [.int (sj_cell Ls xs 0), .int (sj_cell Ls xs 1)]) (rest := [.long (lN (sj_adl (fun j => sj_by (az j)) (sj_pos (sj_cell Ls xs 0) % (n + 1)) (sj_pos (sj_cell Ls xs 1) % (n - sj_pos (sj_cell Ls xs 0) % (n + 1) + 1))))]) ⟨hx, hb, hml, hown, hts⟩ (mX1_adler l D H.size o1 t1 d1 n az (sj_cell Ls xs 0) (sj_cell Ls xs 1) (by omega)) (cwV 2 hts (lw_V q88 q89 q90 q4 q91) rfl rfl rfl (by decide +kernel) ⟨(Nat.le_of_ble_eq_true rfl), (Nat.le_of_ble_eq_true rfl)⟩) (z_preV (q0 := 1) (ci := 0) rfl rfl hK hP hD hS hA hX [1, 2] [0] rfl (by decide) rfl (fun _ h9 => by cases h9) (fun _ h9 => by cases h9)) rfl rfl hl.1 rfl (lv_room (Nat.le_of_ble_eq_true rfl)) dX0_elder_185 ⟨(Nat.le_of_ble_eq_true rfl), (Nat.le_of_ble_eq_true rfl)⟩) hK hP hD hS hA [1, 2] [0] rfl rfl (by decide) (by decide) (fun r_68 u_67 H locs h_69 _ hP hD hS => ?_)
    have hP : va_P D zCl [(qa, .inl (dq, 2, .inr (.inl fl))), (o1, .inr (0, [.ref t1, .int (nI n)])), (t1, .inl (d1, 4096, .inl az))] H := hP
    have hD : va_D A [(qa, .inl (dq, 2, .inr (.inl fl))), (o1, .inr (0, [.ref t1, .int (nI n)])), (t1, .inl (d1, 4096, .inl az))] := hD
    have h_69 : r_68 = lN (sj_adl (fun j => sj_by (az j)) (sj_pos (sj_cell Ls xs 0) % (n + 1)) (sj_pos (sj_cell Ls xs 1) % (n - sj_pos (sj_cell Ls xs 0) % (n + 1) + 1))) := h_69
    subst h_69
    refine W.lcmp hx hb dX0_elder_188 ?_
    refine lv_if_ne (tgt := 236) hx hb dX0_elder_189 (by decide) (fun c0 => False.elim (by exact c0 ((zj_cmp0 _ _).mpr rfl))) (fun c0 => ?_)
    refine lv_aload_n hx hb dX0_elder_192 rfl (lv_at hl 6 rfl) ?_
    refine lv_iconst (v := 0) hx hb dX0_elder_193 (by decide) ?_
    refine lv_iload hx hb dX0_elder_194 (lv_at hl 1 rfl) ?_
    refine lv_iload hx hb dX0_elder_196 (lv_at hl 2 rfl) ?_
    refine z_gol (wr := [(qa, .inl (dq, 2, .inr (.inl fl)))]) (va_runV (As := [.int 0, .int (nI n), .int (sj_cell Ls xs 2)]) (rest := []) ⟨hx, hb, hml, hown, hts⟩ (mX1_joinCrc l D H.size o1 t1 d1 t n az 0 (nI n) (sj_cell Ls xs 2) (by omega)) (cwV 3 hts (lw_V q135 q136 q137 q4 q138) rfl rfl rfl (by decide +kernel) ⟨(Nat.le_of_ble_eq_true rfl), (Nat.le_of_ble_eq_true rfl)⟩) (z_preV (q0 := 1) (ci := 0) rfl rfl hK hP hD hS hA hX [1, 2] [0] rfl (by decide) rfl (fun _ h9 => h9) (fun _ h9 => by cases h9)) rfl rfl hl.1 rfl (lv_room (Nat.le_of_ble_eq_true rfl)) dX0_elder_198 ⟨(Nat.le_of_ble_eq_true rfl), (Nat.le_of_ble_eq_true rfl)⟩) hK hP hD hS hA [1, 2] [0] rfl rfl (by decide) (by decide) (fun r_71 u_70 H locs h_72 _ hP hD hS => ?_)
    have hP : va_P D zCl [(qa, .inl (dq, 2, .inr (.inl fl))), (o1, .inr (0, [.ref t1, .int (nI n)])), (t1, .inl (d1, 4096, .inl az))] H := hP
    have hD : va_D A [(qa, .inl (dq, 2, .inr (.inl fl))), (o1, .inr (0, [.ref t1, .int (nI n)])), (t1, .inl (d1, 4096, .inl az))] := hD
    have h_72 : r_71 = lN (sj_crc (fun j => sj_by (az j)) (sj_pos 0 % (n + 1)) (sj_pos (nI n) % (n - sj_pos 0 % (n + 1) + 1))) := h_72
    subst h_72
    refine lv_aload_n hx hb dX0_elder_201 rfl (lv_at hl 6 rfl) ?_
    refine lv_iconst (v := 0) hx hb dX0_elder_202 (by decide) ?_
    refine lv_iload hx hb dX0_elder_203 (lv_at hl 1 rfl) ?_
    refine z_gol (wr := [(qa, .inl (dq, 2, .inr (.inl fl)))]) (va_runV (As := [.int 0, .int (nI n)]) (rest := [.long (lN (sj_crc (fun j => sj_by (az j)) (sj_pos 0 % (n + 1)) (sj_pos (nI n) % (n - sj_pos 0 % (n + 1) + 1))))]) ⟨hx, hb, hml, hown, hts⟩ (mX1_crc l D H.size o1 t1 d1 t n az 0 (nI n) (by omega)) (cwV 2 hts (lw_V q29 q30 q31 q4 q32) rfl rfl rfl (by decide +kernel) ⟨(Nat.le_of_ble_eq_true rfl), (Nat.le_of_ble_eq_true rfl)⟩) (z_preV (q0 := 1) (ci := 0) rfl rfl hK hP hD hS hA hX [1, 2] [0] rfl (by decide) rfl (fun _ h9 => h9) (fun _ h9 => by cases h9)) rfl rfl hl.1 rfl (lv_room (Nat.le_of_ble_eq_true rfl)) dX0_elder_205 ⟨(Nat.le_of_ble_eq_true rfl), (Nat.le_of_ble_eq_true rfl)⟩) hK hP hD hS hA [1, 2] [0] rfl rfl (by decide) (by decide) (fun r_74 u_73 H locs h_75 _ hP hD hS => ?_)
    have hP : va_P D zCl [(qa, .inl (dq, 2, .inr (.inl fl))), (o1, .inr (0, [.ref t1, .int (nI n)])), (t1, .inl (d1, 4096, .inl az))] H := hP
    have hD : va_D A [(qa, .inl (dq, 2, .inr (.inl fl))), (o1, .inr (0, [.ref t1, .int (nI n)])), (t1, .inl (d1, 4096, .inl az))] := hD
    have h_75 : r_74 = lN (sj_crc (fun j => sj_by (az j)) (sj_pos 0 % (n + 1)) (sj_pos (nI n) % (n - sj_pos 0 % (n + 1) + 1))) := h_75
    subst h_75
    refine W.lcmp hx hb dX0_elder_208 ?_
    refine lv_if_ne (tgt := 236) hx hb dX0_elder_209 (by decide) (fun c0 => False.elim (by exact c0 ((zj_cmp0 _ _).mpr rfl))) (fun c0 => ?_)
    refine lv_aload_n hx hb dX0_elder_212 rfl (lv_at hl 6 rfl) ?_
    refine lv_iconst (v := 0) hx hb dX0_elder_213 (by decide) ?_
    refine lv_iload hx hb dX0_elder_214 (lv_at hl 1 rfl) ?_
    refine lv_iload hx hb dX0_elder_216 (lv_at hl 2 rfl) ?_
    refine z_gol (wr := [(qa, .inl (dq, 2, .inr (.inl fl)))]) (va_runV (As := [.int 0, .int (nI n), .int (sj_cell Ls xs 2)]) (rest := []) ⟨hx, hb, hml, hown, hts⟩ (mX1_joinAdler l D H.size o1 t1 d1 n az 0 (nI n) (sj_cell Ls xs 2) (by omega)) (cwV 3 hts (lw_V q113 q114 q115 q4 q116) rfl rfl rfl (by decide +kernel) ⟨(Nat.le_of_ble_eq_true rfl), (Nat.le_of_ble_eq_true rfl)⟩) (z_preV (q0 := 1) (ci := 0) rfl rfl hK hP hD hS hA hX [1, 2] [0] rfl (by decide) rfl (fun _ h9 => by cases h9) (fun _ h9 => by cases h9)) rfl rfl hl.1 rfl (lv_room (Nat.le_of_ble_eq_true rfl)) dX0_elder_218 ⟨(Nat.le_of_ble_eq_true rfl), (Nat.le_of_ble_eq_true rfl)⟩) hK hP hD hS hA [1, 2] [0] rfl rfl (by decide) (by decide) (fun r_77 u_76 H locs h_78 _ hP hD hS => ?_)
    have hP : va_P D zCl [(qa, .inl (dq, 2, .inr (.inl fl))), (o1, .inr (0, [.ref t1, .int (nI n)])), (t1, .inl (d1, 4096, .inl az))] H := hP
    have hD : va_D A [(qa, .inl (dq, 2, .inr (.inl fl))), (o1, .inr (0, [.ref t1, .int (nI n)])), (t1, .inl (d1, 4096, .inl az))] := hD
    have h_78 : r_77 = lN (sj_adl (fun j => sj_by (az j)) (sj_pos 0 % (n + 1)) (sj_pos (nI n) % (n - sj_pos 0 % (n + 1) + 1))) := h_78
    subst h_78
    refine lv_aload_n hx hb dX0_elder_221 rfl (lv_at hl 6 rfl) ?_
    refine lv_iconst (v := 0) hx hb dX0_elder_222 (by decide) ?_
    refine lv_iload hx hb dX0_elder_223 (lv_at hl 1 rfl) ?_
    refine z_gol (wr := [(qa, .inl (dq, 2, .inr (.inl fl)))]) (va_runV (As := [.int 0, .int (nI n)]) (rest := [.long (lN (sj_adl (fun j => sj_by (az j)) (sj_pos 0 % (n + 1)) (sj_pos (nI n) % (n - sj_pos 0 % (n + 1) + 1))))]) ⟨hx, hb, hml, hown, hts⟩ (mX1_adler l D H.size o1 t1 d1 n az 0 (nI n) (by omega)) (cwV 2 hts (lw_V q88 q89 q90 q4 q91) rfl rfl rfl (by decide +kernel) ⟨(Nat.le_of_ble_eq_true rfl), (Nat.le_of_ble_eq_true rfl)⟩) (z_preV (q0 := 1) (ci := 0) rfl rfl hK hP hD hS hA hX [1, 2] [0] rfl (by decide) rfl (fun _ h9 => by cases h9) (fun _ h9 => by cases h9)) rfl rfl hl.1 rfl (lv_room (Nat.le_of_ble_eq_true rfl)) dX0_elder_225 ⟨(Nat.le_of_ble_eq_true rfl), (Nat.le_of_ble_eq_true rfl)⟩) hK hP hD hS hA [1, 2] [0] rfl rfl (by decide) (by decide) (fun r_80 u_79 H locs h_81 _ hP hD hS => ?_)
    have hP : va_P D zCl [(qa, .inl (dq, 2, .inr (.inl fl))), (o1, .inr (0, [.ref t1, .int (nI n)])), (t1, .inl (d1, 4096, .inl az))] H := hP
    have hD : va_D A [(qa, .inl (dq, 2, .inr (.inl fl))), (o1, .inr (0, [.ref t1, .int (nI n)])), (t1, .inl (d1, 4096, .inl az))] := hD
    have h_81 : r_80 = lN (sj_adl (fun j => sj_by (az j)) (sj_pos 0 % (n + 1)) (sj_pos (nI n) % (n - sj_pos 0 % (n + 1) + 1))) := h_81
    subst h_81
    refine W.lcmp hx hb dX0_elder_228 ?_
    refine lv_if_ne (tgt := 236) hx hb dX0_elder_229 (by decide) (fun c0 => False.elim (by exact c0 ((zj_cmp0 _ _).mpr rfl))) (fun c0 => ?_)
    refine lv_iconst (v := 1) hx hb dX0_elder_232 (by decide) ?_
    refine lv_goto (tgt := 237) hx hb dX0_elder_233 (by decide) ?_
    have hP9 := hP.sub (ws' := []) [] rfl
    have hD9 := hD.sub (ws' := []) [] (by decide) rfl
    have hK9 := hK.sub (tys' := []) [] rfl
    exact W.zret (v := 1) hx hb hr rfl (fun t ht hW => ⟨⟨1, (), rfl, rfl, by rw [ht]; exact hP9, va_K.moved hW.alike hK9, hD9⟩, hS.F ht⟩) hS.2.2 dX0_elder_237
  · skip
    have hi9 : i < 11 := by have h9 : ¬ 48 ≤ 4 + 4 * i := fun h => c0 (nI_le (a := 48) h (by omega)); omega
    refine lv_aload_n hx hb dX0_elder_24 rfl (lv_at hl 1 rfl) ?_
    refine lv_aload_n hx hb dX0_elder_25 rfl (lv_at hl 0 rfl) ?_
    refine lv_iload_n hx hb dX0_elder_26 rfl (lv_at hl 2 rfl) ?_
    refine z_goi (wr := [(o1, .inr (0, [.ref t1, .int (nI (16 * i))])), (t1, .inl (d1, 4096, .inl az))]) (va_runS (As := [.ref bs, .int (nI (4 + 4 * i))]) (rest := [.ref o1]) ⟨hx, hb, hml, hown, hts⟩ (mX0_cell l D H.size bs Ls xs (4 + 4 * i) hL (by omega)) (va_cwS 2 hts (lw_S q121 q122 q3 q123) rfl rfl rfl (by decide +kernel) ⟨(Nat.le_of_ble_eq_true rfl), (Nat.le_of_ble_eq_true rfl)⟩) (z_pre hK hP hD hS hA hX [] [] rfl (by decide) rfl (fun _ h9 => by cases h9) (fun _ h9 => h9)) rfl rfl hl.1 rfl (lv_room (Nat.le_of_ble_eq_true rfl)) dX0_elder_27 ⟨(Nat.le_of_ble_eq_true rfl), (Nat.le_of_ble_eq_true rfl)⟩) hK hP hD hS hA [] [0, 1] rfl rfl (by decide) (by decide) (fun r_8 u_7 H locs h_9 _ hP hD hS => ?_)
    have hP : va_P D zCl [(o1, .inr (0, [.ref t1, .int (nI (16 * i))])), (t1, .inl (d1, 4096, .inl az))] H := hP
    have hD : va_D A [(o1, .inr (0, [.ref t1, .int (nI (16 * i))])), (t1, .inl (d1, 4096, .inl az))] := hD
    have h_9 : r_8 = sj_cell Ls xs (4 + 4 * i) := h_9
    subst h_9
    refine lv_aload_n hx hb dX0_elder_30 rfl (lv_at hl 0 rfl) ?_
    refine lv_iload_n hx hb dX0_elder_31 rfl (lv_at hl 2 rfl) ?_
    refine lv_iconst (v := 1) hx hb dX0_elder_32 (by decide) ?_
    refine lv_iadd hx hb dX0_elder_33 ?_
    refine lv_topi (fun x_10 e_10 => ?_)
    have e_10 : x_10 = nI (4 + 4 * i + 1) := by refine e_10.trans ?_; exact nI_add _ 1
    subst e_10
    refine z_goi (wr := [(o1, .inr (0, [.ref t1, .int (nI (16 * i))])), (t1, .inl (d1, 4096, .inl az))]) (va_runS (As := [.ref bs, .int (nI (4 + 4 * i + 1))]) (rest := [.int (sj_cell Ls xs (4 + 4 * i)), .ref o1]) ⟨hx, hb, hml, hown, hts⟩ (mX0_cell l D H.size bs Ls xs (4 + 4 * i + 1) hL (by omega)) (va_cwS 2 hts (lw_S q121 q122 q3 q123) rfl rfl rfl (by decide +kernel) ⟨(Nat.le_of_ble_eq_true rfl), (Nat.le_of_ble_eq_true rfl)⟩) (z_pre hK hP hD hS hA hX [] [] rfl (by decide) rfl (fun _ h9 => by cases h9) (fun _ h9 => h9)) rfl rfl hl.1 rfl (lv_room (Nat.le_of_ble_eq_true rfl)) dX0_elder_34 ⟨(Nat.le_of_ble_eq_true rfl), (Nat.le_of_ble_eq_true rfl)⟩) hK hP hD hS hA [] [0, 1] rfl rfl (by decide) (by decide) (fun r_12 u_11 H locs h_13 _ hP hD hS => ?_)
    have hP : va_P D zCl [(o1, .inr (0, [.ref t1, .int (nI (16 * i))])), (t1, .inl (d1, 4096, .inl az))] H := hP
    have hD : va_D A [(o1, .inr (0, [.ref t1, .int (nI (16 * i))])), (t1, .inl (d1, 4096, .inl az))] := hD
    have h_13 : r_12 = sj_cell Ls xs (4 + 4 * i + 1) := h_13
    subst h_13
    refine lv_aload_n hx hb dX0_elder_37 rfl (lv_at hl 0 rfl) ?_
    refine lv_iload_n hx hb dX0_elder_38 rfl (lv_at hl 2 rfl) ?_
    refine lv_iconst (v := 2) hx hb dX0_elder_39 (by decide) ?_
    refine lv_iadd hx hb dX0_elder_40 ?_
    refine lv_topi (fun x_14 e_14 => ?_)
    have e_14 : x_14 = nI (4 + 4 * i + 2) := by refine e_14.trans ?_; exact nI_add _ 2
    subst e_14
    refine z_goi (wr := [(o1, .inr (0, [.ref t1, .int (nI (16 * i))])), (t1, .inl (d1, 4096, .inl az))]) (va_runS (As := [.ref bs, .int (nI (4 + 4 * i + 2))]) (rest := [.int (sj_cell Ls xs (4 + 4 * i + 1)), .int (sj_cell Ls xs (4 + 4 * i)), .ref o1]) ⟨hx, hb, hml, hown, hts⟩ (mX0_cell l D H.size bs Ls xs (4 + 4 * i + 2) hL (by omega)) (va_cwS 2 hts (lw_S q121 q122 q3 q123) rfl rfl rfl (by decide +kernel) ⟨(Nat.le_of_ble_eq_true rfl), (Nat.le_of_ble_eq_true rfl)⟩) (z_pre hK hP hD hS hA hX [] [] rfl (by decide) rfl (fun _ h9 => by cases h9) (fun _ h9 => h9)) rfl rfl hl.1 rfl (lv_room (Nat.le_of_ble_eq_true rfl)) dX0_elder_41 ⟨(Nat.le_of_ble_eq_true rfl), (Nat.le_of_ble_eq_true rfl)⟩) hK hP hD hS hA [] [0, 1] rfl rfl (by decide) (by decide) (fun r_16 u_15 H locs h_17 _ hP hD hS => ?_)
    have hP : va_P D zCl [(o1, .inr (0, [.ref t1, .int (nI (16 * i))])), (t1, .inl (d1, 4096, .inl az))] H := hP
    have hD : va_D A [(o1, .inr (0, [.ref t1, .int (nI (16 * i))])), (t1, .inl (d1, 4096, .inl az))] := hD
    have h_17 : r_16 = sj_cell Ls xs (4 + 4 * i + 2) := h_17
    subst h_17
    refine lv_aload_n hx hb dX0_elder_44 rfl (lv_at hl 0 rfl) ?_
    refine lv_iload_n hx hb dX0_elder_45 rfl (lv_at hl 2 rfl) ?_
    refine lv_iconst (v := 3) hx hb dX0_elder_46 (by decide) ?_
    refine lv_iadd hx hb dX0_elder_47 ?_
    refine lv_topi (fun x_18 e_18 => ?_)
    have e_18 : x_18 = nI (4 + 4 * i + 3) := by refine e_18.trans ?_; exact nI_add _ 3
    subst e_18
    refine z_goi (wr := [(o1, .inr (0, [.ref t1, .int (nI (16 * i))])), (t1, .inl (d1, 4096, .inl az))]) (va_runS (As := [.ref bs, .int (nI (4 + 4 * i + 3))]) (rest := [.int (sj_cell Ls xs (4 + 4 * i + 2)), .int (sj_cell Ls xs (4 + 4 * i + 1)), .int (sj_cell Ls xs (4 + 4 * i)), .ref o1]) ⟨hx, hb, hml, hown, hts⟩ (mX0_cell l D H.size bs Ls xs (4 + 4 * i + 3) hL (by omega)) (va_cwS 2 hts (lw_S q121 q122 q3 q123) rfl rfl rfl (by decide +kernel) ⟨(Nat.le_of_ble_eq_true rfl), (Nat.le_of_ble_eq_true rfl)⟩) (z_pre hK hP hD hS hA hX [] [] rfl (by decide) rfl (fun _ h9 => by cases h9) (fun _ h9 => h9)) rfl rfl hl.1 rfl (lv_room (Nat.le_of_ble_eq_true rfl)) dX0_elder_48 ⟨(Nat.le_of_ble_eq_true rfl), (Nat.le_of_ble_eq_true rfl)⟩) hK hP hD hS hA [] [0, 1] rfl rfl (by decide) (by decide) (fun r_20 u_19 H locs h_21 _ hP hD hS => ?_)
    have hP : va_P D zCl [(o1, .inr (0, [.ref t1, .int (nI (16 * i))])), (t1, .inl (d1, 4096, .inl az))] H := hP
    have hD : va_D A [(o1, .inr (0, [.ref t1, .int (nI (16 * i))])), (t1, .inl (d1, 4096, .inl az))] := hD
    have h_21 : r_20 = sj_cell Ls xs (4 + 4 * i + 3) := h_21
    subst h_21
    refine z_goi (wr := []) (va_runV (As := [.int (sj_cell Ls xs (4 + 4 * i)), .int (sj_cell Ls xs (4 + 4 * i + 1)), .int (sj_cell Ls xs (4 + 4 * i + 2)), .int (sj_cell Ls xs (4 + 4 * i + 3))]) (rest := []) ⟨hx, hb, hml, hown, hts⟩ (mX1_put l D H.size o1 t1 d1 (16 * i) az (sj_cell Ls xs (4 + 4 * i)) (sj_cell Ls xs (4 + 4 * i + 1)) (sj_cell Ls xs (4 + 4 * i + 2)) (sj_cell Ls xs (4 + 4 * i + 3)) (by omega)) (cwV 4 hts (lw_V q95 q96 q97 q4 q98) rfl rfl rfl (by decide +kernel) ⟨(Nat.le_of_ble_eq_true rfl), (Nat.le_of_ble_eq_true rfl)⟩) (z_preV (q0 := 0) (ci := 0) rfl rfl hK hP hD hS hA hX [0, 1] [0] rfl (by decide) rfl (fun _ h9 => by cases h9) (fun _ h9 => by cases h9)) rfl rfl hl.1 rfl (lv_room (Nat.le_of_ble_eq_true rfl)) dX0_elder_51 ⟨(Nat.le_of_ble_eq_true rfl), (Nat.le_of_ble_eq_true rfl)⟩) hK hP hD hS hA [0, 1] [] rfl rfl (by decide) (by decide) (fun r_23 u_22 H locs hb3P _ hP hD hS => ?_)
    obtain ⟨b3, rfl⟩ : ∃ z, z = u_22 := ⟨_, rfl⟩
    have hP : va_P D zCl [(o1, .inr (0, [.ref t1, .int (nI ((16 * i) + 16))])), (t1, .inl (d1, 4096, .inl b3))] H := hP
    have hD : va_D A [(o1, .inr (0, [.ref t1, .int (nI ((16 * i) + 16))])), (t1, .inl (d1, 4096, .inl b3))] := hD
    have hb3P : r_23 = 1 ∧ ∀ j, sj_by (b3 j) = sj_pt (fun j => sj_by (az j)) (16 * i) (sj_cell Ls xs (4 + 4 * i)) (sj_cell Ls xs (4 + 4 * i + 1)) (sj_cell Ls xs (4 + 4 * i + 2)) (sj_cell Ls xs (4 + 4 * i + 3)) j := hb3P
    obtain ⟨hb3r, hb3⟩ := hb3P
    subst hb3r
    refine lv_if_ne (tgt := 59) hx hb dX0_elder_54 (by decide) (fun c1 => ?_) (fun c1 => False.elim (by exact absurd c1 (by decide)))
    refine lv_iinc (v := nI (4 + 4 * (i + 1))) (lv' := [(2, .int (nI (4 + 4 * (i + 1)))), (0, .ref bs), (1, .ref o1)]) hx hb dX0_elder_59 hl (k := 2) rfl (by exact nI_add (4 + 4 * i) 4) (by decide) rfl (fun ls hl => ?_)
    refine lv_goto (tgt := 18) hx hb dX0_elder_62 (by decide) ?_
    rw [show ((16 * i) + 16) = (16 * (i + 1)) by omega] at hP hD
    have hP : va_P D zCl [(o1, .inr (0, [.ref t1, .int (nI (16 * (i + 1)))])), (t1, .inl (d1, 4096, .inl b3))] H := hP
    have hD : va_D A [(o1, .inr (0, [.ref t1, .int (nI (16 * (i + 1)))])), (t1, .inl (d1, 4096, .inl b3))] := hD
    refine W.widen (k := 15) (n := 16404) (Nat.le_of_ble_eq_true rfl) (Nat.le_of_ble_eq_true rfl) ?_
    exact ih (by omega) b3 H locs ls ⟨hP.sub (ws' := [(o1, .inr (0, [.ref t1, .int (nI (16 * (i + 1)))])), (t1, .inl (d1, 4096, .inl b3))]) [0, 1] rfl, hD.sub (ws' := [(o1, .inr (0, [.ref t1, .int (nI (16 * (i + 1)))])), (t1, .inl (d1, 4096, .inl b3))]) [0, 1] (by decide) rfl, hS, lv_sub (l' := [(0, .ref bs), (1, .ref o1), (2, .int (nI (4 + 4 * (i + 1))))]) hl [1, 2, 0] rfl, fun j hj => by by_cases h : j < 16 * i; (rw [hb3, sj_pt_out _ _ _ _ _ _ _ (Or.inl h)]; exact hJ j h); (rw [hb3, sj_pt_in _ _ _ _ _ _ _ (by omega) (by omega), sj_w4_f (sj_cell Ls xs) (4 + 4 * i) _ (by omega), show 4 + 4 * i + (j - 16 * i) / 4 = 4 + j / 4 by omega, show (j - 16 * i) % 4 = j % 4 by omega]; rfl)⟩
end
section
/-! ARRAYS OF ARRAYS: rows; THE LAW: askedPut, askedDefined -/
section ZAA
variable {p : Program} {l : Launch} {e : Env} {R : Room} {s : State} {m : MethodId} {args : Array Value} {below : List Frame} {meth : Method} {c : Code} {H : Heap} {locs : List Loc} {cells slots : Nat} {Q : State → Prop}
variable {cc : ByteArray} {pc : Nat} {ls : Array Slot} {rest : List Value} {D : va_G} {A : Nat → Prop} {a : Nat} {tys : List (ClassId × FieldType)} {ws : va_W} {H0 : Heap}
theorem zA_ld (hexec : p.tables.exec = Jvm.exec) (hb : c.code = cc) (hK : va_K D zCl tys s) (hP : va_P D zCl ws H) (q0 t0 : Nat) {cA : ClassId} {n : Nat} {f : Nat → Option Nat} (ha : ws[q0]? = some (a, .inl (cA, n, .inr (.inr (.inr (.inr f)))))) (ht : tys[t0]? = some (cA, .array .int)) {i : Int32} (hin : vp_in i n) (hdg : decode cc pc = .ok (.aaload, 1))
    (kk : W p l e R s m args below meth c H locs cells slots Q (F0 m (pc + 1) ls (va_rf (f i.toNatClampNeg) :: rest))) : W p l e R s m args below meth c H locs cells slots Q (F0 m pc ls (.int i :: .ref a :: rest)) := by
  have hlt : i.toNatClampNeg < n := Nat.not_le.mp fun q => hin (Or.inr q)
  exact W.aald (v := va_rf (f i.toNatClampNeg)) (ty := .array .int) hexec hb (hP q0 _ ha) ((hK.2 t0 _ ht).1 n (fun j => va_rf (f j))) rfl (fun q => by cases q) (by show ¬ (i < 0 ∨ (arrV _ _ _).slots.size ≤ _); rw [arrV_size]; exact hin) (by show (arrV _ _ _).slots[_]? = _; rw [arrV_read _ _ hlt]) rfl rfl hdg kk
theorem zA_RA {s : State} {cA : ClassId} (h : s.vm.findClass ("[" ++ (FieldType.array FieldType.int).toString) = some cA) : va_RA s cA (.array .int) := h
theorem zA_asg (vm : Vm) (c : ClassId) : vm.assignable c c = true := by
  unfold Vm.assignable
  rw [show (256 : Nat) = 255 + 1 from rfl, Vm.assignableAux]
  simp only [beq_self_eq_true, Bool.true_or]
/-- what is known of an int[][] -/
def zA_C (s : State) (cA : ClassId) : Prop := ∃ (kA : Class) (comp : ClassId), s.vm.classes[cA]? = some kA ∧ kA.kind = .array comp (.array .int) ∧ s.vm.findClass "[I" = some comp
theorem zA_name : (FieldType.array FieldType.int).toString = "[I" := by decide +kernel
theorem zA_new (hexec : p.tables.exec = Jvm.exec) (hb : c.code = cc) {own : String} {index : Nat} (hown : s.vm.findClass own = some m.cls) (hclink : (Cond.classLink own index "[I").before args s = true) (hover : zA_O s) (hK : va_K D zCl tys s) (hP : va_P D zCl ws H) (hD : va_D A ws) (hS : va_S A H0 H locs) (hA : ∀ q, H0.size ≤ q → A q)
    {n : Int32} {N' : Nat} (hn : ¬ n < 0) (hN : n.toNatClampNeg = N') (hbytes : N' * 4 ≤ 536870912) (hcells : cells + 1 ≤ R.cells) (hslots : slots + N' ≤ R.slots) (hdg : decode cc pc = .ok (.anewarray index, 3))
    (kk : ∀ (q : Nat) (cA : ClassId) (H1 : Heap), zA_C s cA → va_K D zCl (tys ++ [(cA, .array .int)]) s → va_P D zCl (ws ++ [(q, .inl (cA, N', .inr (.inr (.inr (.inr (fun _ => none))))))]) H1 → va_D A (ws ++ [(q, .inl (cA, N', .inr (.inr (.inr (.inr (fun _ => none))))))]) → va_S A H0 H1 locs →
      W p l e R s m args below meth c H1 locs (cells + 1) (slots + N') Q (F0 m (pc + 3) ls (.ref q :: rest))) : W p l e R s m args below meth c H locs cells slots Q (F0 m pc ls (.int n :: rest)) := by
  subst hN
  refine W.anewA (t := .int) hexec hb hown (by rw [zA_name]; exact hclink) (hover _) rfl hdg rfl hn hbytes hcells hslots fun cA kA comp f1 f2 f3 f4 => ?_
  rw [zA_name] at f4
  generalize hH1 : H.push ({ cls := cA, slots := Array.replicate n.toNatClampNeg .null, vm := .none } : Cell) = H1
  have e1 : H1[H.size]? = some (arrV cA n.toNatClampNeg (fun _ => .null)) := by rw [← hH1, Array.getElem?_push_size, ← arrV_new]
  have z1 : H1.size = H.size + 1 := by rw [← hH1, Array.size_push]
  have o1 : ∀ q : Nat, q < H.size → H1[q]? = H[q]? := fun q hq => by rw [← hH1, Array.getElem?_push, if_neg (Nat.ne_of_lt hq)]
  have hk : ∀ (k : Nat) (x : Nat × va_E), ws[k]? = some x → H1[x.1]? = H[x.1]? := fun k x hx => o1 x.1 ((hP k x hx).lt)
  have hKn : va_K D zCl [(cA, .array .int)] s := ⟨hK.1, fun k x hx => by
    have hz : k < 1 := (List.getElem?_eq_some_iff.mp hx).1
    rw [show k = 0 by omega] at hx
    cases hx
    exact ⟨fun N z => ⟨(fun k h => by cases h), kA, f2, comp, f3⟩, zA_RA f1⟩⟩
  refine kk H.size cA H1 ⟨kA, comp, f2, f3, f4⟩ (hK.app hKn) ((hP.kept hk).app (fun k x hx => ?_)) (hD.push hP rfl (hA _ hS.1)) ⟨Nat.le_trans hS.1 (by omega), fun x h1 h2 => (o1 x (Nat.lt_of_lt_of_le h1 hS.1)).trans (hS.2.1 x h1 h2), hS.2.2⟩
  have hz : k < 1 := (List.getElem?_eq_some_iff.mp hx).1
  rw [show k = 0 by omega] at hx
  cases hx
  show H1[H.size]? = some (vp_cell _ _)
  rw [vp_cell_q]
  exact e1
theorem zA_st (hexec : p.tables.exec = Jvm.exec) (hb : c.code = cc) (hK : va_K D zCl tys s) (hP : va_P D zCl ws H) (hD : va_D A ws) (hS : va_S A H0 H locs) (q0 qk tk : Nat) {cA cV : ClassId} {n v : Nat} {x : vp_A} {f : Nat → Option Nat} (hC : zA_C s cA) (ha : ws[q0]? = some (a, .inl (cA, n, .inr (.inr (.inr (.inr f)))))) (hv : ws[qk]? = some (v, .inl (cV, x))) (htk : tys[tk]? = some (cV, .int)) {i : Int32} (hin : vp_in i n) (hdg : decode cc pc = .ok (.aastore, 1))
    (kk : ∀ (H1 : Heap) (locs1 : List Loc), va_P D zCl (ws.set q0 (a, .inl (cA, n, .inr (.inr (.inr (.inr (va_up f i.toNatClampNeg (some v)))))))) H1 → va_D A (ws.set q0 (a, .inl (cA, n, .inr (.inr (.inr (.inr (va_up f i.toNatClampNeg (some v)))))))) → va_S A H0 H1 locs1 → W p l e R s m args below meth c H1 locs1 cells slots Q (F0 m (pc + 1) ls rest)) : W p l e R s m args below meth c H locs cells slots Q (F0 m pc ls (.ref v :: .int i :: .ref a :: rest)) := by
  have hlt : i.toNatClampNeg < n := Nat.not_le.mp fun q => hin (Or.inr q)
  have h0 : ¬ i < 0 := fun q => hin (Or.inl q)
  obtain ⟨kA, comp, k1, k2, k3⟩ := hC
  have hnm : s.vm.findClass "[I" = some cV := va_nm_int (hK.2 tk _ htk).2
  have hcomp : comp = cV := Option.some.inj (k3.symm.trans hnm)
  subst hcomp
  obtain ⟨-, kV, hkV, -⟩ := (hK.2 tk _ htk).1 0 (fun _ => .null)
  have hcv : H[v]? = some (vp_cell comp x) := hP qk _ hv
  have hcls : (vp_cell comp x).cls = comp ∧ (vp_cell comp x).vm = .none := by
    obtain ⟨nx, fx⟩ := x
    rcases fx with fx | fx | fx | fx | fx <;> exact ⟨rfl, rfl⟩
  refine W.aast (kv := kV) hexec hb (hP q0 _ ha) (fun q h => by cases h) (fun h => by cases h) k1 k2 rfl hkV ⟨h0, by show _ < (arrV _ _ _).slots.size; rw [arrV_size]; exact hlt⟩ hcv (fun q h => by rw [hcls.2] at h; cases h) (by rw [hcls.1]; exact hkV) (by rw [hcls.1]; exact zA_asg _ _) rfl rfl hdg fun H1 e z oq => ?_
  refine kk H1 _ (hP.set hD ha ?_ oq) (hD.set ha) (hS.put z oq (hD.2 q0 _ ha))
  show H1[a]? = some (vp_cell _ _)
  rw [e]
  rw [vp_cell_q, vp_cell_q, arrV_store]
  congr 2
  funext q
  by_cases hq : q = i.toNatClampNeg
  · subst hq
    simp [updV, va_up, va_rf]
  · simp [updV, va_up, hq]
end ZAA
set_option maxHeartbeats 4000000 in
set_option maxRecDepth 100000 in
/-- askedPut: the same bytes into x and into an int[] -/
theorem mX0_askedPut (l : Launch) (D : va_G) (sz : Nat) (bs : Nat) (Ls : Nat) (xs : Nat → Int32) (h0 : Nat) (q : Nat) (dB : ClassId) (a0 : Nat → Int32) (mn : Nat) (hL : Ls ≤ 48) (hm1 : 1 ≤ mn) (hm2 : mn ≤ 256) : Met l yX0_askedPut (ws_ yX0_askedPut cX0_askedPut 8 (some (.array .int))) ({ frames := 2, cells := 257, slots := 5120, locals := 46 }) (va_Pc [.ref h0, .ref bs, .int (nI mn)] (zP D sz [(h0, .inr (0, [.ref q, .int (nI 0)])), (q, .inl (dB, 4096, .inl a0))] [(dB, .byte)] none (some (bs, Ls, xs)))) (va_Qr (fun (u : (Nat → Int32) × ClassId × (Nat → Int32)) => ∀ j, j < 16 * mn → u.2.2 j = nI (sj_by (u.1 j))) (zBr D (va_A [(h0, .inr (0, [.ref q, .int (nI 0)])), (q, .inl (dB, 4096, .inl a0))] sz) (fun (u : (Nat → Int32) × ClassId × (Nat → Int32)) (ra : Nat) => [(h0, .inr (0, [.ref q, .int (nI (16 * mn))])), (q, .inl (dB, 4096, .inl u.1)), (ra, .inl (u.2.1, 16 * mn, .inl u.2.2))]) (fun (u : (Nat → Int32) × ClassId × (Nat → Int32)) (ra : Nat) => [(u.2.1, .int)])) (va_A [(h0, .inr (0, [.ref q, .int (nI 0)])), (q, .inl (dB, 4096, .inl a0))] sz)) 257 5120 (va_A [(h0, .inr (0, [.ref q, .int (nI 0)])), (q, .inl (dB, 4096, .inl a0))] sz) := by
  refine Met.ofW (cc := cX0_askedPut) (maxL := 8) (ret := (some (.array .int))) (by decide) rfl ?_
  intro p e s m args below meth c s₁ B hml hv
  obtain ⟨rfl, hsz, hP, hK, hD0, hX⟩ := hv
  have hx := B.exec
  have hb := B.bytes
  have hr := B.returns
  have hts := atoms_spec (ws := ws_ yX0_askedPut cX0_askedPut 8 (some (.array .int))) B.pre
  have hts : ∀ w ∈ lw_all, w.before _ s = true := fun w h => hts w (List.mem_cons_of_mem _ h)
  have hown : s.vm.findClass RX0 = some m.cls := findClass_of_methodNamed B.named
  have hlocks := B.notSynchronized
  subst hsz
  have hD := hD0.self (sz := s.heap.size)
  generalize hAe : va_A [(h0, .inr (0, [.ref q, .int (nI 0)])), (q, .inl (dB, 4096, .inl a0))] s.heap.size = A at hD hX ⊢
  have hA : ∀ q : Nat, s.heap.size ≤ q → A q := fun q h => by rw [← hAe]; exact Or.inr h
  have hS : va_S A s.heap s.heap [] := va_S.rf
  have hP : va_P D zCl [(h0, .inr (0, [.ref q, .int (nI 0)])), (q, .inl (dB, 4096, .inl a0))] s.heap := hP
  have hTs : va_T .int bs Ls (fun j => .int (xs j)) A s s.heap := hX.2.1 (bs, Ls, xs) rfl
  have hl := lv_entry ([.ref h0, .ref bs, .int (nI mn)]) (n := 8) (Nat.le_of_ble_eq_true rfl)
  rw [lg_entry_eq]
  generalize (lg_sl ([.ref h0, .ref bs, .int (nI mn)]) ++ List.replicate (8 - (lg_sl ([.ref h0, .ref bs, .int (nI mn)])).length) Slot.unset).toArray = ls at hl ⊢
  have hl : lv_has ls 8 [(0, .ref h0), (1, .ref bs), (2, .int (nI mn))] := hl
  refine lv_bipush (v := nI 16) hx hb dX0_askedPut_0 (by decide +kernel) ?_
  refine lv_iload_n hx hb dX0_askedPut_2 rfl (lv_at hl 2 rfl) ?_
  refine lv_imul hx hb dX0_askedPut_3 ?_
  refine lv_topi (fun x_1 e_1 => ?_)
  have e_1 : x_1 = nI (16 * mn) := by refine e_1.trans ?_; exact pk_mul 16 mn
  subst e_1
  refine va_newa (atype := .int) (ty := .int) (N' := 16 * mn) (a0 := (16 * mn, .inl (fun _ => 0))) hx hb (hts _ q168) rfl hK hP hD hS hA (fun _ => rfl) (nI_pos (by omega)) (nI_clamp (by omega)) (by show 16 * mn * 4 ≤ _; omega) (Nat.le_of_ble_eq_true rfl) (show 0 + 16 * mn ≤ 5120 by omega) dX0_askedPut_4 (fun qt dT H hK hP hD hS => ?_)
  have hK : va_K D zCl [(dB, .byte), (dT, .int)] s := hK
  have hP : va_P D zCl [(h0, .inr (0, [.ref q, .int (nI 0)])), (q, .inl (dB, 4096, .inl a0)), (qt, .inl (dT, 16 * mn, .inl (fun _ => 0)))] H := hP
  have hD : va_D A [(h0, .inr (0, [.ref q, .int (nI 0)])), (q, .inl (dB, 4096, .inl a0)), (qt, .inl (dT, 16 * mn, .inl (fun _ => 0)))] := hD
  refine lv_astore_n (lv' := [(3, .ref qt), (0, .ref h0), (1, .ref bs), (2, .int (nI mn))]) hx hb dX0_askedPut_6 rfl hl (by decide) rfl (fun ls hl => ?_)
  refine lv_aload_n hx hb dX0_askedPut_7 rfl (lv_at hl 2 rfl) ?_
  refine lv_iconst (v := nI 3) hx hb dX0_askedPut_8 (by rfl) ?_
  refine z_goi (wr := [(h0, .inr (0, [.ref q, .int (nI 0)])), (q, .inl (dB, 4096, .inl a0)), (qt, .inl (dT, 16 * mn, .inl (fun _ => 0)))]) (va_runS (As := [.ref bs, .int (nI 3)]) (rest := []) ⟨hx, hb, hml, hown, hts⟩ (mX0_askedCell l D H.size bs Ls xs 3 hL (by decide)) (va_cwS 2 hts (lw_S q153 q154 q3 q155) rfl rfl rfl (by decide +kernel) ⟨(Nat.le_of_ble_eq_true rfl), (Nat.le_of_ble_eq_true rfl)⟩) (z_pre hK hP hD hS hA hX [] [] rfl (by decide) rfl (fun _ h9 => h9) (fun _ h9 => h9)) rfl rfl hl.1 rfl (lv_room (Nat.le_of_ble_eq_true rfl)) dX0_askedPut_9 ⟨(Nat.le_of_ble_eq_true rfl), (show 0 + 16 * mn + 0 ≤ 5120 by omega)⟩) hK hP hD hS hA [] [0, 1, 2] rfl rfl (by decide) (by decide) (fun r_3 u_2 H locs h_4 _ hP hD hS => ?_)
  have hP : va_P D zCl [(h0, .inr (0, [.ref q, .int (nI 0)])), (q, .inl (dB, 4096, .inl a0)), (qt, .inl (dT, 16 * mn, .inl (fun _ => 0)))] H := hP
  have hD : va_D A [(h0, .inr (0, [.ref q, .int (nI 0)])), (q, .inl (dB, 4096, .inl a0)), (qt, .inl (dT, 16 * mn, .inl (fun _ => 0)))] := hD
  have h_4 : r_3 = sj_cell Ls xs 3 := h_4
  subst h_4
  refine lv_iconst (v := 3) hx hb dX0_askedPut_12 (by decide) ?_
  refine lv_iand hx hb dX0_askedPut_13 ?_
  refine lv_topi (fun xkd exkd => ?_)
  refine lv_istore (lv' := [(4, .int xkd), (3, .ref qt), (0, .ref h0), (1, .ref bs), (2, .int (nI mn))]) hx hb dX0_askedPut_14 hl (by decide) rfl (fun ls hl => ?_)
  refine lv_iconst (v := nI 0) hx hb dX0_askedPut_16 (by rfl) ?_
  refine lv_istore (lv' := [(5, .int (nI 0)), (4, .int xkd), (3, .ref qt), (0, .ref h0), (1, .ref bs), (2, .int (nI mn))]) hx hb dX0_askedPut_17 hl (by decide) rfl (fun ls hl => ?_)
  refine z_loop (σ := (Nat → Int32) × (Nat → Int32)) (mn) (fun i => 1 + i) (fun i => 16 * mn + 4 * i) (fun i u H locs ls => va_P D zCl [(h0, .inr (0, [.ref q, .int (nI (16 * i))])), (q, .inl (dB, 4096, .inl u.1)), (qt, .inl (dT, 16 * mn, .inl u.2))] H ∧ va_D A [(h0, .inr (0, [.ref q, .int (nI (16 * i))])), (q, .inl (dB, 4096, .inl u.1)), (qt, .inl (dT, 16 * mn, .inl u.2))] ∧ va_S A s.heap H locs ∧ lv_has ls 8 [(0, .ref h0), (1, .ref bs), (2, .int (nI mn)), (3, .ref qt), (4, .int xkd), (5, .int (nI i))] ∧ ∀ j, j < 16 * i → u.2 j = nI (sj_by (u.1 j))) ?_ (0) (a0, (fun _ => 0)) (by omega) ⟨hP.sub (ws' := [(h0, .inr (0, [.ref q, .int (nI (16 * 0))])), (q, .inl (dB, 4096, .inl a0)), (qt, .inl (dT, 16 * mn, .inl (fun _ => 0)))]) [0, 1, 2] rfl, hD.sub (ws' := [(h0, .inr (0, [.ref q, .int (nI (16 * 0))])), (q, .inl (dB, 4096, .inl a0)), (qt, .inl (dT, 16 * mn, .inl (fun _ => 0)))]) [0, 1, 2] (by decide) rfl, hS, lv_sub (l' := [(0, .ref h0), (1, .ref bs), (2, .int (nI mn)), (3, .ref qt), (4, .int xkd), (5, .int (nI 0))]) hl [3, 4, 5, 2, 1, 0] rfl, fun j hj => absurd hj (by omega)⟩ (by omega) (by omega)
  intro i u H locs ls hi ih hI
  obtain ⟨a1, t1⟩ := u
  obtain ⟨hP, hD, hS, hl, hJ⟩ := hI
  have hP : va_P D zCl [(h0, .inr (0, [.ref q, .int (nI (16 * i))])), (q, .inl (dB, 4096, .inl a1)), (qt, .inl (dT, 16 * mn, .inl t1))] H := hP
  have hD : va_D A [(h0, .inr (0, [.ref q, .int (nI (16 * i))])), (q, .inl (dB, 4096, .inl a1)), (qt, .inl (dT, 16 * mn, .inl t1))] := hD
  have hl : lv_has ls 8 [(0, .ref h0), (1, .ref bs), (2, .int (nI mn)), (3, .ref qt), (4, .int xkd), (5, .int (nI i))] := hl
  have hJ : ∀ j, j < 16 * i → t1 j = nI (sj_by (a1 j)) := hJ
  refine W.widen (k := 1 + i) (n := 16 * mn + 4 * i) (Nat.le_refl _) (Nat.le_refl _) ?_
  refine lv_iload hx hb dX0_askedPut_19 (lv_at hl 5 rfl) ?_
  refine lv_iload_n hx hb dX0_askedPut_21 rfl (lv_at hl 2 rfl) ?_
  refine lv_icmp_ge (tgt := 163) hx hb dX0_askedPut_22 (by decide) (fun c0 => ?_) (fun c0 => ?_)
  · skip
    have hi9 : i = mn := by have h9 : ¬ i < mn := fun h => nI_ge h (by omega) c0; omega
    rw [hi9] at hP hD hJ
    have hP : va_P D zCl [(h0, .inr (0, [.ref q, .int (nI (16 * mn))])), (q, .inl (dB, 4096, .inl a1)), (qt, .inl (dT, 16 * mn, .inl t1))] H := hP
    have hD : va_D A [(h0, .inr (0, [.ref q, .int (nI (16 * mn))])), (q, .inl (dB, 4096, .inl a1)), (qt, .inl (dT, 16 * mn, .inl t1))] := hD
    refine lv_aload_n hx hb dX0_askedPut_163 rfl (lv_at hl 3 rfl) ?_
    refine W.widen (k := 257) (n := 5120) (by omega) (by omega) ?_
    have hP9 := hP.sub (ws' := [(h0, .inr (0, [.ref q, .int (nI (16 * mn))])), (q, .inl (dB, 4096, .inl a1)), (qt, .inl (dT, 16 * mn, .inl t1))]) [0, 1, 2] rfl
    have hD9 := hD.sub (ws' := [(h0, .inr (0, [.ref q, .int (nI (16 * mn))])), (q, .inl (dB, 4096, .inl a1)), (qt, .inl (dT, 16 * mn, .inl t1))]) [0, 1, 2] (by decide) rfl
    have hK9 := hK.sub (tys' := [(dT, .int)]) [1] rfl
    exact W.aret (v := .ref qt) hx hb hr (Or.inr ⟨.int, rfl⟩) (Or.inr ⟨_, rfl⟩) (fun t ht hW => ⟨⟨(a1, dT, t1), qt, rfl, hJ, by rw [ht]; exact hP9, va_K.moved hW.alike hK9, hD9⟩, hS.F ht⟩) hS.2.2 dX0_askedPut_164
  · skip
    have hi9 : i < mn := Nat.lt_of_not_le (fun h => c0 (nI_le h (by omega)))
    refine lv_iconst (v := nI 4) hx hb dX0_askedPut_25 (by rfl) ?_
    refine va_newa (atype := .int) (ty := .int) (N' := 4) (a0 := (4, .inl (fun _ => 0))) hx hb (hts _ q168) rfl hK hP hD hS hA (fun _ => rfl) (by decide) (by decide +kernel) (Nat.le_of_ble_eq_true rfl) (show 1 + i + 1 ≤ 257 by omega) (show 16 * mn + 4 * i + 4 ≤ 5120 by omega) dX0_askedPut_26 (fun qf dF H hK hP hD hS => ?_)
    have hK : va_K D zCl [(dB, .byte), (dT, .int), (dF, .int)] s := hK
    have hP : va_P D zCl [(h0, .inr (0, [.ref q, .int (nI (16 * i))])), (q, .inl (dB, 4096, .inl a1)), (qt, .inl (dT, 16 * mn, .inl t1)), (qf, .inl (dF, 4, .inl (fun _ => 0)))] H := hP
    have hD : va_D A [(h0, .inr (0, [.ref q, .int (nI (16 * i))])), (q, .inl (dB, 4096, .inl a1)), (qt, .inl (dT, 16 * mn, .inl t1)), (qf, .inl (dF, 4, .inl (fun _ => 0)))] := hD
    refine lv_astore (lv' := [(6, .ref qf), (0, .ref h0), (1, .ref bs), (2, .int (nI mn)), (3, .ref qt), (4, .int xkd), (5, .int (nI i))]) hx hb dX0_askedPut_28 hl (by decide) rfl (fun ls hl => ?_)
    refine lv_iconst (v := nI 0) hx hb dX0_askedPut_30 (by rfl) ?_
    refine lv_istore (lv' := [(7, .int (nI 0)), (6, .ref qf), (0, .ref h0), (1, .ref bs), (2, .int (nI mn)), (3, .ref qt), (4, .int xkd), (5, .int (nI i))]) hx hb dX0_askedPut_31 hl (by decide) rfl (fun ls hl => ?_)
    refine z_loop (σ := (Nat → Int32)) (4) (fun j => 1 + i + 1) (fun j => 16 * mn + 4 * i + 4) (fun j u H locs ls => va_P D zCl [(h0, .inr (0, [.ref q, .int (nI (16 * i))])), (q, .inl (dB, 4096, .inl a1)), (qt, .inl (dT, 16 * mn, .inl t1)), (qf, .inl (dF, 4, .inl u))] H ∧ va_D A [(h0, .inr (0, [.ref q, .int (nI (16 * i))])), (q, .inl (dB, 4096, .inl a1)), (qt, .inl (dT, 16 * mn, .inl t1)), (qf, .inl (dF, 4, .inl u))] ∧ va_S A s.heap H locs ∧ lv_has ls 8 [(0, .ref h0), (1, .ref bs), (2, .int (nI mn)), (3, .ref qt), (4, .int xkd), (5, .int (nI i)), (6, .ref qf), (7, .int (nI j))] ∧ True) ?_ (0) (fun _ => 0) (by decide) ⟨hP.sub (ws' := [(h0, .inr (0, [.ref q, .int (nI (16 * i))])), (q, .inl (dB, 4096, .inl a1)), (qt, .inl (dT, 16 * mn, .inl t1)), (qf, .inl (dF, 4, .inl (fun _ => 0)))]) [0, 1, 2, 3] rfl, hD.sub (ws' := [(h0, .inr (0, [.ref q, .int (nI (16 * i))])), (q, .inl (dB, 4096, .inl a1)), (qt, .inl (dT, 16 * mn, .inl t1)), (qf, .inl (dF, 4, .inl (fun _ => 0)))]) [0, 1, 2, 3] (by decide) rfl, hS, lv_sub (l' := [(0, .ref h0), (1, .ref bs), (2, .int (nI mn)), (3, .ref qt), (4, .int xkd), (5, .int (nI i)), (6, .ref qf), (7, .int (nI 0))]) hl [2, 3, 4, 5, 6, 7, 1, 0] rfl, trivial⟩ (Nat.le_refl _) (Nat.le_refl _)
    intro j u H locs ls hi2 ih2 hI
    obtain ⟨f1, rfl⟩ : ∃ z, z = u := ⟨_, rfl⟩
    obtain ⟨hP, hD, hS, hl, hJ2⟩ := hI
    have hP : va_P D zCl [(h0, .inr (0, [.ref q, .int (nI (16 * i))])), (q, .inl (dB, 4096, .inl a1)), (qt, .inl (dT, 16 * mn, .inl t1)), (qf, .inl (dF, 4, .inl f1))] H := hP
    have hD : va_D A [(h0, .inr (0, [.ref q, .int (nI (16 * i))])), (q, .inl (dB, 4096, .inl a1)), (qt, .inl (dT, 16 * mn, .inl t1)), (qf, .inl (dF, 4, .inl f1))] := hD
    have hl : lv_has ls 8 [(0, .ref h0), (1, .ref bs), (2, .int (nI mn)), (3, .ref qt), (4, .int xkd), (5, .int (nI i)), (6, .ref qf), (7, .int (nI j))] := hl
    have hJ2 : True := hJ2
    refine W.widen (k := 1 + i + 1) (n := 16 * mn + 4 * i + 4) (Nat.le_refl _) (Nat.le_refl _) ?_
    refine lv_iload hx hb dX0_askedPut_33 (lv_at hl 7 rfl) ?_
    refine lv_iconst (v := nI 4) hx hb dX0_askedPut_35 (by rfl) ?_
    refine lv_icmp_ge (tgt := 88) hx hb dX0_askedPut_36 (by decide) (fun c2 => ?_) (fun c2 => ?_)
    · skip
      refine lv_aload_n hx hb dX0_askedPut_88 rfl (lv_at hl 0 rfl) ?_
      refine lv_aload hx hb dX0_askedPut_89 (lv_at hl 6 rfl) ?_
      refine lv_iconst (v := 0) hx hb dX0_askedPut_91 (by decide) ?_
      refine va_iald hx hb hK hP 3 2 rfl rfl (pk_in 0 4 (by decide)) dX0_askedPut_92 ?_
      refine lv_topi (fun x_13 e_13 => ?_)
      have e_13 : x_13 = (f1 0) := by refine e_13.trans ?_; rfl
      subst e_13
      refine lv_aload hx hb dX0_askedPut_93 (lv_at hl 6 rfl) ?_
      refine lv_iconst (v := 1) hx hb dX0_askedPut_95 (by decide) ?_
      refine va_iald hx hb hK hP 3 2 rfl rfl (pk_in 1 4 (by decide)) dX0_askedPut_96 ?_
      refine lv_topi (fun x_14 e_14 => ?_)
      have e_14 : x_14 = (f1 1) := by refine e_14.trans ?_; rfl
      subst e_14
      refine lv_aload hx hb dX0_askedPut_97 (lv_at hl 6 rfl) ?_
      refine lv_iconst (v := 2) hx hb dX0_askedPut_99 (by decide) ?_
      refine va_iald hx hb hK hP 3 2 rfl rfl (pk_in 2 4 (by decide)) dX0_askedPut_100 ?_
      refine lv_topi (fun x_15 e_15 => ?_)
      have e_15 : x_15 = (f1 2) := by refine e_15.trans ?_; rfl
      subst e_15
      refine lv_aload hx hb dX0_askedPut_101 (lv_at hl 6 rfl) ?_
      refine lv_iconst (v := 3) hx hb dX0_askedPut_103 (by decide) ?_
      refine va_iald hx hb hK hP 3 2 rfl rfl (pk_in 3 4 (by decide)) dX0_askedPut_104 ?_
      refine lv_topi (fun x_16 e_16 => ?_)
      have e_16 : x_16 = (f1 3) := by refine e_16.trans ?_; rfl
      subst e_16
      refine z_goi (wr := [(qt, .inl (dT, 16 * mn, .inl t1)), (qf, .inl (dF, 4, .inl f1))]) (va_runV (As := [.int (f1 0), .int (f1 1), .int (f1 2), .int (f1 3)]) (rest := []) ⟨hx, hb, hml, hown, hts⟩ (mX1_put l D H.size h0 q dB (16 * i) a1 (f1 0) (f1 1) (f1 2) (f1 3) (by omega)) (cwV 4 hts (lw_V q95 q96 q97 q4 q98) rfl rfl rfl (by decide +kernel) ⟨(Nat.le_of_ble_eq_true rfl), (Nat.le_of_ble_eq_true rfl)⟩) (z_preV (q0 := 0) (ci := 0) rfl rfl hK hP hD hS hA hX [0, 1] [0] rfl (by decide) rfl (fun _ h9 => h9) (fun _ h9 => by cases h9)) rfl rfl hl.1 rfl (lv_room (Nat.le_of_ble_eq_true rfl)) dX0_askedPut_105 ⟨(show 1 + i + 1 + 0 ≤ 257 by omega), (show 16 * mn + 4 * i + 4 + 0 ≤ 5120 by omega)⟩) hK hP hD hS hA [0, 1] [2, 3] rfl rfl (by decide) (by decide) (fun r_18 u_17 H locs ha2P _ hP hD hS => ?_)
      obtain ⟨a2, rfl⟩ : ∃ z, z = u_17 := ⟨_, rfl⟩
      have hP : va_P D zCl [(qt, .inl (dT, 16 * mn, .inl t1)), (qf, .inl (dF, 4, .inl f1)), (h0, .inr (0, [.ref q, .int (nI ((16 * i) + 16))])), (q, .inl (dB, 4096, .inl a2))] H := hP
      have hD : va_D A [(qt, .inl (dT, 16 * mn, .inl t1)), (qf, .inl (dF, 4, .inl f1)), (h0, .inr (0, [.ref q, .int (nI ((16 * i) + 16))])), (q, .inl (dB, 4096, .inl a2))] := hD
      have ha2P : r_18 = 1 ∧ ∀ j, sj_by (a2 j) = sj_pt (fun j => sj_by (a1 j)) (16 * i) (f1 0) (f1 1) (f1 2) (f1 3) j := ha2P
      obtain ⟨ha2r, ha2⟩ := ha2P
      subst ha2r
      refine lv_pop hx hb dX0_askedPut_108 rfl ?_
      refine lv_iconst (v := nI 0) hx hb dX0_askedPut_109 (by rfl) ?_
      refine lv_istore (lv' := [(7, .int (nI 0)), (0, .ref h0), (1, .ref bs), (2, .int (nI mn)), (3, .ref qt), (4, .int xkd), (5, .int (nI i)), (6, .ref qf)]) hx hb dX0_askedPut_110 hl (by decide) rfl (fun ls hl => ?_)
      rw [show ((16 * i) + 16) = (16 * (i + 1)) by omega] at hP hD
      have hP : va_P D zCl [(qt, .inl (dT, 16 * mn, .inl t1)), (qf, .inl (dF, 4, .inl f1)), (h0, .inr (0, [.ref q, .int (nI (16 * (i + 1)))])), (q, .inl (dB, 4096, .inl a2))] H := hP
      have hD : va_D A [(qt, .inl (dT, 16 * mn, .inl t1)), (qf, .inl (dF, 4, .inl f1)), (h0, .inr (0, [.ref q, .int (nI (16 * (i + 1)))])), (q, .inl (dB, 4096, .inl a2))] := hD
      have hJ0 : ∀ u, u < 16 * i + 0 → t1 u = nI (sj_by (a2 u)) := fun u hu => by rw [ha2, sj_pt_out _ _ _ _ _ _ _ (Or.inl (by omega))]; exact hJ u (by omega)
      refine z_loop (σ := (Nat → Int32)) (16) (fun j => 1 + i + 1) (fun j => 16 * mn + 4 * i + 4) (fun j u H locs ls => va_P D zCl [(qt, .inl (dT, 16 * mn, .inl u)), (qf, .inl (dF, 4, .inl f1)), (h0, .inr (0, [.ref q, .int (nI (16 * (i + 1)))])), (q, .inl (dB, 4096, .inl a2))] H ∧ va_D A [(qt, .inl (dT, 16 * mn, .inl u)), (qf, .inl (dF, 4, .inl f1)), (h0, .inr (0, [.ref q, .int (nI (16 * (i + 1)))])), (q, .inl (dB, 4096, .inl a2))] ∧ va_S A s.heap H locs ∧ lv_has ls 8 [(0, .ref h0), (1, .ref bs), (2, .int (nI mn)), (3, .ref qt), (4, .int xkd), (5, .int (nI i)), (6, .ref qf), (7, .int (nI j))] ∧ ∀ k9, k9 < 16 * i + j → u k9 = nI (sj_by (a2 k9))) ?_ (0) t1 (by decide) ⟨hP.sub (ws' := [(qt, .inl (dT, 16 * mn, .inl t1)), (qf, .inl (dF, 4, .inl f1)), (h0, .inr (0, [.ref q, .int (nI (16 * (i + 1)))])), (q, .inl (dB, 4096, .inl a2))]) [0, 1, 2, 3] rfl, hD.sub (ws' := [(qt, .inl (dT, 16 * mn, .inl t1)), (qf, .inl (dF, 4, .inl f1)), (h0, .inr (0, [.ref q, .int (nI (16 * (i + 1)))])), (q, .inl (dB, 4096, .inl a2))]) [0, 1, 2, 3] (by decide) rfl, hS, lv_sub (l' := [(0, .ref h0), (1, .ref bs), (2, .int (nI mn)), (3, .ref qt), (4, .int xkd), (5, .int (nI i)), (6, .ref qf), (7, .int (nI 0))]) hl [1, 2, 3, 4, 5, 6, 7, 0] rfl, hJ0⟩ (Nat.le_refl _) (Nat.le_refl _)
      intro j u H locs ls hi4 ih4 hI
      obtain ⟨t2, rfl⟩ : ∃ z, z = u := ⟨_, rfl⟩
      obtain ⟨hP, hD, hS, hl, hJ4⟩ := hI
      have hP : va_P D zCl [(qt, .inl (dT, 16 * mn, .inl t2)), (qf, .inl (dF, 4, .inl f1)), (h0, .inr (0, [.ref q, .int (nI (16 * (i + 1)))])), (q, .inl (dB, 4096, .inl a2))] H := hP
      have hD : va_D A [(qt, .inl (dT, 16 * mn, .inl t2)), (qf, .inl (dF, 4, .inl f1)), (h0, .inr (0, [.ref q, .int (nI (16 * (i + 1)))])), (q, .inl (dB, 4096, .inl a2))] := hD
      have hl : lv_has ls 8 [(0, .ref h0), (1, .ref bs), (2, .int (nI mn)), (3, .ref qt), (4, .int xkd), (5, .int (nI i)), (6, .ref qf), (7, .int (nI j))] := hl
      have hJ4 : ∀ k9, k9 < 16 * i + j → t2 k9 = nI (sj_by (a2 k9)) := hJ4
      refine W.widen (k := 1 + i + 1) (n := 16 * mn + 4 * i + 4) (Nat.le_refl _) (Nat.le_refl _) ?_
      refine lv_iload hx hb dX0_askedPut_112 (lv_at hl 7 rfl) ?_
      refine lv_bipush (v := nI 16) hx hb dX0_askedPut_114 (by decide +kernel) ?_
      refine lv_icmp_ge (tgt := 157) hx hb dX0_askedPut_116 (by decide) (fun c5 => ?_) (fun c5 => ?_)
      · skip
        have hj16 : 16 ≤ j := Nat.not_lt.mp (fun h => nI_ge (a := j) (b := 16) h (by decide) c5)
        refine lv_iinc (v := nI (i + 1)) (lv' := [(5, .int (nI (i + 1))), (0, .ref h0), (1, .ref bs), (2, .int (nI mn)), (3, .ref qt), (4, .int xkd), (6, .ref qf), (7, .int (nI j))]) hx hb dX0_askedPut_157 hl (k := 5) rfl (by exact nI_1 i) (by decide) rfl (fun ls hl => ?_)
        refine lv_goto (tgt := 19) hx hb dX0_askedPut_160 (by decide) ?_
        refine W.widen (k := 1 + (i + 1)) (n := 16 * mn + 4 * (i + 1)) (by omega) (by omega) ?_
        exact ih (by omega) (a2, t2) H locs ls ⟨hP.sub (ws' := [(h0, .inr (0, [.ref q, .int (nI (16 * (i + 1)))])), (q, .inl (dB, 4096, .inl a2)), (qt, .inl (dT, 16 * mn, .inl t2))]) [2, 3, 0] rfl, hD.sub (ws' := [(h0, .inr (0, [.ref q, .int (nI (16 * (i + 1)))])), (q, .inl (dB, 4096, .inl a2)), (qt, .inl (dT, 16 * mn, .inl t2))]) [2, 3, 0] (by decide) rfl, hS, lv_sub (l' := [(0, .ref h0), (1, .ref bs), (2, .int (nI mn)), (3, .ref qt), (4, .int xkd), (5, .int (nI (i + 1)))]) hl [1, 2, 3, 4, 5, 0] rfl, fun u hu => hJ4 u (by omega)⟩
      · skip
        have hj16 : j < 16 := Nat.lt_of_not_le (fun h => c5 (nI_le (a := 16) (b := j) h (by omega)))
        have hv9 : sj_wb (f1 (j / 4)) (j % 4) = sj_by (a2 (16 * i + j)) := by
          have h4 : sj_w4 (f1 0) (f1 1) (f1 2) (f1 3) (j / 4) = f1 (j / 4) := by
            have h := sj_w4_f f1 0 (j / 4) (by omega)
            rw [Nat.zero_add (j / 4)] at h
            exact h
          rw [ha2, sj_pt_in _ _ _ _ _ _ _ (by omega) (by omega), show 16 * i + j - 16 * i = j by omega]
          exact congrArg (fun z => sj_wb z (j % 4)) h4.symm
        refine lv_aload_n hx hb dX0_askedPut_119 rfl (lv_at hl 3 rfl) ?_
        refine lv_bipush (v := nI 16) hx hb dX0_askedPut_120 (by decide +kernel) ?_
        refine lv_iload hx hb dX0_askedPut_122 (lv_at hl 5 rfl) ?_
        refine lv_imul hx hb dX0_askedPut_124 ?_
        refine lv_topi (fun x_19 e_19 => ?_)
        have e_19 : x_19 = nI (16 * i) := by refine e_19.trans ?_; exact pk_mul 16 i
        subst e_19
        refine lv_iload hx hb dX0_askedPut_125 (lv_at hl 7 rfl) ?_
        refine lv_iadd hx hb dX0_askedPut_127 ?_
        refine lv_topi (fun x_20 e_20 => ?_)
        have e_20 : x_20 = nI (16 * i + j) := by refine e_20.trans ?_; exact nI_add _ _
        subst e_20
        refine lv_aload hx hb dX0_askedPut_128 (lv_at hl 6 rfl) ?_
        refine lv_iload hx hb dX0_askedPut_130 (lv_at hl 7 rfl) ?_
        refine lv_iconst (v := nI 4) hx hb dX0_askedPut_132 (by rfl) ?_
        refine lv_idiv hx hb dX0_askedPut_133 (by decide) ?_
        refine lv_topi (fun x_21 e_21 => ?_)
        have e_21 : x_21 = nI (j / 4) := by refine e_21.trans ?_; exact pk_div (by omega) (by decide) (by decide)
        subst e_21
        refine va_iald hx hb hK hP 1 2 rfl rfl (vp_in_nI (n := j / 4) (by omega) (by decide)) dX0_askedPut_134 ?_
        refine lv_topi (fun x_22 e_22 => ?_)
        have e_22 : x_22 = (f1 (j / 4)) := by refine e_22.trans ?_; rw [nI_clamp (by omega)]
        subst e_22
        refine lv_bipush (v := nI 24) hx hb dX0_askedPut_135 (by decide +kernel) ?_
        refine lv_bipush (v := nI 8) hx hb dX0_askedPut_137 (by decide +kernel) ?_
        refine lv_iload hx hb dX0_askedPut_139 (lv_at hl 7 rfl) ?_
        refine lv_iconst (v := nI 4) hx hb dX0_askedPut_141 (by rfl) ?_
        refine lv_irem hx hb dX0_askedPut_142 (by decide) ?_
        refine lv_topi (fun x_23 e_23 => ?_)
        have e_23 : x_23 = nI (j % 4) := by refine e_23.trans ?_; exact pk_rem (by omega) (by decide) (by decide)
        subst e_23
        refine lv_imul hx hb dX0_askedPut_143 ?_
        refine lv_topi (fun x_24 e_24 => ?_)
        have e_24 : x_24 = nI (8 * (j % 4)) := by refine e_24.trans ?_; exact pk_mul 8 _
        subst e_24
        refine lv_isub hx hb dX0_askedPut_144 ?_
        refine lv_topi (fun x_25 e_25 => ?_)
        have e_25 : x_25 = nI (24 - 8 * (j % 4)) := by refine e_25.trans ?_; exact pk_sub (by omega)
        subst e_25
        refine lv_iushr hx hb dX0_askedPut_145 rfl ?_
        refine lv_topi (fun xu exu => ?_)
        refine lv_sipush (v := 255) hx hb dX0_askedPut_146 (by decide +kernel) ?_
        refine lv_iand hx hb dX0_askedPut_149 ?_
        refine lv_topi (fun x_26 e_26 => ?_)
        have e_26 : x_26 = nI (sj_by (a2 (16 * i + j))) := by refine e_26.trans ?_; rw [exu, ← hv9]; exact zj_wbU _ _
        subst e_26
        refine va_iast hx hb hK hP hD hS 0 1 rfl rfl (vp_in_nI (n := 16 * i + j) (by omega) (by omega)) dX0_askedPut_150 (fun H locs hP hD hS => ?_)
        rw [show upd t2 ((nI (16 * i + j)) : Int32).toNatClampNeg (nI (sj_by (a2 (16 * i + j)))) = upd t2 (16 * i + j) (nI (sj_by (a2 (16 * i + j)))) by rw [nI_clamp (by omega)]] at hP hD
        have hP : va_P D zCl [(qt, .inl (dT, 16 * mn, .inl (upd t2 (16 * i + j) (nI (sj_by (a2 (16 * i + j))))))), (qf, .inl (dF, 4, .inl f1)), (h0, .inr (0, [.ref q, .int (nI (16 * (i + 1)))])), (q, .inl (dB, 4096, .inl a2))] H := hP
        have hD : va_D A [(qt, .inl (dT, 16 * mn, .inl (upd t2 (16 * i + j) (nI (sj_by (a2 (16 * i + j))))))), (qf, .inl (dF, 4, .inl f1)), (h0, .inr (0, [.ref q, .int (nI (16 * (i + 1)))])), (q, .inl (dB, 4096, .inl a2))] := hD
        refine lv_iinc (v := nI (j + 1)) (lv' := [(7, .int (nI (j + 1))), (0, .ref h0), (1, .ref bs), (2, .int (nI mn)), (3, .ref qt), (4, .int xkd), (5, .int (nI i)), (6, .ref qf)]) hx hb dX0_askedPut_151 hl (k := 7) rfl (by exact nI_1 j) (by decide) rfl (fun ls hl => ?_)
        refine lv_goto (tgt := 112) hx hb dX0_askedPut_154 (by decide) ?_
        refine W.widen (k := 1 + i + 1) (n := 16 * mn + 4 * i + 4) (by omega) (by omega) ?_
        exact ih4 (by omega) (upd t2 (16 * i + j) (nI (sj_by (a2 (16 * i + j))))) H locs ls ⟨hP.sub (ws' := [(qt, .inl (dT, 16 * mn, .inl (upd t2 (16 * i + j) (nI (sj_by (a2 (16 * i + j))))))), (qf, .inl (dF, 4, .inl f1)), (h0, .inr (0, [.ref q, .int (nI (16 * (i + 1)))])), (q, .inl (dB, 4096, .inl a2))]) [0, 1, 2, 3] rfl, hD.sub (ws' := [(qt, .inl (dT, 16 * mn, .inl (upd t2 (16 * i + j) (nI (sj_by (a2 (16 * i + j))))))), (qf, .inl (dF, 4, .inl f1)), (h0, .inr (0, [.ref q, .int (nI (16 * (i + 1)))])), (q, .inl (dB, 4096, .inl a2))]) [0, 1, 2, 3] (by decide) rfl, hS, lv_sub (l' := [(0, .ref h0), (1, .ref bs), (2, .int (nI mn)), (3, .ref qt), (4, .int xkd), (5, .int (nI i)), (6, .ref qf), (7, .int (nI (j + 1)))]) hl [1, 2, 3, 4, 5, 6, 7, 0] rfl, lt_s (i := 16 * i + j) (p := fun u => upd t2 (16 * i + j) (nI (sj_by (a2 (16 * i + j)))) u = nI (sj_by (a2 u))) (fun u hu => by rw [pk_un (Nat.ne_of_lt hu)]; exact hJ4 u hu) pk_us⟩
    · skip
      have hj4 : j < 4 := Nat.lt_of_not_le (fun h => c2 (nI_le (a := 4) (b := j) h (by omega)))
      refine lv_aload hx hb dX0_askedPut_39 (lv_at hl 6 rfl) ?_
      refine lv_iload hx hb dX0_askedPut_41 (lv_at hl 7 rfl) ?_
      refine lv_iload hx hb dX0_askedPut_43 (lv_at hl 4 rfl) ?_
      refine lv_if_ne (tgt := 52) hx hb dX0_askedPut_45 (by decide) (fun c3 => ?_) (fun c3 => ?_)
      · skip
        refine lv_iload hx hb dX0_askedPut_52 (lv_at hl 4 rfl) ?_
        refine lv_iconst (v := 1) hx hb dX0_askedPut_54 (by decide) ?_
        refine lv_icmp_ne (tgt := 62) hx hb dX0_askedPut_55 (by decide) (fun c4 => ?_) (fun c4 => ?_)
        · skip
          refine lv_aload_n hx hb dX0_askedPut_62 rfl (lv_at hl 1 rfl) ?_
          refine lv_iconst (v := nI 4) hx hb dX0_askedPut_63 (by rfl) ?_
          refine lv_iconst (v := nI 4) hx hb dX0_askedPut_64 (by rfl) ?_
          refine lv_iload hx hb dX0_askedPut_65 (lv_at hl 5 rfl) ?_
          refine lv_imul hx hb dX0_askedPut_67 ?_
          refine lv_topi (fun x_5 e_5 => ?_)
          have e_5 : x_5 = nI (4 * i) := by refine e_5.trans ?_; exact pk_mul 4 i
          subst e_5
          refine lv_iload hx hb dX0_askedPut_68 (lv_at hl 7 rfl) ?_
          refine lv_iadd hx hb dX0_askedPut_70 ?_
          refine lv_topi (fun x_6 e_6 => ?_)
          have e_6 : x_6 = nI (4 * i + j) := by refine e_6.trans ?_; exact nI_add _ _
          subst e_6
          refine lv_bipush (v := nI 40) hx hb dX0_askedPut_71 (by decide +kernel) ?_
          refine lv_irem hx hb dX0_askedPut_73 (by decide +kernel) ?_
          refine lv_topi (fun x_7 e_7 => ?_)
          have e_7 : x_7 = nI ((4 * i + j) % 40) := by refine e_7.trans ?_; exact pk_rem (by omega) (by decide) (by decide)
          subst e_7
          refine lv_iadd hx hb dX0_askedPut_74 ?_
          refine lv_topi (fun x_8 e_8 => ?_)
          have e_8 : x_8 = nI (4 + (4 * i + j) % 40) := by refine e_8.trans ?_; exact nI_add 4 _
          subst e_8
          refine z_goi (wr := [(h0, .inr (0, [.ref q, .int (nI (16 * i))])), (q, .inl (dB, 4096, .inl a1)), (qt, .inl (dT, 16 * mn, .inl t1)), (qf, .inl (dF, 4, .inl f1))]) (va_runS (As := [.ref bs, .int (nI (4 + (4 * i + j) % 40))]) (rest := [.int (nI j), .ref qf]) ⟨hx, hb, hml, hown, hts⟩ (mX0_askedCell l D H.size bs Ls xs (4 + (4 * i + j) % 40) hL (by omega)) (va_cwS 2 hts (lw_S q153 q154 q3 q155) rfl rfl rfl (by decide +kernel) ⟨(Nat.le_of_ble_eq_true rfl), (Nat.le_of_ble_eq_true rfl)⟩) (z_pre hK hP hD hS hA hX [] [] rfl (by decide) rfl (fun _ h9 => h9) (fun _ h9 => h9)) rfl rfl hl.1 rfl (lv_room (Nat.le_of_ble_eq_true rfl)) dX0_askedPut_75 ⟨(show 1 + i + 1 + 0 ≤ 257 by omega), (show 16 * mn + 4 * i + 4 + 0 ≤ 5120 by omega)⟩) hK hP hD hS hA [] [0, 1, 2, 3] rfl rfl (by decide) (by decide) (fun r_10 u_9 H locs h_11 _ hP hD hS => ?_)
          have hP : va_P D zCl [(h0, .inr (0, [.ref q, .int (nI (16 * i))])), (q, .inl (dB, 4096, .inl a1)), (qt, .inl (dT, 16 * mn, .inl t1)), (qf, .inl (dF, 4, .inl f1))] H := hP
          have hD : va_D A [(h0, .inr (0, [.ref q, .int (nI (16 * i))])), (q, .inl (dB, 4096, .inl a1)), (qt, .inl (dT, 16 * mn, .inl t1)), (qf, .inl (dF, 4, .inl f1))] := hD
          have h_11 : r_10 = sj_cell Ls xs (4 + (4 * i + j) % 40) := h_11
          subst h_11
          refine lv_iload hx hb dX0_askedPut_78 (lv_at hl 5 rfl) ?_
          refine lv_iadd hx hb dX0_askedPut_80 ?_
          refine lv_topi (fun x_12 e_12 => ?_)
          refine va_iast hx hb hK hP hD hS 3 2 rfl rfl (vp_in_nI hj4 (by decide)) dX0_askedPut_81 (fun H locs hP hD hS => ?_)
          have hP : va_P D zCl [(h0, .inr (0, [.ref q, .int (nI (16 * i))])), (q, .inl (dB, 4096, .inl a1)), (qt, .inl (dT, 16 * mn, .inl t1)), (qf, .inl (dF, 4, .inl (upd f1 ((nI j) : Int32).toNatClampNeg x_12)))] H := hP
          have hD : va_D A [(h0, .inr (0, [.ref q, .int (nI (16 * i))])), (q, .inl (dB, 4096, .inl a1)), (qt, .inl (dT, 16 * mn, .inl t1)), (qf, .inl (dF, 4, .inl (upd f1 ((nI j) : Int32).toNatClampNeg x_12)))] := hD
          refine lv_iinc (v := nI (j + 1)) (lv' := [(7, .int (nI (j + 1))), (0, .ref h0), (1, .ref bs), (2, .int (nI mn)), (3, .ref qt), (4, .int xkd), (5, .int (nI i)), (6, .ref qf)]) hx hb dX0_askedPut_82 hl (k := 7) rfl (by exact nI_1 j) (by decide) rfl (fun ls hl => ?_)
          refine lv_goto (tgt := 33) hx hb dX0_askedPut_85 (by decide) ?_
          refine W.widen (k := 1 + i + 1) (n := 16 * mn + 4 * i + 4) (by omega) (by omega) ?_
          exact ih2 (by omega) (upd f1 ((nI j) : Int32).toNatClampNeg x_12) H locs ls ⟨hP.sub (ws' := [(h0, .inr (0, [.ref q, .int (nI (16 * i))])), (q, .inl (dB, 4096, .inl a1)), (qt, .inl (dT, 16 * mn, .inl t1)), (qf, .inl (dF, 4, .inl (upd f1 ((nI j) : Int32).toNatClampNeg x_12)))]) [0, 1, 2, 3] rfl, hD.sub (ws' := [(h0, .inr (0, [.ref q, .int (nI (16 * i))])), (q, .inl (dB, 4096, .inl a1)), (qt, .inl (dT, 16 * mn, .inl t1)), (qf, .inl (dF, 4, .inl (upd f1 ((nI j) : Int32).toNatClampNeg x_12)))]) [0, 1, 2, 3] (by decide) rfl, hS, lv_sub (l' := [(0, .ref h0), (1, .ref bs), (2, .int (nI mn)), (3, .ref qt), (4, .int xkd), (5, .int (nI i)), (6, .ref qf), (7, .int (nI (j + 1)))]) hl [1, 2, 3, 4, 5, 6, 7, 0] rfl, trivial⟩
        · skip
          refine lv_iconst (v := 0) hx hb dX0_askedPut_58 (by decide) ?_
          refine lv_goto (tgt := 81) hx hb dX0_askedPut_59 (by decide) ?_
          refine va_iast hx hb hK hP hD hS 3 2 rfl rfl (vp_in_nI hj4 (by decide)) dX0_askedPut_81 (fun H locs hP hD hS => ?_)
          have hP : va_P D zCl [(h0, .inr (0, [.ref q, .int (nI (16 * i))])), (q, .inl (dB, 4096, .inl a1)), (qt, .inl (dT, 16 * mn, .inl t1)), (qf, .inl (dF, 4, .inl (upd f1 ((nI j) : Int32).toNatClampNeg 0)))] H := hP
          have hD : va_D A [(h0, .inr (0, [.ref q, .int (nI (16 * i))])), (q, .inl (dB, 4096, .inl a1)), (qt, .inl (dT, 16 * mn, .inl t1)), (qf, .inl (dF, 4, .inl (upd f1 ((nI j) : Int32).toNatClampNeg 0)))] := hD
          refine lv_iinc (v := nI (j + 1)) (lv' := [(7, .int (nI (j + 1))), (0, .ref h0), (1, .ref bs), (2, .int (nI mn)), (3, .ref qt), (4, .int xkd), (5, .int (nI i)), (6, .ref qf)]) hx hb dX0_askedPut_82 hl (k := 7) rfl (by exact nI_1 j) (by decide) rfl (fun ls hl => ?_)
          refine lv_goto (tgt := 33) hx hb dX0_askedPut_85 (by decide) ?_
          refine W.widen (k := 1 + i + 1) (n := 16 * mn + 4 * i + 4) (by omega) (by omega) ?_
          exact ih2 (by omega) (upd f1 ((nI j) : Int32).toNatClampNeg 0) H locs ls ⟨hP.sub (ws' := [(h0, .inr (0, [.ref q, .int (nI (16 * i))])), (q, .inl (dB, 4096, .inl a1)), (qt, .inl (dT, 16 * mn, .inl t1)), (qf, .inl (dF, 4, .inl (upd f1 ((nI j) : Int32).toNatClampNeg 0)))]) [0, 1, 2, 3] rfl, hD.sub (ws' := [(h0, .inr (0, [.ref q, .int (nI (16 * i))])), (q, .inl (dB, 4096, .inl a1)), (qt, .inl (dT, 16 * mn, .inl t1)), (qf, .inl (dF, 4, .inl (upd f1 ((nI j) : Int32).toNatClampNeg 0)))]) [0, 1, 2, 3] (by decide) rfl, hS, lv_sub (l' := [(0, .ref h0), (1, .ref bs), (2, .int (nI mn)), (3, .ref qt), (4, .int xkd), (5, .int (nI i)), (6, .ref qf), (7, .int (nI (j + 1)))]) hl [1, 2, 3, 4, 5, 6, 7, 0] rfl, trivial⟩
      · skip
        refine lv_iconst (v := (-1)) hx hb dX0_askedPut_48 (by decide) ?_
        refine lv_goto (tgt := 81) hx hb dX0_askedPut_49 (by decide) ?_
        refine va_iast hx hb hK hP hD hS 3 2 rfl rfl (vp_in_nI hj4 (by decide)) dX0_askedPut_81 (fun H locs hP hD hS => ?_)
        have hP : va_P D zCl [(h0, .inr (0, [.ref q, .int (nI (16 * i))])), (q, .inl (dB, 4096, .inl a1)), (qt, .inl (dT, 16 * mn, .inl t1)), (qf, .inl (dF, 4, .inl (upd f1 ((nI j) : Int32).toNatClampNeg (-1))))] H := hP
        have hD : va_D A [(h0, .inr (0, [.ref q, .int (nI (16 * i))])), (q, .inl (dB, 4096, .inl a1)), (qt, .inl (dT, 16 * mn, .inl t1)), (qf, .inl (dF, 4, .inl (upd f1 ((nI j) : Int32).toNatClampNeg (-1))))] := hD
        refine lv_iinc (v := nI (j + 1)) (lv' := [(7, .int (nI (j + 1))), (0, .ref h0), (1, .ref bs), (2, .int (nI mn)), (3, .ref qt), (4, .int xkd), (5, .int (nI i)), (6, .ref qf)]) hx hb dX0_askedPut_82 hl (k := 7) rfl (by exact nI_1 j) (by decide) rfl (fun ls hl => ?_)
        refine lv_goto (tgt := 33) hx hb dX0_askedPut_85 (by decide) ?_
        refine W.widen (k := 1 + i + 1) (n := 16 * mn + 4 * i + 4) (by omega) (by omega) ?_
        exact ih2 (by omega) (upd f1 ((nI j) : Int32).toNatClampNeg (-1)) H locs ls ⟨hP.sub (ws' := [(h0, .inr (0, [.ref q, .int (nI (16 * i))])), (q, .inl (dB, 4096, .inl a1)), (qt, .inl (dT, 16 * mn, .inl t1)), (qf, .inl (dF, 4, .inl (upd f1 ((nI j) : Int32).toNatClampNeg (-1))))]) [0, 1, 2, 3] rfl, hD.sub (ws' := [(h0, .inr (0, [.ref q, .int (nI (16 * i))])), (q, .inl (dB, 4096, .inl a1)), (qt, .inl (dT, 16 * mn, .inl t1)), (qf, .inl (dF, 4, .inl (upd f1 ((nI j) : Int32).toNatClampNeg (-1))))]) [0, 1, 2, 3] (by decide) rfl, hS, lv_sub (l' := [(0, .ref h0), (1, .ref bs), (2, .int (nI mn)), (3, .ref qt), (4, .int xkd), (5, .int (nI i)), (6, .ref qf), (7, .int (nI (j + 1)))]) hl [1, 2, 3, 4, 5, 6, 7, 0] rfl, trivial⟩
end
section
/-! THE LAW: askedDefined -/
set_option maxHeartbeats 4000000 in
set_option maxRecDepth 100000 in
/-- askedDefined -/
theorem mX0_askedDefined (l : Launch) (D : va_G) (sz : Nat) (bs : Nat) (Ls : Nat) (xs : Nat → Int32) (t : Nat) (hL : Ls ≤ 48) : Met l yX0_askedDefined (ws_ yX0_askedDefined cX0_askedDefined 20 (some .boolean)) ({ frames := 4, cells := 430, slots := 11023, locals := 103 }) (va_Pc [.ref bs] (zP D sz [] [] (some t) (some (bs, Ls, xs)))) (va_Qi (fun (r : Int32) (_ : Unit) => r = 1) (zB D (va_A [] sz) (fun (_ : Unit) => []) (fun (_ : Unit) => [])) (va_A [] sz)) 430 11023 (va_A [] sz) := by
  refine Met.ofW (cc := cX0_askedDefined) (maxL := 20) (ret := (some .boolean)) (by decide) rfl ?_
  intro p e s m args below meth c s₁ B hml hv
  obtain ⟨rfl, hsz, hP, hK, hD0, hX⟩ := hv
  have hx := B.exec
  have hb := B.bytes
  have hr := B.returns
  have hts := atoms_spec (ws := ws_ yX0_askedDefined cX0_askedDefined 20 (some .boolean)) B.pre
  have hts : ∀ w ∈ lw_all, w.before _ s = true := fun w h => hts w (List.mem_cons_of_mem _ h)
  have hown : s.vm.findClass RX0 = some m.cls := findClass_of_methodNamed B.named
  have hlocks := B.notSynchronized
  subst hsz
  have hD := hD0.self (sz := s.heap.size)
  generalize hAe : va_A [] s.heap.size = A at hD hX ⊢
  have hA : ∀ q : Nat, s.heap.size ≤ q → A q := fun q h => by rw [← hAe]; exact Or.inr h
  have hS : va_S A s.heap s.heap [] := va_S.rf
  have hP : va_P D zCl [] s.heap := hP
  have hZt : va_Z "CRC32" "crc_table" "[I" (.ref t) A s s.heap := (hX.1 t rfl).1
  have hTt : va_T .int t 256 (fun j => .int (nI (sj_c8 j))) A s s.heap := (hX.1 t rfl).2
  have hTs : va_T .int bs Ls (fun j => .int (xs j)) A s s.heap := hX.2.1 (bs, Ls, xs) rfl
  have hl := lv_entry ([.ref bs]) (n := 20) (Nat.le_of_ble_eq_true rfl)
  rw [lg_entry_eq]
  generalize (lg_sl ([.ref bs]) ++ List.replicate (20 - (lg_sl ([.ref bs])).length) Slot.unset).toArray = ls at hl ⊢
  have hl : lv_has ls 20 [(0, .ref bs)] := hl
  have hAO : zA_O s := hX.2.2 t rfl
  refine va_new (ci := 0) (fs := [.null, .int 0]) (C := RX1) (T := TX1) (N := 2) hx hb hts in_X1 tyX1 tyX1_ok hown (hts _ q13) (hts _ q14) (hts _ q4) hK hP hD hS hA rfl (fun j hj => by rcases (show j = 0 ∨ j = 1 by omega) with rfl | rfl <;> rfl) (Nat.le_of_ble_eq_true rfl) (Nat.le_of_ble_eq_true rfl) dX0_askedDefined_0 (fun o1 H hP hD hS => ?_)
  have hP : va_P D zCl [(o1, .inr (0, [.null, .int 0]))] H := hP
  have hD : va_D A [(o1, .inr (0, [.null, .int 0]))] := hD
  refine lv_dup hx hb dX0_askedDefined_3 rfl ?_
  refine z_gov (wr := []) (va_runI (As := []) (rest := [.ref o1]) ⟨hx, hb, hml, hown, hts⟩ (mX1_init l D H.size o1) (cwI 0 hts (lw_meth q17) rfl rfl rfl (hts _ q4) (hts _ q15) (hts _ q16) rfl (by decide +kernel) ⟨(Nat.le_of_ble_eq_true rfl), (Nat.le_of_ble_eq_true rfl)⟩) (z_pre hK hP hD hS hA hX [0] [] rfl (by decide) rfl (fun _ h9 => by cases h9) (fun _ h9 => by cases h9)) rfl rfl hl.1 rfl (lv_room (Nat.le_of_ble_eq_true rfl)) dX0_askedDefined_4 ⟨(Nat.le_of_ble_eq_true rfl), (Nat.le_of_ble_eq_true rfl)⟩) hK hP hD hS hA [0] [] rfl rfl (by decide) (by decide) (fun u_1 H locs h_3 hK hP hD hS => ?_)
  obtain ⟨t1, d1⟩ := u_1
  have hK : va_K D zCl [(d1, .byte)] s := hK
  have hP : va_P D zCl [(o1, .inr (0, [.ref t1, .int (nI 0)])), (t1, .inl (d1, 4096, .inl (fun _ => 0)))] H := hP
  have hD : va_D A [(o1, .inr (0, [.ref t1, .int (nI 0)])), (t1, .inl (d1, 4096, .inl (fun _ => 0)))] := hD
  have hP : va_P D zCl [(o1, .inr (0, [.ref t1, .int (nI 0)])), (t1, .inl (d1, 4096, .inl sj_z))] H := hP
  have hD : va_D A [(o1, .inr (0, [.ref t1, .int (nI 0)])), (t1, .inl (d1, 4096, .inl sj_z))] := hD
  refine lv_astore_n (lv' := [(1, .ref o1), (0, .ref bs)]) hx hb dX0_askedDefined_7 rfl hl (by decide) rfl (fun ls hl => ?_)
  refine lv_iconst (v := nI 1) hx hb dX0_askedDefined_8 (by rfl) ?_
  refine lv_aload_n hx hb dX0_askedDefined_9 rfl (lv_at hl 1 rfl) ?_
  refine lv_bipush (v := nI 44) hx hb dX0_askedDefined_10 (by decide +kernel) ?_
  refine z_goi (wr := [(o1, .inr (0, [.ref t1, .int (nI 0)])), (t1, .inl (d1, 4096, .inl sj_z))]) (va_runS (As := [.ref bs, .int (nI 44)]) (rest := [.int (nI 1)]) ⟨hx, hb, hml, hown, hts⟩ (mX0_askedCell l D H.size bs Ls xs 44 hL (by decide)) (va_cwS 2 hts (lw_S q153 q154 q3 q155) rfl rfl rfl (by decide +kernel) ⟨(Nat.le_of_ble_eq_true rfl), (Nat.le_of_ble_eq_true rfl)⟩) (z_pre hK hP hD hS hA hX [] [] rfl (by decide) rfl (fun _ h9 => by cases h9) (fun _ h9 => h9)) rfl rfl hl.1 rfl (lv_room (Nat.le_of_ble_eq_true rfl)) dX0_askedDefined_12 ⟨(Nat.le_of_ble_eq_true rfl), (Nat.le_of_ble_eq_true rfl)⟩) hK hP hD hS hA [] [0, 1] rfl rfl (by decide) (by decide) (fun r_5 u_4 H locs h_6 _ hP hD hS => ?_)
  have hP : va_P D zCl [(o1, .inr (0, [.ref t1, .int (nI 0)])), (t1, .inl (d1, 4096, .inl sj_z))] H := hP
  have hD : va_D A [(o1, .inr (0, [.ref t1, .int (nI 0)])), (t1, .inl (d1, 4096, .inl sj_z))] := hD
  have h_6 : r_5 = sj_cell Ls xs 44 := h_6
  subst h_6
  refine lv_sipush (v := 255) hx hb dX0_askedDefined_15 (by decide +kernel) ?_
  refine lv_iand hx hb dX0_askedDefined_18 ?_
  refine lv_topi (fun x_7 e_7 => ?_)
  have e_7 : x_7 = nI (sj_by (sj_cell Ls xs 44)) := by refine e_7.trans ?_; exact zj_by _
  subst e_7
  refine lv_iadd hx hb dX0_askedDefined_19 ?_
  refine lv_topi (fun x_8 e_8 => ?_)
  have e_8 : x_8 = nI (1 + sj_by (sj_cell Ls xs 44)) := by refine e_8.trans ?_; exact nI_add 1 _
  subst e_8
  have hm0 := sj_by_lt (sj_cell Ls xs 44)
  generalize hmn : 1 + sj_by (sj_cell Ls xs 44) = mn
  refine lv_istore_n (lv' := [(2, .int (nI mn)), (1, .ref o1), (0, .ref bs)]) hx hb dX0_askedDefined_20 rfl hl (by decide) rfl (fun ls hl => ?_)
  refine lv_aload_n hx hb dX0_askedDefined_21 rfl (lv_at hl 1 rfl) ?_
  refine lv_aload_n hx hb dX0_askedDefined_22 rfl (lv_at hl 2 rfl) ?_
  refine lv_iload_n hx hb dX0_askedDefined_23 rfl (lv_at hl 0 rfl) ?_
  refine z_gor (wr := []) (va_runS (As := [.ref o1, .ref bs, .int (nI mn)]) (rest := []) ⟨hx, hb, hml, hown, hts⟩ (mX0_askedPut l D H.size bs Ls xs o1 t1 d1 sj_z mn hL (by omega) (by omega)) (va_cwS 3 hts (lw_S q156 q157 q3 q158) rfl rfl rfl (by decide +kernel) ⟨(Nat.le_of_ble_eq_true rfl), (Nat.le_of_ble_eq_true rfl)⟩) (z_pre hK hP hD hS hA hX [0, 1] [0] rfl (by decide) rfl (fun _ h9 => by cases h9) (fun _ h9 => h9)) rfl rfl hl.1 rfl (lv_room (Nat.le_of_ble_eq_true rfl)) dX0_askedDefined_24 ⟨(Nat.le_of_ble_eq_true rfl), (Nat.le_of_ble_eq_true rfl)⟩) hK hP hD hS hA [0, 1] [] rfl rfl (by decide) (by decide) (fun u_9 qt H locs htx hK hP hD hS => ?_)
  obtain ⟨a2, d2, t2⟩ := u_9
  have hK : va_K D zCl [(d1, .byte), (d2, .int)] s := hK
  have hP : va_P D zCl [(o1, .inr (0, [.ref t1, .int (nI (16 * mn))])), (t1, .inl (d1, 4096, .inl a2)), (qt, .inl (d2, 16 * mn, .inl t2))] H := hP
  have hD : va_D A [(o1, .inr (0, [.ref t1, .int (nI (16 * mn))])), (t1, .inl (d1, 4096, .inl a2)), (qt, .inl (d2, 16 * mn, .inl t2))] := hD
  have htx : ∀ j, j < 16 * mn → t2 j = nI (sj_by (a2 j)) := htx
  have hN : 16 * mn ≤ 4096 := by omega
  clear hmn hm0
  refine lv_astore_n (lv' := [(3, .ref qt), (2, .int (nI mn)), (1, .ref o1), (0, .ref bs)]) hx hb dX0_askedDefined_27 rfl hl (by decide) rfl (fun ls hl => ?_)
  refine lv_aload_n hx hb dX0_askedDefined_28 rfl (lv_at hl 0 rfl) ?_
  refine va_alen (v := nI (16 * mn)) hx hb hK hP 2 1 rfl rfl (rfl) dX0_askedDefined_29 ?_
  refine lv_istore (lv' := [(4, .int (nI (16 * mn))), (3, .ref qt), (2, .int (nI mn)), (1, .ref o1), (0, .ref bs)]) hx hb dX0_askedDefined_30 hl (by decide) rfl (fun ls hl => ?_)
  refine lv_iconst (v := nI 5) hx hb dX0_askedDefined_32 (by rfl) ?_
  refine zA_new (N' := 5) hx hb hown (hts _ q159) hAO hK hP hD hS hA (by decide) (by decide +kernel) (Nat.le_of_ble_eq_true rfl) (Nat.le_of_ble_eq_true rfl) (Nat.le_of_ble_eq_true rfl) dX0_askedDefined_33 (fun qo dO H hCO hK hP hD hS => ?_)
  have hK : va_K D zCl [(d1, .byte), (d2, .int), (dO, .array .int)] s := hK
  have hP : va_P D zCl [(o1, .inr (0, [.ref t1, .int (nI (16 * mn))])), (t1, .inl (d1, 4096, .inl a2)), (qt, .inl (d2, 16 * mn, .inl t2)), (qo, .inl (dO, 5, .inr (.inr (.inr (.inr (fun _ => none))))))] H := hP
  have hD : va_D A [(o1, .inr (0, [.ref t1, .int (nI (16 * mn))])), (t1, .inl (d1, 4096, .inl a2)), (qt, .inl (d2, 16 * mn, .inl t2)), (qo, .inl (dO, 5, .inr (.inr (.inr (.inr (fun _ => none))))))] := hD
  refine lv_dup hx hb dX0_askedDefined_36 rfl ?_
  refine lv_iconst (v := 0) hx hb dX0_askedDefined_37 (by decide) ?_
  refine lv_iconst (v := 2) hx hb dX0_askedDefined_38 (by decide) ?_
  refine va_newa (atype := .int) (ty := .int) (N' := 2) (a0 := (2, .inl (fun _ => 0))) hx hb (hts _ q168) rfl hK hP hD hS hA (fun _ => rfl) (by decide) (by decide +kernel) (Nat.le_of_ble_eq_true rfl) (Nat.le_of_ble_eq_true rfl) (Nat.le_of_ble_eq_true rfl) dX0_askedDefined_39 (fun qa da H hK hP hD hS => ?_)
  have hK : va_K D zCl [(d1, .byte), (d2, .int), (dO, .array .int), (da, .int)] s := hK
  have hP : va_P D zCl [(o1, .inr (0, [.ref t1, .int (nI (16 * mn))])), (t1, .inl (d1, 4096, .inl a2)), (qt, .inl (d2, 16 * mn, .inl t2)), (qo, .inl (dO, 5, .inr (.inr (.inr (.inr (fun _ => none)))))), (qa, .inl (da, 2, .inl (fun _ => 0)))] H := hP
  have hD : va_D A [(o1, .inr (0, [.ref t1, .int (nI (16 * mn))])), (t1, .inl (d1, 4096, .inl a2)), (qt, .inl (d2, 16 * mn, .inl t2)), (qo, .inl (dO, 5, .inr (.inr (.inr (.inr (fun _ => none)))))), (qa, .inl (da, 2, .inl (fun _ => 0)))] := hD
  refine lv_dup hx hb dX0_askedDefined_41 rfl ?_
  refine lv_iconst (v := 0) hx hb dX0_askedDefined_42 (by decide) ?_
  refine lv_iconst (v := 0) hx hb dX0_askedDefined_43 (by decide) ?_
  refine va_iast hx hb hK hP hD hS 4 3 rfl rfl (pk_in 0 2 (by decide)) dX0_askedDefined_44 (fun H locs hP hD hS => ?_)
  have hP : va_P D zCl [(o1, .inr (0, [.ref t1, .int (nI (16 * mn))])), (t1, .inl (d1, 4096, .inl a2)), (qt, .inl (d2, 16 * mn, .inl t2)), (qo, .inl (dO, 5, .inr (.inr (.inr (.inr (fun _ => none)))))), (qa, .inl (da, 2, .inl (upd (fun _ => 0) (0 : Int32).toNatClampNeg 0)))] H := hP
  have hD : va_D A [(o1, .inr (0, [.ref t1, .int (nI (16 * mn))])), (t1, .inl (d1, 4096, .inl a2)), (qt, .inl (d2, 16 * mn, .inl t2)), (qo, .inl (dO, 5, .inr (.inr (.inr (.inr (fun _ => none)))))), (qa, .inl (da, 2, .inl (upd (fun _ => 0) (0 : Int32).toNatClampNeg 0)))] := hD
  refine lv_dup hx hb dX0_askedDefined_45 rfl ?_
  refine lv_iconst (v := 1) hx hb dX0_askedDefined_46 (by decide) ?_
  refine lv_iload hx hb dX0_askedDefined_47 (lv_at hl 0 rfl) ?_
  refine va_iast hx hb hK hP hD hS 4 3 rfl rfl (pk_in 1 2 (by decide)) dX0_askedDefined_49 (fun H locs hP hD hS => ?_)
  have hP : va_P D zCl [(o1, .inr (0, [.ref t1, .int (nI (16 * mn))])), (t1, .inl (d1, 4096, .inl a2)), (qt, .inl (d2, 16 * mn, .inl t2)), (qo, .inl (dO, 5, .inr (.inr (.inr (.inr (fun _ => none)))))), (qa, .inl (da, 2, .inl (upd (upd (fun _ => 0) (0 : Int32).toNatClampNeg 0) (1 : Int32).toNatClampNeg (nI (16 * mn)))))] H := hP
  have hD : va_D A [(o1, .inr (0, [.ref t1, .int (nI (16 * mn))])), (t1, .inl (d1, 4096, .inl a2)), (qt, .inl (d2, 16 * mn, .inl t2)), (qo, .inl (dO, 5, .inr (.inr (.inr (.inr (fun _ => none)))))), (qa, .inl (da, 2, .inl (upd (upd (fun _ => 0) (0 : Int32).toNatClampNeg 0) (1 : Int32).toNatClampNeg (nI (16 * mn)))))] := hD
  generalize (upd (upd (fun _ => 0) (0 : Int32).toNatClampNeg 0) (1 : Int32).toNatClampNeg (nI (16 * mn))) = fa at hP hD
  have hP : va_P D zCl [(o1, .inr (0, [.ref t1, .int (nI (16 * mn))])), (t1, .inl (d1, 4096, .inl a2)), (qt, .inl (d2, 16 * mn, .inl t2)), (qo, .inl (dO, 5, .inr (.inr (.inr (.inr (fun _ => none)))))), (qa, .inl (da, 2, .inl fa))] H := hP
  have hD : va_D A [(o1, .inr (0, [.ref t1, .int (nI (16 * mn))])), (t1, .inl (d1, 4096, .inl a2)), (qt, .inl (d2, 16 * mn, .inl t2)), (qo, .inl (dO, 5, .inr (.inr (.inr (.inr (fun _ => none)))))), (qa, .inl (da, 2, .inl fa))] := hD
  refine zA_st hx hb hK hP hD hS 3 4 3 hCO rfl rfl rfl (pk_in 0 5 (by decide)) dX0_askedDefined_50 (fun H locs hP hD hS => ?_)
  rw [show va_up (fun _ => none) ((0 : Int32)).toNatClampNeg (some qa) = (va_up (fun _ => none) 0 (some qa)) by rfl] at hP hD
  have hP : va_P D zCl [(o1, .inr (0, [.ref t1, .int (nI (16 * mn))])), (t1, .inl (d1, 4096, .inl a2)), (qt, .inl (d2, 16 * mn, .inl t2)), (qo, .inl (dO, 5, .inr (.inr (.inr (.inr (va_up (fun _ => none) 0 (some qa))))))), (qa, .inl (da, 2, .inl fa))] H := hP
  have hD : va_D A [(o1, .inr (0, [.ref t1, .int (nI (16 * mn))])), (t1, .inl (d1, 4096, .inl a2)), (qt, .inl (d2, 16 * mn, .inl t2)), (qo, .inl (dO, 5, .inr (.inr (.inr (.inr (va_up (fun _ => none) 0 (some qa))))))), (qa, .inl (da, 2, .inl fa))] := hD
  refine lv_dup hx hb dX0_askedDefined_51 rfl ?_
  refine lv_iconst (v := 1) hx hb dX0_askedDefined_52 (by decide) ?_
  refine lv_iconst (v := 2) hx hb dX0_askedDefined_53 (by decide) ?_
  refine va_newa (atype := .int) (ty := .int) (N' := 2) (a0 := (2, .inl (fun _ => 0))) hx hb (hts _ q168) rfl hK hP hD hS hA (fun _ => rfl) (by decide) (by decide +kernel) (Nat.le_of_ble_eq_true rfl) (Nat.le_of_ble_eq_true rfl) (Nat.le_of_ble_eq_true rfl) dX0_askedDefined_54 (fun qb db H hK hP hD hS => ?_)
  have hK : va_K D zCl [(d1, .byte), (d2, .int), (dO, .array .int), (da, .int), (db, .int)] s := hK
  have hP : va_P D zCl [(o1, .inr (0, [.ref t1, .int (nI (16 * mn))])), (t1, .inl (d1, 4096, .inl a2)), (qt, .inl (d2, 16 * mn, .inl t2)), (qo, .inl (dO, 5, .inr (.inr (.inr (.inr (va_up (fun _ => none) 0 (some qa))))))), (qa, .inl (da, 2, .inl fa)), (qb, .inl (db, 2, .inl (fun _ => 0)))] H := hP
  have hD : va_D A [(o1, .inr (0, [.ref t1, .int (nI (16 * mn))])), (t1, .inl (d1, 4096, .inl a2)), (qt, .inl (d2, 16 * mn, .inl t2)), (qo, .inl (dO, 5, .inr (.inr (.inr (.inr (va_up (fun _ => none) 0 (some qa))))))), (qa, .inl (da, 2, .inl fa)), (qb, .inl (db, 2, .inl (fun _ => 0)))] := hD
  refine lv_dup hx hb dX0_askedDefined_56 rfl ?_
  refine lv_iconst (v := 0) hx hb dX0_askedDefined_57 (by decide) ?_
  refine lv_aload_n hx hb dX0_askedDefined_58 rfl (lv_at hl 4 rfl) ?_
  refine lv_iconst (v := nI 0) hx hb dX0_askedDefined_59 (by rfl) ?_
  refine z_goi (wr := [(o1, .inr (0, [.ref t1, .int (nI (16 * mn))])), (t1, .inl (d1, 4096, .inl a2)), (qt, .inl (d2, 16 * mn, .inl t2)), (qo, .inl (dO, 5, .inr (.inr (.inr (.inr (va_up (fun _ => none) 0 (some qa))))))), (qa, .inl (da, 2, .inl fa)), (qb, .inl (db, 2, .inl (fun _ => 0)))]) (va_runS (As := [.ref bs, .int (nI 0)]) (rest := [.int 0, .ref qb, .ref qb, .int 1, .ref qo, .ref qo]) ⟨hx, hb, hml, hown, hts⟩ (mX0_askedCell l D H.size bs Ls xs 0 hL (by decide)) (va_cwS 2 hts (lw_S q153 q154 q3 q155) rfl rfl rfl (by decide +kernel) ⟨(Nat.le_of_ble_eq_true rfl), (Nat.le_of_ble_eq_true rfl)⟩) (z_pre hK hP hD hS hA hX [] [] rfl (by decide) rfl (fun _ h9 => by cases h9) (fun _ h9 => h9)) rfl rfl hl.1 rfl (lv_room (Nat.le_of_ble_eq_true rfl)) dX0_askedDefined_60 ⟨(Nat.le_of_ble_eq_true rfl), (Nat.le_of_ble_eq_true rfl)⟩) hK hP hD hS hA [] [0, 1, 2, 3, 4, 5] rfl rfl (by decide) (by decide) (fun r_11 u_10 H locs h_12 _ hP hD hS => ?_)
  have hP : va_P D zCl [(o1, .inr (0, [.ref t1, .int (nI (16 * mn))])), (t1, .inl (d1, 4096, .inl a2)), (qt, .inl (d2, 16 * mn, .inl t2)), (qo, .inl (dO, 5, .inr (.inr (.inr (.inr (va_up (fun _ => none) 0 (some qa))))))), (qa, .inl (da, 2, .inl fa)), (qb, .inl (db, 2, .inl (fun _ => 0)))] H := hP
  have hD : va_D A [(o1, .inr (0, [.ref t1, .int (nI (16 * mn))])), (t1, .inl (d1, 4096, .inl a2)), (qt, .inl (d2, 16 * mn, .inl t2)), (qo, .inl (dO, 5, .inr (.inr (.inr (.inr (va_up (fun _ => none) 0 (some qa))))))), (qa, .inl (da, 2, .inl fa)), (qb, .inl (db, 2, .inl (fun _ => 0)))] := hD
  have h_12 : r_11 = sj_cell Ls xs 0 := h_12
  subst h_12
  refine va_iast hx hb hK hP hD hS 5 4 rfl rfl (pk_in 0 2 (by decide)) dX0_askedDefined_63 (fun H locs hP hD hS => ?_)
  have hP : va_P D zCl [(o1, .inr (0, [.ref t1, .int (nI (16 * mn))])), (t1, .inl (d1, 4096, .inl a2)), (qt, .inl (d2, 16 * mn, .inl t2)), (qo, .inl (dO, 5, .inr (.inr (.inr (.inr (va_up (fun _ => none) 0 (some qa))))))), (qa, .inl (da, 2, .inl fa)), (qb, .inl (db, 2, .inl (upd (fun _ => 0) (0 : Int32).toNatClampNeg (sj_cell Ls xs 0))))] H := hP
  have hD : va_D A [(o1, .inr (0, [.ref t1, .int (nI (16 * mn))])), (t1, .inl (d1, 4096, .inl a2)), (qt, .inl (d2, 16 * mn, .inl t2)), (qo, .inl (dO, 5, .inr (.inr (.inr (.inr (va_up (fun _ => none) 0 (some qa))))))), (qa, .inl (da, 2, .inl fa)), (qb, .inl (db, 2, .inl (upd (fun _ => 0) (0 : Int32).toNatClampNeg (sj_cell Ls xs 0))))] := hD
  refine lv_dup hx hb dX0_askedDefined_64 rfl ?_
  refine lv_iconst (v := 1) hx hb dX0_askedDefined_65 (by decide) ?_
  refine lv_aload_n hx hb dX0_askedDefined_66 rfl (lv_at hl 4 rfl) ?_
  refine lv_iconst (v := nI 1) hx hb dX0_askedDefined_67 (by rfl) ?_
  refine z_goi (wr := [(o1, .inr (0, [.ref t1, .int (nI (16 * mn))])), (t1, .inl (d1, 4096, .inl a2)), (qt, .inl (d2, 16 * mn, .inl t2)), (qo, .inl (dO, 5, .inr (.inr (.inr (.inr (va_up (fun _ => none) 0 (some qa))))))), (qa, .inl (da, 2, .inl fa)), (qb, .inl (db, 2, .inl (upd (fun _ => 0) (0 : Int32).toNatClampNeg (sj_cell Ls xs 0))))]) (va_runS (As := [.ref bs, .int (nI 1)]) (rest := [.int 1, .ref qb, .ref qb, .int 1, .ref qo, .ref qo]) ⟨hx, hb, hml, hown, hts⟩ (mX0_askedCell l D H.size bs Ls xs 1 hL (by decide)) (va_cwS 2 hts (lw_S q153 q154 q3 q155) rfl rfl rfl (by decide +kernel) ⟨(Nat.le_of_ble_eq_true rfl), (Nat.le_of_ble_eq_true rfl)⟩) (z_pre hK hP hD hS hA hX [] [] rfl (by decide) rfl (fun _ h9 => by cases h9) (fun _ h9 => h9)) rfl rfl hl.1 rfl (lv_room (Nat.le_of_ble_eq_true rfl)) dX0_askedDefined_68 ⟨(Nat.le_of_ble_eq_true rfl), (Nat.le_of_ble_eq_true rfl)⟩) hK hP hD hS hA [] [0, 1, 2, 3, 4, 5] rfl rfl (by decide) (by decide) (fun r_14 u_13 H locs h_15 _ hP hD hS => ?_)
  have hP : va_P D zCl [(o1, .inr (0, [.ref t1, .int (nI (16 * mn))])), (t1, .inl (d1, 4096, .inl a2)), (qt, .inl (d2, 16 * mn, .inl t2)), (qo, .inl (dO, 5, .inr (.inr (.inr (.inr (va_up (fun _ => none) 0 (some qa))))))), (qa, .inl (da, 2, .inl fa)), (qb, .inl (db, 2, .inl (upd (fun _ => 0) (0 : Int32).toNatClampNeg (sj_cell Ls xs 0))))] H := hP
  have hD : va_D A [(o1, .inr (0, [.ref t1, .int (nI (16 * mn))])), (t1, .inl (d1, 4096, .inl a2)), (qt, .inl (d2, 16 * mn, .inl t2)), (qo, .inl (dO, 5, .inr (.inr (.inr (.inr (va_up (fun _ => none) 0 (some qa))))))), (qa, .inl (da, 2, .inl fa)), (qb, .inl (db, 2, .inl (upd (fun _ => 0) (0 : Int32).toNatClampNeg (sj_cell Ls xs 0))))] := hD
  have h_15 : r_14 = sj_cell Ls xs 1 := h_15
  subst h_15
  refine va_iast hx hb hK hP hD hS 5 4 rfl rfl (pk_in 1 2 (by decide)) dX0_askedDefined_71 (fun H locs hP hD hS => ?_)
  have hP : va_P D zCl [(o1, .inr (0, [.ref t1, .int (nI (16 * mn))])), (t1, .inl (d1, 4096, .inl a2)), (qt, .inl (d2, 16 * mn, .inl t2)), (qo, .inl (dO, 5, .inr (.inr (.inr (.inr (va_up (fun _ => none) 0 (some qa))))))), (qa, .inl (da, 2, .inl fa)), (qb, .inl (db, 2, .inl (upd (upd (fun _ => 0) (0 : Int32).toNatClampNeg (sj_cell Ls xs 0)) (1 : Int32).toNatClampNeg (sj_cell Ls xs 1))))] H := hP
  have hD : va_D A [(o1, .inr (0, [.ref t1, .int (nI (16 * mn))])), (t1, .inl (d1, 4096, .inl a2)), (qt, .inl (d2, 16 * mn, .inl t2)), (qo, .inl (dO, 5, .inr (.inr (.inr (.inr (va_up (fun _ => none) 0 (some qa))))))), (qa, .inl (da, 2, .inl fa)), (qb, .inl (db, 2, .inl (upd (upd (fun _ => 0) (0 : Int32).toNatClampNeg (sj_cell Ls xs 0)) (1 : Int32).toNatClampNeg (sj_cell Ls xs 1))))] := hD
  generalize (upd (upd (fun _ => 0) (0 : Int32).toNatClampNeg (sj_cell Ls xs 0)) (1 : Int32).toNatClampNeg (sj_cell Ls xs 1)) = fb at hP hD
  have hP : va_P D zCl [(o1, .inr (0, [.ref t1, .int (nI (16 * mn))])), (t1, .inl (d1, 4096, .inl a2)), (qt, .inl (d2, 16 * mn, .inl t2)), (qo, .inl (dO, 5, .inr (.inr (.inr (.inr (va_up (fun _ => none) 0 (some qa))))))), (qa, .inl (da, 2, .inl fa)), (qb, .inl (db, 2, .inl fb))] H := hP
  have hD : va_D A [(o1, .inr (0, [.ref t1, .int (nI (16 * mn))])), (t1, .inl (d1, 4096, .inl a2)), (qt, .inl (d2, 16 * mn, .inl t2)), (qo, .inl (dO, 5, .inr (.inr (.inr (.inr (va_up (fun _ => none) 0 (some qa))))))), (qa, .inl (da, 2, .inl fa)), (qb, .inl (db, 2, .inl fb))] := hD
  refine zA_st hx hb hK hP hD hS 3 5 4 hCO rfl rfl rfl (pk_in 1 5 (by decide)) dX0_askedDefined_72 (fun H locs hP hD hS => ?_)
  rw [show va_up (va_up (fun _ => none) 0 (some qa)) ((1 : Int32)).toNatClampNeg (some qb) = (va_up (va_up (fun _ => none) 0 (some qa)) 1 (some qb)) by rfl] at hP hD
  have hP : va_P D zCl [(o1, .inr (0, [.ref t1, .int (nI (16 * mn))])), (t1, .inl (d1, 4096, .inl a2)), (qt, .inl (d2, 16 * mn, .inl t2)), (qo, .inl (dO, 5, .inr (.inr (.inr (.inr (va_up (va_up (fun _ => none) 0 (some qa)) 1 (some qb))))))), (qa, .inl (da, 2, .inl fa)), (qb, .inl (db, 2, .inl fb))] H := hP
  have hD : va_D A [(o1, .inr (0, [.ref t1, .int (nI (16 * mn))])), (t1, .inl (d1, 4096, .inl a2)), (qt, .inl (d2, 16 * mn, .inl t2)), (qo, .inl (dO, 5, .inr (.inr (.inr (.inr (va_up (va_up (fun _ => none) 0 (some qa)) 1 (some qb))))))), (qa, .inl (da, 2, .inl fa)), (qb, .inl (db, 2, .inl fb))] := hD
  refine lv_dup hx hb dX0_askedDefined_73 rfl ?_
  refine lv_iconst (v := 2) hx hb dX0_askedDefined_74 (by decide) ?_
  refine lv_iconst (v := 2) hx hb dX0_askedDefined_75 (by decide) ?_
  refine va_newa (atype := .int) (ty := .int) (N' := 2) (a0 := (2, .inl (fun _ => 0))) hx hb (hts _ q168) rfl hK hP hD hS hA (fun _ => rfl) (by decide) (by decide +kernel) (Nat.le_of_ble_eq_true rfl) (Nat.le_of_ble_eq_true rfl) (Nat.le_of_ble_eq_true rfl) dX0_askedDefined_76 (fun qc dc H hK hP hD hS => ?_)
  have hK : va_K D zCl [(d1, .byte), (d2, .int), (dO, .array .int), (da, .int), (db, .int), (dc, .int)] s := hK
  have hP : va_P D zCl [(o1, .inr (0, [.ref t1, .int (nI (16 * mn))])), (t1, .inl (d1, 4096, .inl a2)), (qt, .inl (d2, 16 * mn, .inl t2)), (qo, .inl (dO, 5, .inr (.inr (.inr (.inr (va_up (va_up (fun _ => none) 0 (some qa)) 1 (some qb))))))), (qa, .inl (da, 2, .inl fa)), (qb, .inl (db, 2, .inl fb)), (qc, .inl (dc, 2, .inl (fun _ => 0)))] H := hP
  have hD : va_D A [(o1, .inr (0, [.ref t1, .int (nI (16 * mn))])), (t1, .inl (d1, 4096, .inl a2)), (qt, .inl (d2, 16 * mn, .inl t2)), (qo, .inl (dO, 5, .inr (.inr (.inr (.inr (va_up (va_up (fun _ => none) 0 (some qa)) 1 (some qb))))))), (qa, .inl (da, 2, .inl fa)), (qb, .inl (db, 2, .inl fb)), (qc, .inl (dc, 2, .inl (fun _ => 0)))] := hD
  refine lv_dup hx hb dX0_askedDefined_78 rfl ?_
  refine lv_iconst (v := 0) hx hb dX0_askedDefined_79 (by decide) ?_
  refine lv_iload hx hb dX0_askedDefined_80 (lv_at hl 0 rfl) ?_
  refine va_iast hx hb hK hP hD hS 6 5 rfl rfl (pk_in 0 2 (by decide)) dX0_askedDefined_82 (fun H locs hP hD hS => ?_)
  have hP : va_P D zCl [(o1, .inr (0, [.ref t1, .int (nI (16 * mn))])), (t1, .inl (d1, 4096, .inl a2)), (qt, .inl (d2, 16 * mn, .inl t2)), (qo, .inl (dO, 5, .inr (.inr (.inr (.inr (va_up (va_up (fun _ => none) 0 (some qa)) 1 (some qb))))))), (qa, .inl (da, 2, .inl fa)), (qb, .inl (db, 2, .inl fb)), (qc, .inl (dc, 2, .inl (upd (fun _ => 0) (0 : Int32).toNatClampNeg (nI (16 * mn)))))] H := hP
  have hD : va_D A [(o1, .inr (0, [.ref t1, .int (nI (16 * mn))])), (t1, .inl (d1, 4096, .inl a2)), (qt, .inl (d2, 16 * mn, .inl t2)), (qo, .inl (dO, 5, .inr (.inr (.inr (.inr (va_up (va_up (fun _ => none) 0 (some qa)) 1 (some qb))))))), (qa, .inl (da, 2, .inl fa)), (qb, .inl (db, 2, .inl fb)), (qc, .inl (dc, 2, .inl (upd (fun _ => 0) (0 : Int32).toNatClampNeg (nI (16 * mn)))))] := hD
  refine lv_dup hx hb dX0_askedDefined_83 rfl ?_
  refine lv_iconst (v := 1) hx hb dX0_askedDefined_84 (by decide) ?_
  refine lv_iconst (v := 5) hx hb dX0_askedDefined_85 (by decide) ?_
  refine va_iast hx hb hK hP hD hS 6 5 rfl rfl (pk_in 1 2 (by decide)) dX0_askedDefined_86 (fun H locs hP hD hS => ?_)
  have hP : va_P D zCl [(o1, .inr (0, [.ref t1, .int (nI (16 * mn))])), (t1, .inl (d1, 4096, .inl a2)), (qt, .inl (d2, 16 * mn, .inl t2)), (qo, .inl (dO, 5, .inr (.inr (.inr (.inr (va_up (va_up (fun _ => none) 0 (some qa)) 1 (some qb))))))), (qa, .inl (da, 2, .inl fa)), (qb, .inl (db, 2, .inl fb)), (qc, .inl (dc, 2, .inl (upd (upd (fun _ => 0) (0 : Int32).toNatClampNeg (nI (16 * mn))) (1 : Int32).toNatClampNeg 5)))] H := hP
  have hD : va_D A [(o1, .inr (0, [.ref t1, .int (nI (16 * mn))])), (t1, .inl (d1, 4096, .inl a2)), (qt, .inl (d2, 16 * mn, .inl t2)), (qo, .inl (dO, 5, .inr (.inr (.inr (.inr (va_up (va_up (fun _ => none) 0 (some qa)) 1 (some qb))))))), (qa, .inl (da, 2, .inl fa)), (qb, .inl (db, 2, .inl fb)), (qc, .inl (dc, 2, .inl (upd (upd (fun _ => 0) (0 : Int32).toNatClampNeg (nI (16 * mn))) (1 : Int32).toNatClampNeg 5)))] := hD
  generalize (upd (upd (fun _ => 0) (0 : Int32).toNatClampNeg (nI (16 * mn))) (1 : Int32).toNatClampNeg 5) = fc at hP hD
  have hP : va_P D zCl [(o1, .inr (0, [.ref t1, .int (nI (16 * mn))])), (t1, .inl (d1, 4096, .inl a2)), (qt, .inl (d2, 16 * mn, .inl t2)), (qo, .inl (dO, 5, .inr (.inr (.inr (.inr (va_up (va_up (fun _ => none) 0 (some qa)) 1 (some qb))))))), (qa, .inl (da, 2, .inl fa)), (qb, .inl (db, 2, .inl fb)), (qc, .inl (dc, 2, .inl fc))] H := hP
  have hD : va_D A [(o1, .inr (0, [.ref t1, .int (nI (16 * mn))])), (t1, .inl (d1, 4096, .inl a2)), (qt, .inl (d2, 16 * mn, .inl t2)), (qo, .inl (dO, 5, .inr (.inr (.inr (.inr (va_up (va_up (fun _ => none) 0 (some qa)) 1 (some qb))))))), (qa, .inl (da, 2, .inl fa)), (qb, .inl (db, 2, .inl fb)), (qc, .inl (dc, 2, .inl fc))] := hD
  refine zA_st hx hb hK hP hD hS 3 6 5 hCO rfl rfl rfl (pk_in 2 5 (by decide)) dX0_askedDefined_87 (fun H locs hP hD hS => ?_)
  rw [show va_up (va_up (va_up (fun _ => none) 0 (some qa)) 1 (some qb)) ((2 : Int32)).toNatClampNeg (some qc) = (va_up (va_up (va_up (fun _ => none) 0 (some qa)) 1 (some qb)) 2 (some qc)) by rfl] at hP hD
  have hP : va_P D zCl [(o1, .inr (0, [.ref t1, .int (nI (16 * mn))])), (t1, .inl (d1, 4096, .inl a2)), (qt, .inl (d2, 16 * mn, .inl t2)), (qo, .inl (dO, 5, .inr (.inr (.inr (.inr (va_up (va_up (va_up (fun _ => none) 0 (some qa)) 1 (some qb)) 2 (some qc))))))), (qa, .inl (da, 2, .inl fa)), (qb, .inl (db, 2, .inl fb)), (qc, .inl (dc, 2, .inl fc))] H := hP
  have hD : va_D A [(o1, .inr (0, [.ref t1, .int (nI (16 * mn))])), (t1, .inl (d1, 4096, .inl a2)), (qt, .inl (d2, 16 * mn, .inl t2)), (qo, .inl (dO, 5, .inr (.inr (.inr (.inr (va_up (va_up (va_up (fun _ => none) 0 (some qa)) 1 (some qb)) 2 (some qc))))))), (qa, .inl (da, 2, .inl fa)), (qb, .inl (db, 2, .inl fb)), (qc, .inl (dc, 2, .inl fc))] := hD
  refine lv_dup hx hb dX0_askedDefined_88 rfl ?_
  refine lv_iconst (v := 3) hx hb dX0_askedDefined_89 (by decide) ?_
  refine lv_iconst (v := 2) hx hb dX0_askedDefined_90 (by decide) ?_
  refine va_newa (atype := .int) (ty := .int) (N' := 2) (a0 := (2, .inl (fun _ => 0))) hx hb (hts _ q168) rfl hK hP hD hS hA (fun _ => rfl) (by decide) (by decide +kernel) (Nat.le_of_ble_eq_true rfl) (Nat.le_of_ble_eq_true rfl) (Nat.le_of_ble_eq_true rfl) dX0_askedDefined_91 (fun qd dd H hK hP hD hS => ?_)
  have hK : va_K D zCl [(d1, .byte), (d2, .int), (dO, .array .int), (da, .int), (db, .int), (dc, .int), (dd, .int)] s := hK
  have hP : va_P D zCl [(o1, .inr (0, [.ref t1, .int (nI (16 * mn))])), (t1, .inl (d1, 4096, .inl a2)), (qt, .inl (d2, 16 * mn, .inl t2)), (qo, .inl (dO, 5, .inr (.inr (.inr (.inr (va_up (va_up (va_up (fun _ => none) 0 (some qa)) 1 (some qb)) 2 (some qc))))))), (qa, .inl (da, 2, .inl fa)), (qb, .inl (db, 2, .inl fb)), (qc, .inl (dc, 2, .inl fc)), (qd, .inl (dd, 2, .inl (fun _ => 0)))] H := hP
  have hD : va_D A [(o1, .inr (0, [.ref t1, .int (nI (16 * mn))])), (t1, .inl (d1, 4096, .inl a2)), (qt, .inl (d2, 16 * mn, .inl t2)), (qo, .inl (dO, 5, .inr (.inr (.inr (.inr (va_up (va_up (va_up (fun _ => none) 0 (some qa)) 1 (some qb)) 2 (some qc))))))), (qa, .inl (da, 2, .inl fa)), (qb, .inl (db, 2, .inl fb)), (qc, .inl (dc, 2, .inl fc)), (qd, .inl (dd, 2, .inl (fun _ => 0)))] := hD
  refine lv_dup hx hb dX0_askedDefined_93 rfl ?_
  refine lv_iconst (v := 0) hx hb dX0_askedDefined_94 (by decide) ?_
  refine lv_iconst (v := 1) hx hb dX0_askedDefined_95 (by decide) ?_
  refine va_iast hx hb hK hP hD hS 7 6 rfl rfl (pk_in 0 2 (by decide)) dX0_askedDefined_96 (fun H locs hP hD hS => ?_)
  have hP : va_P D zCl [(o1, .inr (0, [.ref t1, .int (nI (16 * mn))])), (t1, .inl (d1, 4096, .inl a2)), (qt, .inl (d2, 16 * mn, .inl t2)), (qo, .inl (dO, 5, .inr (.inr (.inr (.inr (va_up (va_up (va_up (fun _ => none) 0 (some qa)) 1 (some qb)) 2 (some qc))))))), (qa, .inl (da, 2, .inl fa)), (qb, .inl (db, 2, .inl fb)), (qc, .inl (dc, 2, .inl fc)), (qd, .inl (dd, 2, .inl (upd (fun _ => 0) (0 : Int32).toNatClampNeg 1)))] H := hP
  have hD : va_D A [(o1, .inr (0, [.ref t1, .int (nI (16 * mn))])), (t1, .inl (d1, 4096, .inl a2)), (qt, .inl (d2, 16 * mn, .inl t2)), (qo, .inl (dO, 5, .inr (.inr (.inr (.inr (va_up (va_up (va_up (fun _ => none) 0 (some qa)) 1 (some qb)) 2 (some qc))))))), (qa, .inl (da, 2, .inl fa)), (qb, .inl (db, 2, .inl fb)), (qc, .inl (dc, 2, .inl fc)), (qd, .inl (dd, 2, .inl (upd (fun _ => 0) (0 : Int32).toNatClampNeg 1)))] := hD
  refine lv_dup hx hb dX0_askedDefined_97 rfl ?_
  refine lv_iconst (v := 1) hx hb dX0_askedDefined_98 (by decide) ?_
  refine lv_iload hx hb dX0_askedDefined_99 (lv_at hl 0 rfl) ?_
  refine lv_iconst (v := 1) hx hb dX0_askedDefined_101 (by decide) ?_
  refine lv_isub hx hb dX0_askedDefined_102 ?_
  refine lv_topi (fun x_16 e_16 => ?_)
  refine va_iast hx hb hK hP hD hS 7 6 rfl rfl (pk_in 1 2 (by decide)) dX0_askedDefined_103 (fun H locs hP hD hS => ?_)
  have hP : va_P D zCl [(o1, .inr (0, [.ref t1, .int (nI (16 * mn))])), (t1, .inl (d1, 4096, .inl a2)), (qt, .inl (d2, 16 * mn, .inl t2)), (qo, .inl (dO, 5, .inr (.inr (.inr (.inr (va_up (va_up (va_up (fun _ => none) 0 (some qa)) 1 (some qb)) 2 (some qc))))))), (qa, .inl (da, 2, .inl fa)), (qb, .inl (db, 2, .inl fb)), (qc, .inl (dc, 2, .inl fc)), (qd, .inl (dd, 2, .inl (upd (upd (fun _ => 0) (0 : Int32).toNatClampNeg 1) (1 : Int32).toNatClampNeg x_16)))] H := hP
  have hD : va_D A [(o1, .inr (0, [.ref t1, .int (nI (16 * mn))])), (t1, .inl (d1, 4096, .inl a2)), (qt, .inl (d2, 16 * mn, .inl t2)), (qo, .inl (dO, 5, .inr (.inr (.inr (.inr (va_up (va_up (va_up (fun _ => none) 0 (some qa)) 1 (some qb)) 2 (some qc))))))), (qa, .inl (da, 2, .inl fa)), (qb, .inl (db, 2, .inl fb)), (qc, .inl (dc, 2, .inl fc)), (qd, .inl (dd, 2, .inl (upd (upd (fun _ => 0) (0 : Int32).toNatClampNeg 1) (1 : Int32).toNatClampNeg x_16)))] := hD
  generalize (upd (upd (fun _ => 0) (0 : Int32).toNatClampNeg 1) (1 : Int32).toNatClampNeg x_16) = fd at hP hD
  have hP : va_P D zCl [(o1, .inr (0, [.ref t1, .int (nI (16 * mn))])), (t1, .inl (d1, 4096, .inl a2)), (qt, .inl (d2, 16 * mn, .inl t2)), (qo, .inl (dO, 5, .inr (.inr (.inr (.inr (va_up (va_up (va_up (fun _ => none) 0 (some qa)) 1 (some qb)) 2 (some qc))))))), (qa, .inl (da, 2, .inl fa)), (qb, .inl (db, 2, .inl fb)), (qc, .inl (dc, 2, .inl fc)), (qd, .inl (dd, 2, .inl fd))] H := hP
  have hD : va_D A [(o1, .inr (0, [.ref t1, .int (nI (16 * mn))])), (t1, .inl (d1, 4096, .inl a2)), (qt, .inl (d2, 16 * mn, .inl t2)), (qo, .inl (dO, 5, .inr (.inr (.inr (.inr (va_up (va_up (va_up (fun _ => none) 0 (some qa)) 1 (some qb)) 2 (some qc))))))), (qa, .inl (da, 2, .inl fa)), (qb, .inl (db, 2, .inl fb)), (qc, .inl (dc, 2, .inl fc)), (qd, .inl (dd, 2, .inl fd))] := hD
  refine zA_st hx hb hK hP hD hS 3 7 6 hCO rfl rfl rfl (pk_in 3 5 (by decide)) dX0_askedDefined_104 (fun H locs hP hD hS => ?_)
  rw [show va_up (va_up (va_up (va_up (fun _ => none) 0 (some qa)) 1 (some qb)) 2 (some qc)) ((3 : Int32)).toNatClampNeg (some qd) = (va_up (va_up (va_up (va_up (fun _ => none) 0 (some qa)) 1 (some qb)) 2 (some qc)) 3 (some qd)) by rfl] at hP hD
  have hP : va_P D zCl [(o1, .inr (0, [.ref t1, .int (nI (16 * mn))])), (t1, .inl (d1, 4096, .inl a2)), (qt, .inl (d2, 16 * mn, .inl t2)), (qo, .inl (dO, 5, .inr (.inr (.inr (.inr (va_up (va_up (va_up (va_up (fun _ => none) 0 (some qa)) 1 (some qb)) 2 (some qc)) 3 (some qd))))))), (qa, .inl (da, 2, .inl fa)), (qb, .inl (db, 2, .inl fb)), (qc, .inl (dc, 2, .inl fc)), (qd, .inl (dd, 2, .inl fd))] H := hP
  have hD : va_D A [(o1, .inr (0, [.ref t1, .int (nI (16 * mn))])), (t1, .inl (d1, 4096, .inl a2)), (qt, .inl (d2, 16 * mn, .inl t2)), (qo, .inl (dO, 5, .inr (.inr (.inr (.inr (va_up (va_up (va_up (va_up (fun _ => none) 0 (some qa)) 1 (some qb)) 2 (some qc)) 3 (some qd))))))), (qa, .inl (da, 2, .inl fa)), (qb, .inl (db, 2, .inl fb)), (qc, .inl (dc, 2, .inl fc)), (qd, .inl (dd, 2, .inl fd))] := hD
  refine lv_dup hx hb dX0_askedDefined_105 rfl ?_
  refine lv_iconst (v := 4) hx hb dX0_askedDefined_106 (by decide) ?_
  refine lv_iconst (v := 2) hx hb dX0_askedDefined_107 (by decide) ?_
  refine va_newa (atype := .int) (ty := .int) (N' := 2) (a0 := (2, .inl (fun _ => 0))) hx hb (hts _ q168) rfl hK hP hD hS hA (fun _ => rfl) (by decide) (by decide +kernel) (Nat.le_of_ble_eq_true rfl) (Nat.le_of_ble_eq_true rfl) (Nat.le_of_ble_eq_true rfl) dX0_askedDefined_108 (fun qe de H hK hP hD hS => ?_)
  have hK : va_K D zCl [(d1, .byte), (d2, .int), (dO, .array .int), (da, .int), (db, .int), (dc, .int), (dd, .int), (de, .int)] s := hK
  have hP : va_P D zCl [(o1, .inr (0, [.ref t1, .int (nI (16 * mn))])), (t1, .inl (d1, 4096, .inl a2)), (qt, .inl (d2, 16 * mn, .inl t2)), (qo, .inl (dO, 5, .inr (.inr (.inr (.inr (va_up (va_up (va_up (va_up (fun _ => none) 0 (some qa)) 1 (some qb)) 2 (some qc)) 3 (some qd))))))), (qa, .inl (da, 2, .inl fa)), (qb, .inl (db, 2, .inl fb)), (qc, .inl (dc, 2, .inl fc)), (qd, .inl (dd, 2, .inl fd)), (qe, .inl (de, 2, .inl (fun _ => 0)))] H := hP
  have hD : va_D A [(o1, .inr (0, [.ref t1, .int (nI (16 * mn))])), (t1, .inl (d1, 4096, .inl a2)), (qt, .inl (d2, 16 * mn, .inl t2)), (qo, .inl (dO, 5, .inr (.inr (.inr (.inr (va_up (va_up (va_up (va_up (fun _ => none) 0 (some qa)) 1 (some qb)) 2 (some qc)) 3 (some qd))))))), (qa, .inl (da, 2, .inl fa)), (qb, .inl (db, 2, .inl fb)), (qc, .inl (dc, 2, .inl fc)), (qd, .inl (dd, 2, .inl fd)), (qe, .inl (de, 2, .inl (fun _ => 0)))] := hD
  refine lv_dup hx hb dX0_askedDefined_110 rfl ?_
  refine lv_iconst (v := 0) hx hb dX0_askedDefined_111 (by decide) ?_
  refine lv_iload hx hb dX0_askedDefined_112 (lv_at hl 0 rfl) ?_
  refine lv_iconst (v := 1) hx hb dX0_askedDefined_114 (by decide) ?_
  refine lv_isub hx hb dX0_askedDefined_115 ?_
  refine lv_topi (fun x_17 e_17 => ?_)
  refine va_iast hx hb hK hP hD hS 8 7 rfl rfl (pk_in 0 2 (by decide)) dX0_askedDefined_116 (fun H locs hP hD hS => ?_)
  have hP : va_P D zCl [(o1, .inr (0, [.ref t1, .int (nI (16 * mn))])), (t1, .inl (d1, 4096, .inl a2)), (qt, .inl (d2, 16 * mn, .inl t2)), (qo, .inl (dO, 5, .inr (.inr (.inr (.inr (va_up (va_up (va_up (va_up (fun _ => none) 0 (some qa)) 1 (some qb)) 2 (some qc)) 3 (some qd))))))), (qa, .inl (da, 2, .inl fa)), (qb, .inl (db, 2, .inl fb)), (qc, .inl (dc, 2, .inl fc)), (qd, .inl (dd, 2, .inl fd)), (qe, .inl (de, 2, .inl (upd (fun _ => 0) (0 : Int32).toNatClampNeg x_17)))] H := hP
  have hD : va_D A [(o1, .inr (0, [.ref t1, .int (nI (16 * mn))])), (t1, .inl (d1, 4096, .inl a2)), (qt, .inl (d2, 16 * mn, .inl t2)), (qo, .inl (dO, 5, .inr (.inr (.inr (.inr (va_up (va_up (va_up (va_up (fun _ => none) 0 (some qa)) 1 (some qb)) 2 (some qc)) 3 (some qd))))))), (qa, .inl (da, 2, .inl fa)), (qb, .inl (db, 2, .inl fb)), (qc, .inl (dc, 2, .inl fc)), (qd, .inl (dd, 2, .inl fd)), (qe, .inl (de, 2, .inl (upd (fun _ => 0) (0 : Int32).toNatClampNeg x_17)))] := hD
  refine lv_dup hx hb dX0_askedDefined_117 rfl ?_
  refine lv_iconst (v := 1) hx hb dX0_askedDefined_118 (by decide) ?_
  refine lv_iconst (v := 1) hx hb dX0_askedDefined_119 (by decide) ?_
  refine va_iast hx hb hK hP hD hS 8 7 rfl rfl (pk_in 1 2 (by decide)) dX0_askedDefined_120 (fun H locs hP hD hS => ?_)
  have hP : va_P D zCl [(o1, .inr (0, [.ref t1, .int (nI (16 * mn))])), (t1, .inl (d1, 4096, .inl a2)), (qt, .inl (d2, 16 * mn, .inl t2)), (qo, .inl (dO, 5, .inr (.inr (.inr (.inr (va_up (va_up (va_up (va_up (fun _ => none) 0 (some qa)) 1 (some qb)) 2 (some qc)) 3 (some qd))))))), (qa, .inl (da, 2, .inl fa)), (qb, .inl (db, 2, .inl fb)), (qc, .inl (dc, 2, .inl fc)), (qd, .inl (dd, 2, .inl fd)), (qe, .inl (de, 2, .inl (upd (upd (fun _ => 0) (0 : Int32).toNatClampNeg x_17) (1 : Int32).toNatClampNeg 1)))] H := hP
  have hD : va_D A [(o1, .inr (0, [.ref t1, .int (nI (16 * mn))])), (t1, .inl (d1, 4096, .inl a2)), (qt, .inl (d2, 16 * mn, .inl t2)), (qo, .inl (dO, 5, .inr (.inr (.inr (.inr (va_up (va_up (va_up (va_up (fun _ => none) 0 (some qa)) 1 (some qb)) 2 (some qc)) 3 (some qd))))))), (qa, .inl (da, 2, .inl fa)), (qb, .inl (db, 2, .inl fb)), (qc, .inl (dc, 2, .inl fc)), (qd, .inl (dd, 2, .inl fd)), (qe, .inl (de, 2, .inl (upd (upd (fun _ => 0) (0 : Int32).toNatClampNeg x_17) (1 : Int32).toNatClampNeg 1)))] := hD
  generalize (upd (upd (fun _ => 0) (0 : Int32).toNatClampNeg x_17) (1 : Int32).toNatClampNeg 1) = fe at hP hD
  have hP : va_P D zCl [(o1, .inr (0, [.ref t1, .int (nI (16 * mn))])), (t1, .inl (d1, 4096, .inl a2)), (qt, .inl (d2, 16 * mn, .inl t2)), (qo, .inl (dO, 5, .inr (.inr (.inr (.inr (va_up (va_up (va_up (va_up (fun _ => none) 0 (some qa)) 1 (some qb)) 2 (some qc)) 3 (some qd))))))), (qa, .inl (da, 2, .inl fa)), (qb, .inl (db, 2, .inl fb)), (qc, .inl (dc, 2, .inl fc)), (qd, .inl (dd, 2, .inl fd)), (qe, .inl (de, 2, .inl fe))] H := hP
  have hD : va_D A [(o1, .inr (0, [.ref t1, .int (nI (16 * mn))])), (t1, .inl (d1, 4096, .inl a2)), (qt, .inl (d2, 16 * mn, .inl t2)), (qo, .inl (dO, 5, .inr (.inr (.inr (.inr (va_up (va_up (va_up (va_up (fun _ => none) 0 (some qa)) 1 (some qb)) 2 (some qc)) 3 (some qd))))))), (qa, .inl (da, 2, .inl fa)), (qb, .inl (db, 2, .inl fb)), (qc, .inl (dc, 2, .inl fc)), (qd, .inl (dd, 2, .inl fd)), (qe, .inl (de, 2, .inl fe))] := hD
  refine zA_st hx hb hK hP hD hS 3 8 7 hCO rfl rfl rfl (pk_in 4 5 (by decide)) dX0_askedDefined_121 (fun H locs hP hD hS => ?_)
  rw [show va_up (va_up (va_up (va_up (va_up (fun _ => none) 0 (some qa)) 1 (some qb)) 2 (some qc)) 3 (some qd)) ((4 : Int32)).toNatClampNeg (some qe) = (va_up (va_up (va_up (va_up (va_up (fun _ => none) 0 (some qa)) 1 (some qb)) 2 (some qc)) 3 (some qd)) 4 (some qe)) by rfl] at hP hD
  have hP : va_P D zCl [(o1, .inr (0, [.ref t1, .int (nI (16 * mn))])), (t1, .inl (d1, 4096, .inl a2)), (qt, .inl (d2, 16 * mn, .inl t2)), (qo, .inl (dO, 5, .inr (.inr (.inr (.inr (va_up (va_up (va_up (va_up (va_up (fun _ => none) 0 (some qa)) 1 (some qb)) 2 (some qc)) 3 (some qd)) 4 (some qe))))))), (qa, .inl (da, 2, .inl fa)), (qb, .inl (db, 2, .inl fb)), (qc, .inl (dc, 2, .inl fc)), (qd, .inl (dd, 2, .inl fd)), (qe, .inl (de, 2, .inl fe))] H := hP
  have hD : va_D A [(o1, .inr (0, [.ref t1, .int (nI (16 * mn))])), (t1, .inl (d1, 4096, .inl a2)), (qt, .inl (d2, 16 * mn, .inl t2)), (qo, .inl (dO, 5, .inr (.inr (.inr (.inr (va_up (va_up (va_up (va_up (va_up (fun _ => none) 0 (some qa)) 1 (some qb)) 2 (some qc)) 3 (some qd)) 4 (some qe))))))), (qa, .inl (da, 2, .inl fa)), (qb, .inl (db, 2, .inl fb)), (qc, .inl (dc, 2, .inl fc)), (qd, .inl (dd, 2, .inl fd)), (qe, .inl (de, 2, .inl fe))] := hD
  have hP := hP.sub (ws' := [(qa, .inl (da, 2, .inl fa)), (qb, .inl (db, 2, .inl fb)), (qc, .inl (dc, 2, .inl fc)), (qd, .inl (dd, 2, .inl fd)), (qe, .inl (de, 2, .inl fe)), (qo, .inl (dO, 5, .inr (.inr (.inr (.inr (va_up (va_up (va_up (va_up (va_up (fun _ => none) 0 (some qa)) 1 (some qb)) 2 (some qc)) 3 (some qd)) 4 (some qe))))))), (o1, .inr (0, [.ref t1, .int (nI (16 * mn))])), (t1, .inl (d1, 4096, .inl a2)), (qt, .inl (d2, 16 * mn, .inl t2))]) [4, 5, 6, 7, 8, 3, 0, 1, 2] rfl
  have hD := hD.sub (ws' := [(qa, .inl (da, 2, .inl fa)), (qb, .inl (db, 2, .inl fb)), (qc, .inl (dc, 2, .inl fc)), (qd, .inl (dd, 2, .inl fd)), (qe, .inl (de, 2, .inl fe)), (qo, .inl (dO, 5, .inr (.inr (.inr (.inr (va_up (va_up (va_up (va_up (va_up (fun _ => none) 0 (some qa)) 1 (some qb)) 2 (some qc)) 3 (some qd)) 4 (some qe))))))), (o1, .inr (0, [.ref t1, .int (nI (16 * mn))])), (t1, .inl (d1, 4096, .inl a2)), (qt, .inl (d2, 16 * mn, .inl t2))]) [4, 5, 6, 7, 8, 3, 0, 1, 2] (by decide) rfl
  generalize hFO : (va_up (va_up (va_up (va_up (va_up (fun _ => none) 0 (some qa)) 1 (some qb)) 2 (some qc)) 3 (some qd)) 4 (some qe)) = fO at hP hD
  have hP : va_P D zCl [(qa, .inl (da, 2, .inl fa)), (qb, .inl (db, 2, .inl fb)), (qc, .inl (dc, 2, .inl fc)), (qd, .inl (dd, 2, .inl fd)), (qe, .inl (de, 2, .inl fe)), (qo, .inl (dO, 5, .inr (.inr (.inr (.inr fO))))), (o1, .inr (0, [.ref t1, .int (nI (16 * mn))])), (t1, .inl (d1, 4096, .inl a2)), (qt, .inl (d2, 16 * mn, .inl t2))] H := hP
  have hD : va_D A [(qa, .inl (da, 2, .inl fa)), (qb, .inl (db, 2, .inl fb)), (qc, .inl (dc, 2, .inl fc)), (qd, .inl (dd, 2, .inl fd)), (qe, .inl (de, 2, .inl fe)), (qo, .inl (dO, 5, .inr (.inr (.inr (.inr fO))))), (o1, .inr (0, [.ref t1, .int (nI (16 * mn))])), (t1, .inl (d1, 4096, .inl a2)), (qt, .inl (d2, 16 * mn, .inl t2))] := hD
  have h5 : ∀ i, i < 5 → ∃ (qi : Nat) (di : ClassId) (fi : Nat → Int32), fO i = some qi ∧ (∀ tl : va_W, ((qa, .inl (da, 2, .inl fa)) :: (qb, .inl (db, 2, .inl fb)) :: (qc, .inl (dc, 2, .inl fc)) :: (qd, .inl (dd, 2, .inl fd)) :: (qe, .inl (de, 2, .inl fe)) :: tl : va_W)[i]? = some (qi, .inl (di, 2, .inl fi))) ∧ (∀ tl : List (ClassId × FieldType), ((d1, .byte) :: (d2, .int) :: (dO, .array .int) :: (da, .int) :: (db, .int) :: (dc, .int) :: (dd, .int) :: (de, .int) :: tl : List (ClassId × FieldType))[i + 3]? = some (di, .int)) := by
    intro i hi
    rw [← hFO]
    rcases (show i = 0 ∨ i = 1 ∨ i = 2 ∨ i = 3 ∨ i = 4 by omega) with h | h | h | h | h
    · subst h; exact ⟨qa, da, fa, rfl, fun _ => rfl, fun _ => rfl⟩
    · subst h; exact ⟨qb, db, fb, rfl, fun _ => rfl, fun _ => rfl⟩
    · subst h; exact ⟨qc, dc, fc, rfl, fun _ => rfl, fun _ => rfl⟩
    · subst h; exact ⟨qd, dd, fd, rfl, fun _ => rfl, fun _ => rfl⟩
    · subst h; exact ⟨qe, de, fe, rfl, fun _ => rfl, fun _ => rfl⟩
  clear hFO
  refine lv_astore (lv' := [(5, .ref qo), (4, .int (nI (16 * mn))), (3, .ref qt), (2, .int (nI mn)), (1, .ref o1), (0, .ref bs)]) hx hb dX0_askedDefined_122 hl (by decide) rfl (fun ls hl => ?_)
  refine lv_aload hx hb dX0_askedDefined_124 (lv_at hl 0 rfl) ?_
  refine lv_astore (lv' := [(6, .ref qo), (5, .ref qo), (4, .int (nI (16 * mn))), (3, .ref qt), (2, .int (nI mn)), (1, .ref o1), (0, .ref bs)]) hx hb dX0_askedDefined_126 hl (by decide) rfl (fun ls hl => ?_)
  refine lv_aload hx hb dX0_askedDefined_128 (lv_at hl 0 rfl) ?_
  refine va_alen (v := nI 5) hx hb hK hP 5 2 rfl rfl (by rfl) dX0_askedDefined_130 ?_
  refine lv_istore (lv' := [(7, .int (nI 5)), (6, .ref qo), (5, .ref qo), (4, .int (nI (16 * mn))), (3, .ref qt), (2, .int (nI mn)), (1, .ref o1), (0, .ref bs)]) hx hb dX0_askedDefined_131 hl (by decide) rfl (fun ls hl => ?_)
  refine lv_iconst (v := nI 0) hx hb dX0_askedDefined_133 (by rfl) ?_
  refine lv_istore (lv' := [(8, .int (nI 0)), (7, .int (nI 5)), (6, .ref qo), (5, .ref qo), (4, .int (nI (16 * mn))), (3, .ref qt), (2, .int (nI mn)), (1, .ref o1), (0, .ref bs)]) hx hb dX0_askedDefined_134 hl (by decide) rfl (fun ls hl => ?_)
  refine z_loop (σ := Unit) (5) (fun i => 265 + 33 * i) (fun i => 9233 + 358 * i) (fun i _ H locs ls => va_P D zCl [(qa, .inl (da, 2, .inl fa)), (qb, .inl (db, 2, .inl fb)), (qc, .inl (dc, 2, .inl fc)), (qd, .inl (dd, 2, .inl fd)), (qe, .inl (de, 2, .inl fe)), (qo, .inl (dO, 5, .inr (.inr (.inr (.inr fO))))), (o1, .inr (0, [.ref t1, .int (nI (16 * mn))])), (t1, .inl (d1, 4096, .inl a2)), (qt, .inl (d2, 16 * mn, .inl t2))] H ∧ va_D A [(qa, .inl (da, 2, .inl fa)), (qb, .inl (db, 2, .inl fb)), (qc, .inl (dc, 2, .inl fc)), (qd, .inl (dd, 2, .inl fd)), (qe, .inl (de, 2, .inl fe)), (qo, .inl (dO, 5, .inr (.inr (.inr (.inr fO))))), (o1, .inr (0, [.ref t1, .int (nI (16 * mn))])), (t1, .inl (d1, 4096, .inl a2)), (qt, .inl (d2, 16 * mn, .inl t2))] ∧ va_S A s.heap H locs ∧ lv_has ls 20 [(0, .ref bs), (1, .ref o1), (3, .ref qt), (4, .int (nI (16 * mn))), (6, .ref qo), (7, .int (nI 5)), (8, .int (nI i))] ∧ True) ?_ (0) () (by decide) ⟨hP.sub (ws' := [(qa, .inl (da, 2, .inl fa)), (qb, .inl (db, 2, .inl fb)), (qc, .inl (dc, 2, .inl fc)), (qd, .inl (dd, 2, .inl fd)), (qe, .inl (de, 2, .inl fe)), (qo, .inl (dO, 5, .inr (.inr (.inr (.inr fO))))), (o1, .inr (0, [.ref t1, .int (nI (16 * mn))])), (t1, .inl (d1, 4096, .inl a2)), (qt, .inl (d2, 16 * mn, .inl t2))]) [0, 1, 2, 3, 4, 5, 6, 7, 8] rfl, hD.sub (ws' := [(qa, .inl (da, 2, .inl fa)), (qb, .inl (db, 2, .inl fb)), (qc, .inl (dc, 2, .inl fc)), (qd, .inl (dd, 2, .inl fd)), (qe, .inl (de, 2, .inl fe)), (qo, .inl (dO, 5, .inr (.inr (.inr (.inr fO))))), (o1, .inr (0, [.ref t1, .int (nI (16 * mn))])), (t1, .inl (d1, 4096, .inl a2)), (qt, .inl (d2, 16 * mn, .inl t2))]) [0, 1, 2, 3, 4, 5, 6, 7, 8] (by decide) rfl, hS, lv_sub (l' := [(0, .ref bs), (1, .ref o1), (3, .ref qt), (4, .int (nI (16 * mn))), (6, .ref qo), (7, .int (nI 5)), (8, .int (nI 0))]) hl [8, 7, 5, 4, 2, 1, 0] rfl, trivial⟩ (Nat.le_refl _) (Nat.le_refl _)
  intro i u H locs ls hi ih hI
  obtain ⟨hP, hD, hS, hl, hJ⟩ := hI
  have hP : va_P D zCl [(qa, .inl (da, 2, .inl fa)), (qb, .inl (db, 2, .inl fb)), (qc, .inl (dc, 2, .inl fc)), (qd, .inl (dd, 2, .inl fd)), (qe, .inl (de, 2, .inl fe)), (qo, .inl (dO, 5, .inr (.inr (.inr (.inr fO))))), (o1, .inr (0, [.ref t1, .int (nI (16 * mn))])), (t1, .inl (d1, 4096, .inl a2)), (qt, .inl (d2, 16 * mn, .inl t2))] H := hP
  have hD : va_D A [(qa, .inl (da, 2, .inl fa)), (qb, .inl (db, 2, .inl fb)), (qc, .inl (dc, 2, .inl fc)), (qd, .inl (dd, 2, .inl fd)), (qe, .inl (de, 2, .inl fe)), (qo, .inl (dO, 5, .inr (.inr (.inr (.inr fO))))), (o1, .inr (0, [.ref t1, .int (nI (16 * mn))])), (t1, .inl (d1, 4096, .inl a2)), (qt, .inl (d2, 16 * mn, .inl t2))] := hD
  have hl : lv_has ls 20 [(0, .ref bs), (1, .ref o1), (3, .ref qt), (4, .int (nI (16 * mn))), (6, .ref qo), (7, .int (nI 5)), (8, .int (nI i))] := hl
  have hJ : True := hJ
  refine W.widen (k := 265 + 33 * i) (n := 9233 + 358 * i) (Nat.le_refl _) (Nat.le_refl _) ?_
  refine lv_iload hx hb dX0_askedDefined_136 (lv_at hl 6 rfl) ?_
  refine lv_iload hx hb dX0_askedDefined_138 (lv_at hl 5 rfl) ?_
  refine lv_icmp_ge (tgt := 348) hx hb dX0_askedDefined_140 (by decide) (fun c0 => ?_) (fun c0 => ?_)
  · skip
    refine lv_aload_n hx hb dX0_askedDefined_348 rfl (lv_at hl 1 rfl) ?_
    refine z_goi (wr := [(qa, .inl (da, 2, .inl fa)), (qb, .inl (db, 2, .inl fb)), (qc, .inl (dc, 2, .inl fc)), (qd, .inl (dd, 2, .inl fd)), (qe, .inl (de, 2, .inl fe)), (qo, .inl (dO, 5, .inr (.inr (.inr (.inr fO))))), (t1, .inl (d1, 4096, .inl a2)), (qt, .inl (d2, 16 * mn, .inl t2))]) (va_runV (As := []) (rest := []) ⟨hx, hb, hml, hown, hts⟩ (mX1_size l D H.size o1 t1 (16 * mn)) (cwV 0 hts (lw_V q124 q125 q126 q4 q127) rfl rfl rfl (by decide +kernel) ⟨(Nat.le_of_ble_eq_true rfl), (Nat.le_of_ble_eq_true rfl)⟩) (z_preV (q0 := 6) (ci := 0) rfl rfl hK hP hD hS hA hX [6] [] rfl (by decide) rfl (fun _ h9 => by cases h9) (fun _ h9 => by cases h9)) rfl rfl hl.1 rfl (lv_room (Nat.le_of_ble_eq_true rfl)) dX0_askedDefined_349 ⟨(show 265 + 33 * i + 0 ≤ 430 by omega), (show 9233 + 358 * i + 0 ≤ 11023 by omega)⟩) hK hP hD hS hA [6] [0, 1, 2, 3, 4, 5, 7, 8] rfl rfl (by decide) (by decide) (fun r_19 u_18 H locs h_20 _ hP hD hS => ?_)
    have hP : va_P D zCl [(qa, .inl (da, 2, .inl fa)), (qb, .inl (db, 2, .inl fb)), (qc, .inl (dc, 2, .inl fc)), (qd, .inl (dd, 2, .inl fd)), (qe, .inl (de, 2, .inl fe)), (qo, .inl (dO, 5, .inr (.inr (.inr (.inr fO))))), (t1, .inl (d1, 4096, .inl a2)), (qt, .inl (d2, 16 * mn, .inl t2)), (o1, .inr (0, [.ref t1, .int (nI (16 * mn))]))] H := hP
    have hD : va_D A [(qa, .inl (da, 2, .inl fa)), (qb, .inl (db, 2, .inl fb)), (qc, .inl (dc, 2, .inl fc)), (qd, .inl (dd, 2, .inl fd)), (qe, .inl (de, 2, .inl fe)), (qo, .inl (dO, 5, .inr (.inr (.inr (.inr fO))))), (t1, .inl (d1, 4096, .inl a2)), (qt, .inl (d2, 16 * mn, .inl t2)), (o1, .inr (0, [.ref t1, .int (nI (16 * mn))]))] := hD
    have h_20 : r_19 = nI (16 * mn) := h_20
    subst h_20
    refine lv_iload hx hb dX0_askedDefined_352 (lv_at hl 3 rfl) ?_
    refine lv_icmp_ne (tgt := 361) hx hb dX0_askedDefined_354 (by decide) (fun c9 => False.elim (by exact c9 rfl)) (fun c9 => ?_)
    refine lv_iconst (v := 1) hx hb dX0_askedDefined_357 (by decide) ?_
    refine lv_goto (tgt := 362) hx hb dX0_askedDefined_358 (by decide) ?_
    refine W.widen (k := 430) (n := 11023) (by omega) (by omega) ?_
    have hP9 := hP.sub (ws' := []) [] rfl
    have hD9 := hD.sub (ws' := []) [] (by decide) rfl
    have hK9 := hK.sub (tys' := []) [] rfl
    exact W.zret (v := 1) hx hb hr rfl (fun t ht hW => ⟨⟨1, (), rfl, rfl, by rw [ht]; exact hP9, va_K.moved hW.alike hK9, hD9⟩, hS.F ht⟩) hS.2.2 dX0_askedDefined_362
  · skip
    have hi5 : i < 5 := Nat.lt_of_not_le (fun h => c0 (nI_le (a := 5) (b := i) h (by omega)))
    obtain ⟨qi, di, fi, hfo, hwi, hti⟩ := h5 i hi5
    refine lv_aload hx hb dX0_askedDefined_143 (lv_at hl 4 rfl) ?_
    refine lv_iload hx hb dX0_askedDefined_145 (lv_at hl 6 rfl) ?_
    refine zA_ld hx hb hK hP 5 2 rfl rfl (vp_in_nI hi5 (by decide)) dX0_askedDefined_147 ?_
    rw [show va_rf (fO (nI i).toNatClampNeg) = .ref qi by rw [nI_clamp (by omega), hfo]; rfl]
    refine lv_astore (lv' := [(9, .ref qi), (0, .ref bs), (1, .ref o1), (3, .ref qt), (4, .int (nI (16 * mn))), (6, .ref qo), (7, .int (nI 5)), (8, .int (nI i))]) hx hb dX0_askedDefined_148 hl (by decide) rfl (fun ls hl => ?_)
    refine lv_aload hx hb dX0_askedDefined_150 (lv_at hl 0 rfl) ?_
    refine lv_iconst (v := 0) hx hb dX0_askedDefined_152 (by decide) ?_
    refine va_iald hx hb hK hP i (i + 3) (hwi _) (hti _) (pk_in 0 2 (by decide)) dX0_askedDefined_153 ?_
    refine lv_topi (fun x_21 e_21 => ?_)
    have e_21 : x_21 = (fi 0) := by refine e_21.trans ?_; rfl
    subst e_21
    refine lv_ldc (v := 2147483647) hx hb hown (hts _ q134) dX0_askedDefined_154 ?_
    refine lv_iand hx hb dX0_askedDefined_156 ?_
    refine lv_topi (fun x_22 e_22 => ?_)
    have e_22 : x_22 = nI (sj_pos (fi 0)) := by refine e_22.trans ?_; exact zj_pos _
    subst e_22
    refine lv_iload hx hb dX0_askedDefined_157 (lv_at hl 4 rfl) ?_
    refine lv_iconst (v := 1) hx hb dX0_askedDefined_159 (by decide) ?_
    refine lv_iadd hx hb dX0_askedDefined_160 ?_
    refine lv_topi (fun x_23 e_23 => ?_)
    have e_23 : x_23 = nI (16 * mn + 1) := by refine e_23.trans ?_; exact nI_1 _
    subst e_23
    refine lv_irem hx hb dX0_askedDefined_161 (nI_ne0 (by omega) (by omega)) ?_
    refine lv_topi (fun x_24 e_24 => ?_)
    have e_24 : x_24 = nI (sj_pos (fi 0) % (16 * mn + 1)) := by refine e_24.trans ?_; exact pk_rem (sj_pos_lt _) (by omega) (by omega)
    subst e_24
    obtain ⟨f, hf⟩ : ∃ z, z = sj_pos (fi 0) % (16 * mn + 1) := ⟨_, rfl⟩
    have hf1 : f ≤ 16 * mn := by rw [hf]; exact Nat.lt_succ_iff.mp (Nat.mod_lt _ (Nat.succ_pos _))
    rw [← hf]
    refine lv_istore (lv' := [(10, .int (nI f)), (9, .ref qi), (0, .ref bs), (1, .ref o1), (3, .ref qt), (4, .int (nI (16 * mn))), (6, .ref qo), (7, .int (nI 5)), (8, .int (nI i))]) hx hb dX0_askedDefined_162 hl (by decide) rfl (fun ls hl => ?_)
    refine lv_aload hx hb dX0_askedDefined_164 (lv_at hl 1 rfl) ?_
    refine lv_iconst (v := 1) hx hb dX0_askedDefined_166 (by decide) ?_
    refine va_iald hx hb hK hP i (i + 3) (hwi _) (hti _) (pk_in 1 2 (by decide)) dX0_askedDefined_167 ?_
    refine lv_topi (fun x_25 e_25 => ?_)
    have e_25 : x_25 = (fi 1) := by refine e_25.trans ?_; rfl
    subst e_25
    refine lv_ldc (v := 2147483647) hx hb hown (hts _ q134) dX0_askedDefined_168 ?_
    refine lv_iand hx hb dX0_askedDefined_170 ?_
    refine lv_topi (fun x_26 e_26 => ?_)
    have e_26 : x_26 = nI (sj_pos (fi 1)) := by refine e_26.trans ?_; exact zj_pos _
    subst e_26
    refine lv_iload hx hb dX0_askedDefined_171 (lv_at hl 5 rfl) ?_
    refine lv_iload hx hb dX0_askedDefined_173 (lv_at hl 0 rfl) ?_
    refine lv_isub hx hb dX0_askedDefined_175 ?_
    refine lv_topi (fun x_27 e_27 => ?_)
    have e_27 : x_27 = nI (16 * mn - f) := by refine e_27.trans ?_; exact pk_sub hf1
    subst e_27
    refine lv_iconst (v := 1) hx hb dX0_askedDefined_176 (by decide) ?_
    refine lv_iadd hx hb dX0_askedDefined_177 ?_
    refine lv_topi (fun x_28 e_28 => ?_)
    have e_28 : x_28 = nI (16 * mn - f + 1) := by refine e_28.trans ?_; exact nI_1 _
    subst e_28
    refine lv_irem hx hb dX0_askedDefined_178 (nI_ne0 (by omega) (by omega)) ?_
    refine lv_topi (fun x_29 e_29 => ?_)
    have e_29 : x_29 = nI (sj_pos (fi 1) % (16 * mn - f + 1)) := by refine e_29.trans ?_; exact pk_rem (sj_pos_lt _) (by omega) (by omega)
    subst e_29
    obtain ⟨cn, hc⟩ : ∃ z, z = sj_pos (fi 1) % (16 * mn - f + 1) := ⟨_, rfl⟩
    have hc1 : cn ≤ 16 * mn - f := by rw [hc]; exact Nat.lt_succ_iff.mp (Nat.mod_lt _ (Nat.succ_pos _))
    rw [← hc]
    refine lv_istore (lv' := [(11, .int (nI cn)), (10, .int (nI f)), (9, .ref qi), (0, .ref bs), (1, .ref o1), (3, .ref qt), (4, .int (nI (16 * mn))), (6, .ref qo), (7, .int (nI 5)), (8, .int (nI i))]) hx hb dX0_askedDefined_179 hl (by decide) rfl (fun ls hl => ?_)
    refine lv_aload_n hx hb dX0_askedDefined_181 rfl (lv_at hl 5 rfl) ?_
    refine lv_iload hx hb dX0_askedDefined_182 (lv_at hl 1 rfl) ?_
    refine lv_iload hx hb dX0_askedDefined_184 (lv_at hl 0 rfl) ?_
    refine z_gol (wr := [(qa, .inl (da, 2, .inl fa)), (qb, .inl (db, 2, .inl fb)), (qc, .inl (dc, 2, .inl fc)), (qd, .inl (dd, 2, .inl fd)), (qe, .inl (de, 2, .inl fe)), (qo, .inl (dO, 5, .inr (.inr (.inr (.inr fO))))), (o1, .inr (0, [.ref t1, .int (nI (16 * mn))])), (t1, .inl (d1, 4096, .inl a2))]) (va_runS (As := [.ref qt, .int (nI f), .int (nI cn)]) (rest := []) ⟨hx, hb, hml, hown, hts⟩ (mX0_askedCrc l D H.size qt d2 (16 * mn) t2 (fun j => sj_by (a2 j)) f cn (fun j => sj_by_lt _) hN htx (by omega)) (va_cwS 3 hts (lw_S q161 q162 q3 q163) rfl rfl rfl (by decide +kernel) ⟨(Nat.le_of_ble_eq_true rfl), (Nat.le_of_ble_eq_true rfl)⟩) (z_pre hK hP hD hS hA hX [8] [1] rfl (by decide) rfl (fun _ h9 => by cases h9) (fun _ h9 => by cases h9)) rfl rfl hl.1 rfl (lv_room (Nat.le_of_ble_eq_true rfl)) dX0_askedDefined_186 ⟨(show 265 + 33 * i + 0 ≤ 430 by omega), (show 9233 + 358 * i + 0 ≤ 11023 by omega)⟩) hK hP hD hS hA [8] [0, 1, 2, 3, 4, 5, 6, 7] rfl rfl (by decide) (by decide) (fun r_31 u_30 H locs h_32 _ hP hD hS => ?_)
    have hP : va_P D zCl [(qa, .inl (da, 2, .inl fa)), (qb, .inl (db, 2, .inl fb)), (qc, .inl (dc, 2, .inl fc)), (qd, .inl (dd, 2, .inl fd)), (qe, .inl (de, 2, .inl fe)), (qo, .inl (dO, 5, .inr (.inr (.inr (.inr fO))))), (o1, .inr (0, [.ref t1, .int (nI (16 * mn))])), (t1, .inl (d1, 4096, .inl a2)), (qt, .inl (d2, (16 * mn), .inl t2))] H := hP
    have hD : va_D A [(qa, .inl (da, 2, .inl fa)), (qb, .inl (db, 2, .inl fb)), (qc, .inl (dc, 2, .inl fc)), (qd, .inl (dd, 2, .inl fd)), (qe, .inl (de, 2, .inl fe)), (qo, .inl (dO, 5, .inr (.inr (.inr (.inr fO))))), (o1, .inr (0, [.ref t1, .int (nI (16 * mn))])), (t1, .inl (d1, 4096, .inl a2)), (qt, .inl (d2, (16 * mn), .inl t2))] := hD
    have h_32 : r_31 = lN (sj_crc (fun j => sj_by (a2 j)) f cn) := h_32
    subst h_32
    refine lv_lstore (lv' := [(12, .long (lN (sj_crc (fun j => sj_by (a2 j)) f cn))), (11, .int (nI cn)), (10, .int (nI f)), (9, .ref qi), (0, .ref bs), (1, .ref o1), (3, .ref qt), (4, .int (nI (16 * mn))), (6, .ref qo), (7, .int (nI 5)), (8, .int (nI i))]) hx hb dX0_askedDefined_189 hl (by decide) rfl (fun ls hl => ?_)
    refine lv_aload_n hx hb dX0_askedDefined_191 rfl (lv_at hl 6 rfl) ?_
    refine lv_iload hx hb dX0_askedDefined_192 (lv_at hl 2 rfl) ?_
    refine lv_iload hx hb dX0_askedDefined_194 (lv_at hl 1 rfl) ?_
    refine z_gol (wr := [(qa, .inl (da, 2, .inl fa)), (qb, .inl (db, 2, .inl fb)), (qc, .inl (dc, 2, .inl fc)), (qd, .inl (dd, 2, .inl fd)), (qe, .inl (de, 2, .inl fe)), (qo, .inl (dO, 5, .inr (.inr (.inr (.inr fO))))), (o1, .inr (0, [.ref t1, .int (nI (16 * mn))])), (t1, .inl (d1, 4096, .inl a2))]) (va_runS (As := [.ref qt, .int (nI f), .int (nI cn)]) (rest := []) ⟨hx, hb, hml, hown, hts⟩ (mX0_askedAdler l D H.size qt d2 (16 * mn) t2 (fun j => sj_by (a2 j)) f cn (fun j => sj_by_lt _) hN htx (by omega)) (va_cwS 3 hts (lw_S q164 q165 q3 q166) rfl rfl rfl (by decide +kernel) ⟨(Nat.le_of_ble_eq_true rfl), (Nat.le_of_ble_eq_true rfl)⟩) (z_pre hK hP hD hS hA hX [8] [1] rfl (by decide) rfl (fun _ h9 => by cases h9) (fun _ h9 => by cases h9)) rfl rfl hl.1 rfl (lv_room (Nat.le_of_ble_eq_true rfl)) dX0_askedDefined_196 ⟨(show 265 + 33 * i + 0 ≤ 430 by omega), (show 9233 + 358 * i + 0 ≤ 11023 by omega)⟩) hK hP hD hS hA [8] [0, 1, 2, 3, 4, 5, 6, 7] rfl rfl (by decide) (by decide) (fun r_34 u_33 H locs h_35 _ hP hD hS => ?_)
    have hP : va_P D zCl [(qa, .inl (da, 2, .inl fa)), (qb, .inl (db, 2, .inl fb)), (qc, .inl (dc, 2, .inl fc)), (qd, .inl (dd, 2, .inl fd)), (qe, .inl (de, 2, .inl fe)), (qo, .inl (dO, 5, .inr (.inr (.inr (.inr fO))))), (o1, .inr (0, [.ref t1, .int (nI (16 * mn))])), (t1, .inl (d1, 4096, .inl a2)), (qt, .inl (d2, (16 * mn), .inl t2))] H := hP
    have hD : va_D A [(qa, .inl (da, 2, .inl fa)), (qb, .inl (db, 2, .inl fb)), (qc, .inl (dc, 2, .inl fc)), (qd, .inl (dd, 2, .inl fd)), (qe, .inl (de, 2, .inl fe)), (qo, .inl (dO, 5, .inr (.inr (.inr (.inr fO))))), (o1, .inr (0, [.ref t1, .int (nI (16 * mn))])), (t1, .inl (d1, 4096, .inl a2)), (qt, .inl (d2, (16 * mn), .inl t2))] := hD
    have h_35 : r_34 = lN (sj_adl (fun j => sj_by (a2 j)) f cn) := h_35
    subst h_35
    refine lv_lstore (lv' := [(14, .long (lN (sj_adl (fun j => sj_by (a2 j)) f cn))), (12, .long (lN (sj_crc (fun j => sj_by (a2 j)) f cn))), (11, .int (nI cn)), (10, .int (nI f)), (9, .ref qi), (0, .ref bs), (1, .ref o1), (3, .ref qt), (4, .int (nI (16 * mn))), (6, .ref qo), (7, .int (nI 5)), (8, .int (nI i))]) hx hb dX0_askedDefined_199 hl (by decide) rfl (fun ls hl => ?_)
    refine lv_aload_n hx hb dX0_askedDefined_201 rfl (lv_at hl 6 rfl) ?_
    refine lv_aload hx hb dX0_askedDefined_202 (lv_at hl 4 rfl) ?_
    refine lv_iconst (v := 0) hx hb dX0_askedDefined_204 (by decide) ?_
    refine va_iald hx hb hK hP i (i + 3) (hwi _) (hti _) (pk_in 0 2 (by decide)) dX0_askedDefined_205 ?_
    refine lv_topi (fun x_36 e_36 => ?_)
    have e_36 : x_36 = (fi 0) := by refine e_36.trans ?_; rfl
    subst e_36
    refine lv_aload hx hb dX0_askedDefined_206 (lv_at hl 4 rfl) ?_
    refine lv_iconst (v := 1) hx hb dX0_askedDefined_208 (by decide) ?_
    refine va_iald hx hb hK hP i (i + 3) (hwi _) (hti _) (pk_in 1 2 (by decide)) dX0_askedDefined_209 ?_
    refine lv_topi (fun x_37 e_37 => ?_)
    have e_37 : x_37 = (fi 1) := by refine e_37.trans ?_; rfl
    subst e_37
    refine z_gol (wr := [(qa, .inl (da, 2, .inl fa)), (qb, .inl (db, 2, .inl fb)), (qc, .inl (dc, 2, .inl fc)), (qd, .inl (dd, 2, .inl fd)), (qe, .inl (de, 2, .inl fe)), (qo, .inl (dO, 5, .inr (.inr (.inr (.inr fO))))), (qt, .inl (d2, (16 * mn), .inl t2))]) (va_runV (As := [.int (fi 0), .int (fi 1)]) (rest := []) ⟨hx, hb, hml, hown, hts⟩ (mX1_crc l D H.size o1 t1 d1 t (16 * mn) a2 (fi 0) (fi 1) hN) (cwV 2 hts (lw_V q29 q30 q31 q4 q32) rfl rfl rfl (by decide +kernel) ⟨(Nat.le_of_ble_eq_true rfl), (Nat.le_of_ble_eq_true rfl)⟩) (z_preV (q0 := 6) (ci := 0) rfl rfl hK hP hD hS hA hX [6, 7] [0] rfl (by decide) rfl (fun _ h9 => h9) (fun _ h9 => by cases h9)) rfl rfl hl.1 rfl (lv_room (Nat.le_of_ble_eq_true rfl)) dX0_askedDefined_210 ⟨(show 265 + 33 * i + 1 ≤ 430 by omega), (show 9233 + 358 * i + 1 ≤ 11023 by omega)⟩) hK hP hD hS hA [6, 7] [0, 1, 2, 3, 4, 5, 8] rfl rfl (by decide) (by decide) (fun r_39 u_38 H locs h_40 _ hP hD hS => ?_)
    have hP : va_P D zCl [(qa, .inl (da, 2, .inl fa)), (qb, .inl (db, 2, .inl fb)), (qc, .inl (dc, 2, .inl fc)), (qd, .inl (dd, 2, .inl fd)), (qe, .inl (de, 2, .inl fe)), (qo, .inl (dO, 5, .inr (.inr (.inr (.inr fO))))), (qt, .inl (d2, (16 * mn), .inl t2)), (o1, .inr (0, [.ref t1, .int (nI (16 * mn))])), (t1, .inl (d1, 4096, .inl a2))] H := hP
    have hD : va_D A [(qa, .inl (da, 2, .inl fa)), (qb, .inl (db, 2, .inl fb)), (qc, .inl (dc, 2, .inl fc)), (qd, .inl (dd, 2, .inl fd)), (qe, .inl (de, 2, .inl fe)), (qo, .inl (dO, 5, .inr (.inr (.inr (.inr fO))))), (qt, .inl (d2, (16 * mn), .inl t2)), (o1, .inr (0, [.ref t1, .int (nI (16 * mn))])), (t1, .inl (d1, 4096, .inl a2))] := hD
    have h_40 : r_39 = lN (sj_crc (fun j => sj_by (a2 j)) (sj_pos (fi 0) % ((16 * mn) + 1)) (sj_pos (fi 1) % ((16 * mn) - sj_pos (fi 0) % ((16 * mn) + 1) + 1))) := h_40
    subst h_40
    have v_41 : (lN (sj_crc (fun j => sj_by (a2 j)) (sj_pos (fi 0) % ((16 * mn) + 1)) (sj_pos (fi 1) % ((16 * mn) - sj_pos (fi 0) % ((16 * mn) + 1) + 1)))) = lN (sj_crc (fun j => sj_by (a2 j)) f cn) := by rw [hc, hf]
    rw [v_41]
    refine lv_lload hx hb dX0_askedDefined_213 (lv_at hl 1 rfl) ?_
    refine W.lcmp hx hb dX0_askedDefined_215 ?_
    refine lv_if_ne (tgt := 237) hx hb dX0_askedDefined_216 (by decide) (fun c0 => False.elim (by exact c0 ((zj_cmp0 _ _).mpr rfl))) (fun c0 => ?_)
    refine lv_aload_n hx hb dX0_askedDefined_219 rfl (lv_at hl 6 rfl) ?_
    refine lv_aload hx hb dX0_askedDefined_220 (lv_at hl 4 rfl) ?_
    refine lv_iconst (v := 0) hx hb dX0_askedDefined_222 (by decide) ?_
    refine va_iald hx hb hK hP i (i + 3) (hwi _) (hti _) (pk_in 0 2 (by decide)) dX0_askedDefined_223 ?_
    refine lv_topi (fun x_42 e_42 => ?_)
    have e_42 : x_42 = (fi 0) := by refine e_42.trans ?_; rfl
    subst e_42
    refine lv_aload hx hb dX0_askedDefined_224 (lv_at hl 4 rfl) ?_
    refine lv_iconst (v := 1) hx hb dX0_askedDefined_226 (by decide) ?_
    refine va_iald hx hb hK hP i (i + 3) (hwi _) (hti _) (pk_in 1 2 (by decide)) dX0_askedDefined_227 ?_
    refine lv_topi (fun x_43 e_43 => ?_)
    have e_43 : x_43 = (fi 1) := by refine e_43.trans ?_; rfl
    subst e_43
    refine z_gol (wr := [(qa, .inl (da, 2, .inl fa)), (qb, .inl (db, 2, .inl fb)), (qc, .inl (dc, 2, .inl fc)), (qd, .inl (dd, 2, .inl fd)), (qe, .inl (de, 2, .inl fe)), (qo, .inl (dO, 5, .inr (.inr (.inr (.inr fO))))), (qt, .inl (d2, (16 * mn), .inl t2))]) (va_runV (As := [.int (fi 0), .int (fi 1)]) (rest := []) ⟨hx, hb, hml, hown, hts⟩ (mX1_adler l D H.size o1 t1 d1 (16 * mn) a2 (fi 0) (fi 1) hN) (cwV 2 hts (lw_V q88 q89 q90 q4 q91) rfl rfl rfl (by decide +kernel) ⟨(Nat.le_of_ble_eq_true rfl), (Nat.le_of_ble_eq_true rfl)⟩) (z_preV (q0 := 7) (ci := 0) rfl rfl hK hP hD hS hA hX [7, 8] [0] rfl (by decide) rfl (fun _ h9 => by cases h9) (fun _ h9 => by cases h9)) rfl rfl hl.1 rfl (lv_room (Nat.le_of_ble_eq_true rfl)) dX0_askedDefined_228 ⟨(show 265 + 33 * i + 1 + 1 ≤ 430 by omega), (show 9233 + 358 * i + 1 + 2 ≤ 11023 by omega)⟩) hK hP hD hS hA [7, 8] [0, 1, 2, 3, 4, 5, 6] rfl rfl (by decide) (by decide) (fun r_45 u_44 H locs h_46 _ hP hD hS => ?_)
    have hP : va_P D zCl [(qa, .inl (da, 2, .inl fa)), (qb, .inl (db, 2, .inl fb)), (qc, .inl (dc, 2, .inl fc)), (qd, .inl (dd, 2, .inl fd)), (qe, .inl (de, 2, .inl fe)), (qo, .inl (dO, 5, .inr (.inr (.inr (.inr fO))))), (qt, .inl (d2, (16 * mn), .inl t2)), (o1, .inr (0, [.ref t1, .int (nI (16 * mn))])), (t1, .inl (d1, 4096, .inl a2))] H := hP
    have hD : va_D A [(qa, .inl (da, 2, .inl fa)), (qb, .inl (db, 2, .inl fb)), (qc, .inl (dc, 2, .inl fc)), (qd, .inl (dd, 2, .inl fd)), (qe, .inl (de, 2, .inl fe)), (qo, .inl (dO, 5, .inr (.inr (.inr (.inr fO))))), (qt, .inl (d2, (16 * mn), .inl t2)), (o1, .inr (0, [.ref t1, .int (nI (16 * mn))])), (t1, .inl (d1, 4096, .inl a2))] := hD
    have h_46 : r_45 = lN (sj_adl (fun j => sj_by (a2 j)) (sj_pos (fi 0) % ((16 * mn) + 1)) (sj_pos (fi 1) % ((16 * mn) - sj_pos (fi 0) % ((16 * mn) + 1) + 1))) := h_46
    subst h_46
    have v_47 : (lN (sj_adl (fun j => sj_by (a2 j)) (sj_pos (fi 0) % ((16 * mn) + 1)) (sj_pos (fi 1) % ((16 * mn) - sj_pos (fi 0) % ((16 * mn) + 1) + 1)))) = lN (sj_adl (fun j => sj_by (a2 j)) f cn) := by rw [hc, hf]
    rw [v_47]
    refine lv_lload hx hb dX0_askedDefined_231 (lv_at hl 0 rfl) ?_
    refine W.lcmp hx hb dX0_askedDefined_233 ?_
    refine lv_if_eq (tgt := 239) hx hb dX0_askedDefined_234 (by decide) (fun c0 => ?_) (fun c0 => False.elim (by exact c0 ((zj_cmp0 _ _).mpr rfl)))
    refine lv_iconst (v := nI 5) hx hb dX0_askedDefined_239 (by rfl) ?_
    refine va_newa (atype := .int) (ty := .int) (N' := 5) (a0 := (5, .inl (fun _ => 0))) hx hb (hts _ q168) rfl hK hP hD hS hA (fun _ => rfl) (by decide) (by decide +kernel) (Nat.le_of_ble_eq_true rfl) (show 265 + 33 * i + 1 + 1 + 1 ≤ 430 by omega) (show 9233 + 358 * i + 1 + 2 + 5 ≤ 11023 by omega) dX0_askedDefined_240 (fun qz dz H hK hP hD hS => ?_)
    have hK : va_K D zCl [(d1, .byte), (d2, .int), (dO, .array .int), (da, .int), (db, .int), (dc, .int), (dd, .int), (de, .int), (dz, .int)] s := hK
    have hP : va_P D zCl [(qa, .inl (da, 2, .inl fa)), (qb, .inl (db, 2, .inl fb)), (qc, .inl (dc, 2, .inl fc)), (qd, .inl (dd, 2, .inl fd)), (qe, .inl (de, 2, .inl fe)), (qo, .inl (dO, 5, .inr (.inr (.inr (.inr fO))))), (qt, .inl (d2, (16 * mn), .inl t2)), (o1, .inr (0, [.ref t1, .int (nI (16 * mn))])), (t1, .inl (d1, 4096, .inl a2)), (qz, .inl (dz, 5, .inl (fun _ => 0)))] H := hP
    have hD : va_D A [(qa, .inl (da, 2, .inl fa)), (qb, .inl (db, 2, .inl fb)), (qc, .inl (dc, 2, .inl fc)), (qd, .inl (dd, 2, .inl fd)), (qe, .inl (de, 2, .inl fe)), (qo, .inl (dO, 5, .inr (.inr (.inr (.inr fO))))), (qt, .inl (d2, (16 * mn), .inl t2)), (o1, .inr (0, [.ref t1, .int (nI (16 * mn))])), (t1, .inl (d1, 4096, .inl a2)), (qz, .inl (dz, 5, .inl (fun _ => 0)))] := hD
    refine lv_dup hx hb dX0_askedDefined_242 rfl ?_
    refine lv_iconst (v := 0) hx hb dX0_askedDefined_243 (by decide) ?_
    refine lv_iconst (v := 0) hx hb dX0_askedDefined_244 (by decide) ?_
    refine va_iast hx hb hK hP hD hS 9 8 rfl rfl (pk_in 0 5 (by decide)) dX0_askedDefined_245 (fun H locs hP hD hS => ?_)
    have hP : va_P D zCl [(qa, .inl (da, 2, .inl fa)), (qb, .inl (db, 2, .inl fb)), (qc, .inl (dc, 2, .inl fc)), (qd, .inl (dd, 2, .inl fd)), (qe, .inl (de, 2, .inl fe)), (qo, .inl (dO, 5, .inr (.inr (.inr (.inr fO))))), (qt, .inl (d2, (16 * mn), .inl t2)), (o1, .inr (0, [.ref t1, .int (nI (16 * mn))])), (t1, .inl (d1, 4096, .inl a2)), (qz, .inl (dz, 5, .inl (upd (fun _ => 0) (0 : Int32).toNatClampNeg 0)))] H := hP
    have hD : va_D A [(qa, .inl (da, 2, .inl fa)), (qb, .inl (db, 2, .inl fb)), (qc, .inl (dc, 2, .inl fc)), (qd, .inl (dd, 2, .inl fd)), (qe, .inl (de, 2, .inl fe)), (qo, .inl (dO, 5, .inr (.inr (.inr (.inr fO))))), (qt, .inl (d2, (16 * mn), .inl t2)), (o1, .inr (0, [.ref t1, .int (nI (16 * mn))])), (t1, .inl (d1, 4096, .inl a2)), (qz, .inl (dz, 5, .inl (upd (fun _ => 0) (0 : Int32).toNatClampNeg 0)))] := hD
    refine lv_dup hx hb dX0_askedDefined_246 rfl ?_
    refine lv_iconst (v := 1) hx hb dX0_askedDefined_247 (by decide) ?_
    refine lv_iload hx hb dX0_askedDefined_248 (lv_at hl 2 rfl) ?_
    refine va_iast hx hb hK hP hD hS 9 8 rfl rfl (pk_in 1 5 (by decide)) dX0_askedDefined_250 (fun H locs hP hD hS => ?_)
    have hP : va_P D zCl [(qa, .inl (da, 2, .inl fa)), (qb, .inl (db, 2, .inl fb)), (qc, .inl (dc, 2, .inl fc)), (qd, .inl (dd, 2, .inl fd)), (qe, .inl (de, 2, .inl fe)), (qo, .inl (dO, 5, .inr (.inr (.inr (.inr fO))))), (qt, .inl (d2, (16 * mn), .inl t2)), (o1, .inr (0, [.ref t1, .int (nI (16 * mn))])), (t1, .inl (d1, 4096, .inl a2)), (qz, .inl (dz, 5, .inl (upd (upd (fun _ => 0) (0 : Int32).toNatClampNeg 0) (1 : Int32).toNatClampNeg (nI cn))))] H := hP
    have hD : va_D A [(qa, .inl (da, 2, .inl fa)), (qb, .inl (db, 2, .inl fb)), (qc, .inl (dc, 2, .inl fc)), (qd, .inl (dd, 2, .inl fd)), (qe, .inl (de, 2, .inl fe)), (qo, .inl (dO, 5, .inr (.inr (.inr (.inr fO))))), (qt, .inl (d2, (16 * mn), .inl t2)), (o1, .inr (0, [.ref t1, .int (nI (16 * mn))])), (t1, .inl (d1, 4096, .inl a2)), (qz, .inl (dz, 5, .inl (upd (upd (fun _ => 0) (0 : Int32).toNatClampNeg 0) (1 : Int32).toNatClampNeg (nI cn))))] := hD
    refine lv_dup hx hb dX0_askedDefined_251 rfl ?_
    refine lv_iconst (v := 2) hx hb dX0_askedDefined_252 (by decide) ?_
    refine lv_iconst (v := 1) hx hb dX0_askedDefined_253 (by decide) ?_
    refine va_iast hx hb hK hP hD hS 9 8 rfl rfl (pk_in 2 5 (by decide)) dX0_askedDefined_254 (fun H locs hP hD hS => ?_)
    have hP : va_P D zCl [(qa, .inl (da, 2, .inl fa)), (qb, .inl (db, 2, .inl fb)), (qc, .inl (dc, 2, .inl fc)), (qd, .inl (dd, 2, .inl fd)), (qe, .inl (de, 2, .inl fe)), (qo, .inl (dO, 5, .inr (.inr (.inr (.inr fO))))), (qt, .inl (d2, (16 * mn), .inl t2)), (o1, .inr (0, [.ref t1, .int (nI (16 * mn))])), (t1, .inl (d1, 4096, .inl a2)), (qz, .inl (dz, 5, .inl (upd (upd (upd (fun _ => 0) (0 : Int32).toNatClampNeg 0) (1 : Int32).toNatClampNeg (nI cn)) (2 : Int32).toNatClampNeg 1)))] H := hP
    have hD : va_D A [(qa, .inl (da, 2, .inl fa)), (qb, .inl (db, 2, .inl fb)), (qc, .inl (dc, 2, .inl fc)), (qd, .inl (dd, 2, .inl fd)), (qe, .inl (de, 2, .inl fe)), (qo, .inl (dO, 5, .inr (.inr (.inr (.inr fO))))), (qt, .inl (d2, (16 * mn), .inl t2)), (o1, .inr (0, [.ref t1, .int (nI (16 * mn))])), (t1, .inl (d1, 4096, .inl a2)), (qz, .inl (dz, 5, .inl (upd (upd (upd (fun _ => 0) (0 : Int32).toNatClampNeg 0) (1 : Int32).toNatClampNeg (nI cn)) (2 : Int32).toNatClampNeg 1)))] := hD
    refine lv_dup hx hb dX0_askedDefined_255 rfl ?_
    refine lv_iconst (v := 3) hx hb dX0_askedDefined_256 (by decide) ?_
    refine lv_iload hx hb dX0_askedDefined_257 (lv_at hl 2 rfl) ?_
    refine lv_iconst (v := 1) hx hb dX0_askedDefined_259 (by decide) ?_
    refine lv_isub hx hb dX0_askedDefined_260 ?_
    refine lv_topi (fun x_48 e_48 => ?_)
    refine va_iast hx hb hK hP hD hS 9 8 rfl rfl (pk_in 3 5 (by decide)) dX0_askedDefined_261 (fun H locs hP hD hS => ?_)
    have hP : va_P D zCl [(qa, .inl (da, 2, .inl fa)), (qb, .inl (db, 2, .inl fb)), (qc, .inl (dc, 2, .inl fc)), (qd, .inl (dd, 2, .inl fd)), (qe, .inl (de, 2, .inl fe)), (qo, .inl (dO, 5, .inr (.inr (.inr (.inr fO))))), (qt, .inl (d2, (16 * mn), .inl t2)), (o1, .inr (0, [.ref t1, .int (nI (16 * mn))])), (t1, .inl (d1, 4096, .inl a2)), (qz, .inl (dz, 5, .inl (upd (upd (upd (upd (fun _ => 0) (0 : Int32).toNatClampNeg 0) (1 : Int32).toNatClampNeg (nI cn)) (2 : Int32).toNatClampNeg 1) (3 : Int32).toNatClampNeg x_48)))] H := hP
    have hD : va_D A [(qa, .inl (da, 2, .inl fa)), (qb, .inl (db, 2, .inl fb)), (qc, .inl (dc, 2, .inl fc)), (qd, .inl (dd, 2, .inl fd)), (qe, .inl (de, 2, .inl fe)), (qo, .inl (dO, 5, .inr (.inr (.inr (.inr fO))))), (qt, .inl (d2, (16 * mn), .inl t2)), (o1, .inr (0, [.ref t1, .int (nI (16 * mn))])), (t1, .inl (d1, 4096, .inl a2)), (qz, .inl (dz, 5, .inl (upd (upd (upd (upd (fun _ => 0) (0 : Int32).toNatClampNeg 0) (1 : Int32).toNatClampNeg (nI cn)) (2 : Int32).toNatClampNeg 1) (3 : Int32).toNatClampNeg x_48)))] := hD
    refine lv_dup hx hb dX0_askedDefined_262 rfl ?_
    refine lv_iconst (v := 4) hx hb dX0_askedDefined_263 (by decide) ?_
    refine lv_aload_n hx hb dX0_askedDefined_264 rfl (lv_at hl 5 rfl) ?_
    refine lv_iconst (v := nI 2) hx hb dX0_askedDefined_265 (by rfl) ?_
    refine z_goi (wr := [(qa, .inl (da, 2, .inl fa)), (qb, .inl (db, 2, .inl fb)), (qc, .inl (dc, 2, .inl fc)), (qd, .inl (dd, 2, .inl fd)), (qe, .inl (de, 2, .inl fe)), (qo, .inl (dO, 5, .inr (.inr (.inr (.inr fO))))), (qt, .inl (d2, (16 * mn), .inl t2)), (o1, .inr (0, [.ref t1, .int (nI (16 * mn))])), (t1, .inl (d1, 4096, .inl a2)), (qz, .inl (dz, 5, .inl (upd (upd (upd (upd (fun _ => 0) (0 : Int32).toNatClampNeg 0) (1 : Int32).toNatClampNeg (nI cn)) (2 : Int32).toNatClampNeg 1) (3 : Int32).toNatClampNeg x_48)))]) (va_runS (As := [.ref bs, .int (nI 2)]) (rest := [.int 4, .ref qz, .ref qz]) ⟨hx, hb, hml, hown, hts⟩ (mX0_askedCell l D H.size bs Ls xs 2 hL (by decide)) (va_cwS 2 hts (lw_S q153 q154 q3 q155) rfl rfl rfl (by decide +kernel) ⟨(Nat.le_of_ble_eq_true rfl), (Nat.le_of_ble_eq_true rfl)⟩) (z_pre hK hP hD hS hA hX [] [] rfl (by decide) rfl (fun _ h9 => by cases h9) (fun _ h9 => h9)) rfl rfl hl.1 rfl (lv_room (Nat.le_of_ble_eq_true rfl)) dX0_askedDefined_266 ⟨(show 265 + 33 * i + 1 + 1 + 1 + 0 ≤ 430 by omega), (show 9233 + 358 * i + 1 + 2 + 5 + 0 ≤ 11023 by omega)⟩) hK hP hD hS hA [] [0, 1, 2, 3, 4, 5, 6, 7, 8, 9] rfl rfl (by decide) (by decide) (fun r_50 u_49 H locs h_51 _ hP hD hS => ?_)
    have hP : va_P D zCl [(qa, .inl (da, 2, .inl fa)), (qb, .inl (db, 2, .inl fb)), (qc, .inl (dc, 2, .inl fc)), (qd, .inl (dd, 2, .inl fd)), (qe, .inl (de, 2, .inl fe)), (qo, .inl (dO, 5, .inr (.inr (.inr (.inr fO))))), (qt, .inl (d2, (16 * mn), .inl t2)), (o1, .inr (0, [.ref t1, .int (nI (16 * mn))])), (t1, .inl (d1, 4096, .inl a2)), (qz, .inl (dz, 5, .inl (upd (upd (upd (upd (fun _ => 0) (0 : Int32).toNatClampNeg 0) (1 : Int32).toNatClampNeg (nI cn)) (2 : Int32).toNatClampNeg 1) (3 : Int32).toNatClampNeg x_48)))] H := hP
    have hD : va_D A [(qa, .inl (da, 2, .inl fa)), (qb, .inl (db, 2, .inl fb)), (qc, .inl (dc, 2, .inl fc)), (qd, .inl (dd, 2, .inl fd)), (qe, .inl (de, 2, .inl fe)), (qo, .inl (dO, 5, .inr (.inr (.inr (.inr fO))))), (qt, .inl (d2, (16 * mn), .inl t2)), (o1, .inr (0, [.ref t1, .int (nI (16 * mn))])), (t1, .inl (d1, 4096, .inl a2)), (qz, .inl (dz, 5, .inl (upd (upd (upd (upd (fun _ => 0) (0 : Int32).toNatClampNeg 0) (1 : Int32).toNatClampNeg (nI cn)) (2 : Int32).toNatClampNeg 1) (3 : Int32).toNatClampNeg x_48)))] := hD
    have h_51 : r_50 = sj_cell Ls xs 2 := h_51
    subst h_51
    refine va_iast hx hb hK hP hD hS 9 8 rfl rfl (pk_in 4 5 (by decide)) dX0_askedDefined_269 (fun H locs hP hD hS => ?_)
    have hP : va_P D zCl [(qa, .inl (da, 2, .inl fa)), (qb, .inl (db, 2, .inl fb)), (qc, .inl (dc, 2, .inl fc)), (qd, .inl (dd, 2, .inl fd)), (qe, .inl (de, 2, .inl fe)), (qo, .inl (dO, 5, .inr (.inr (.inr (.inr fO))))), (qt, .inl (d2, (16 * mn), .inl t2)), (o1, .inr (0, [.ref t1, .int (nI (16 * mn))])), (t1, .inl (d1, 4096, .inl a2)), (qz, .inl (dz, 5, .inl (upd (upd (upd (upd (upd (fun _ => 0) (0 : Int32).toNatClampNeg 0) (1 : Int32).toNatClampNeg (nI cn)) (2 : Int32).toNatClampNeg 1) (3 : Int32).toNatClampNeg x_48) (4 : Int32).toNatClampNeg (sj_cell Ls xs 2))))] H := hP
    have hD : va_D A [(qa, .inl (da, 2, .inl fa)), (qb, .inl (db, 2, .inl fb)), (qc, .inl (dc, 2, .inl fc)), (qd, .inl (dd, 2, .inl fd)), (qe, .inl (de, 2, .inl fe)), (qo, .inl (dO, 5, .inr (.inr (.inr (.inr fO))))), (qt, .inl (d2, (16 * mn), .inl t2)), (o1, .inr (0, [.ref t1, .int (nI (16 * mn))])), (t1, .inl (d1, 4096, .inl a2)), (qz, .inl (dz, 5, .inl (upd (upd (upd (upd (upd (fun _ => 0) (0 : Int32).toNatClampNeg 0) (1 : Int32).toNatClampNeg (nI cn)) (2 : Int32).toNatClampNeg 1) (3 : Int32).toNatClampNeg x_48) (4 : Int32).toNatClampNeg (sj_cell Ls xs 2))))] := hD
    generalize (upd (upd (upd (upd (upd (fun _ => 0) (0 : Int32).toNatClampNeg 0) (1 : Int32).toNatClampNeg (nI cn)) (2 : Int32).toNatClampNeg 1) (3 : Int32).toNatClampNeg x_48) (4 : Int32).toNatClampNeg (sj_cell Ls xs 2)) = fz at hP hD
    have hP : va_P D zCl [(qa, .inl (da, 2, .inl fa)), (qb, .inl (db, 2, .inl fb)), (qc, .inl (dc, 2, .inl fc)), (qd, .inl (dd, 2, .inl fd)), (qe, .inl (de, 2, .inl fe)), (qo, .inl (dO, 5, .inr (.inr (.inr (.inr fO))))), (qt, .inl (d2, (16 * mn), .inl t2)), (o1, .inr (0, [.ref t1, .int (nI (16 * mn))])), (t1, .inl (d1, 4096, .inl a2)), (qz, .inl (dz, 5, .inl fz))] H := hP
    have hD : va_D A [(qa, .inl (da, 2, .inl fa)), (qb, .inl (db, 2, .inl fb)), (qc, .inl (dc, 2, .inl fc)), (qd, .inl (dd, 2, .inl fd)), (qe, .inl (de, 2, .inl fe)), (qo, .inl (dO, 5, .inr (.inr (.inr (.inr fO))))), (qt, .inl (d2, (16 * mn), .inl t2)), (o1, .inr (0, [.ref t1, .int (nI (16 * mn))])), (t1, .inl (d1, 4096, .inl a2)), (qz, .inl (dz, 5, .inl fz))] := hD
    refine lv_astore (lv' := [(16, .ref qz), (14, .long (lN (sj_adl (fun j => sj_by (a2 j)) f cn))), (12, .long (lN (sj_crc (fun j => sj_by (a2 j)) f cn))), (11, .int (nI cn)), (10, .int (nI f)), (9, .ref qi), (0, .ref bs), (1, .ref o1), (3, .ref qt), (4, .int (nI (16 * mn))), (6, .ref qo), (7, .int (nI 5)), (8, .int (nI i))]) hx hb dX0_askedDefined_270 hl (by decide) rfl (fun ls hl => ?_)
    refine lv_aload hx hb dX0_askedDefined_272 (lv_at hl 0 rfl) ?_
    refine va_alen (v := nI 5) hx hb hK hP 9 8 rfl rfl (rfl) dX0_askedDefined_274 ?_
    refine lv_istore (lv' := [(17, .int (nI 5)), (16, .ref qz), (14, .long (lN (sj_adl (fun j => sj_by (a2 j)) f cn))), (12, .long (lN (sj_crc (fun j => sj_by (a2 j)) f cn))), (11, .int (nI cn)), (10, .int (nI f)), (9, .ref qi), (0, .ref bs), (1, .ref o1), (3, .ref qt), (4, .int (nI (16 * mn))), (6, .ref qo), (7, .int (nI 5)), (8, .int (nI i))]) hx hb dX0_askedDefined_275 hl (by decide) rfl (fun ls hl => ?_)
    refine lv_iconst (v := nI 0) hx hb dX0_askedDefined_277 (by rfl) ?_
    refine lv_istore (lv' := [(18, .int (nI 0)), (17, .int (nI 5)), (16, .ref qz), (14, .long (lN (sj_adl (fun j => sj_by (a2 j)) f cn))), (12, .long (lN (sj_crc (fun j => sj_by (a2 j)) f cn))), (11, .int (nI cn)), (10, .int (nI f)), (9, .ref qi), (0, .ref bs), (1, .ref o1), (3, .ref qt), (4, .int (nI (16 * mn))), (6, .ref qo), (7, .int (nI 5)), (8, .int (nI i))]) hx hb dX0_askedDefined_278 hl (by decide) rfl (fun ls hl => ?_)
    refine z_loop (σ := Unit) (5) (fun jj => 265 + 33 * i + 3 + 6 * jj) (fun jj => 9233 + 358 * i + 8 + 70 * jj) (fun jj _ H locs ls => va_P D zCl [(qa, .inl (da, 2, .inl fa)), (qb, .inl (db, 2, .inl fb)), (qc, .inl (dc, 2, .inl fc)), (qd, .inl (dd, 2, .inl fd)), (qe, .inl (de, 2, .inl fe)), (qo, .inl (dO, 5, .inr (.inr (.inr (.inr fO))))), (qt, .inl (d2, (16 * mn), .inl t2)), (o1, .inr (0, [.ref t1, .int (nI (16 * mn))])), (t1, .inl (d1, 4096, .inl a2)), (qz, .inl (dz, 5, .inl fz))] H ∧ va_D A [(qa, .inl (da, 2, .inl fa)), (qb, .inl (db, 2, .inl fb)), (qc, .inl (dc, 2, .inl fc)), (qd, .inl (dd, 2, .inl fd)), (qe, .inl (de, 2, .inl fe)), (qo, .inl (dO, 5, .inr (.inr (.inr (.inr fO))))), (qt, .inl (d2, (16 * mn), .inl t2)), (o1, .inr (0, [.ref t1, .int (nI (16 * mn))])), (t1, .inl (d1, 4096, .inl a2)), (qz, .inl (dz, 5, .inl fz))] ∧ va_S A s.heap H locs ∧ lv_has ls 20 [(0, .ref bs), (1, .ref o1), (3, .ref qt), (4, .int (nI (16 * mn))), (6, .ref qo), (7, .int (nI 5)), (8, .int (nI i)), (9, .ref qi), (12, .long (lN (sj_crc (fun j => sj_by (a2 j)) f cn))), (14, .long (lN (sj_adl (fun j => sj_by (a2 j)) f cn))), (16, .ref qz), (17, .int (nI 5)), (18, .int (nI jj))] ∧ True) ?_ (0) () (by decide) ⟨hP.sub (ws' := [(qa, .inl (da, 2, .inl fa)), (qb, .inl (db, 2, .inl fb)), (qc, .inl (dc, 2, .inl fc)), (qd, .inl (dd, 2, .inl fd)), (qe, .inl (de, 2, .inl fe)), (qo, .inl (dO, 5, .inr (.inr (.inr (.inr fO))))), (qt, .inl (d2, (16 * mn), .inl t2)), (o1, .inr (0, [.ref t1, .int (nI (16 * mn))])), (t1, .inl (d1, 4096, .inl a2)), (qz, .inl (dz, 5, .inl fz))]) [0, 1, 2, 3, 4, 5, 6, 7, 8, 9] rfl, hD.sub (ws' := [(qa, .inl (da, 2, .inl fa)), (qb, .inl (db, 2, .inl fb)), (qc, .inl (dc, 2, .inl fc)), (qd, .inl (dd, 2, .inl fd)), (qe, .inl (de, 2, .inl fe)), (qo, .inl (dO, 5, .inr (.inr (.inr (.inr fO))))), (qt, .inl (d2, (16 * mn), .inl t2)), (o1, .inr (0, [.ref t1, .int (nI (16 * mn))])), (t1, .inl (d1, 4096, .inl a2)), (qz, .inl (dz, 5, .inl fz))]) [0, 1, 2, 3, 4, 5, 6, 7, 8, 9] (by decide) rfl, hS, lv_sub (l' := [(0, .ref bs), (1, .ref o1), (3, .ref qt), (4, .int (nI (16 * mn))), (6, .ref qo), (7, .int (nI 5)), (8, .int (nI i)), (9, .ref qi), (12, .long (lN (sj_crc (fun j => sj_by (a2 j)) f cn))), (14, .long (lN (sj_adl (fun j => sj_by (a2 j)) f cn))), (16, .ref qz), (17, .int (nI 5)), (18, .int (nI 0))]) hl [8, 9, 10, 11, 12, 13, 14, 7, 4, 3, 2, 1, 0] rfl, trivial⟩ (by omega) (by omega)
    intro jj u H locs ls hi2 ih2 hI
    obtain ⟨hP, hD, hS, hl, hJ2⟩ := hI
    have hP : va_P D zCl [(qa, .inl (da, 2, .inl fa)), (qb, .inl (db, 2, .inl fb)), (qc, .inl (dc, 2, .inl fc)), (qd, .inl (dd, 2, .inl fd)), (qe, .inl (de, 2, .inl fe)), (qo, .inl (dO, 5, .inr (.inr (.inr (.inr fO))))), (qt, .inl (d2, (16 * mn), .inl t2)), (o1, .inr (0, [.ref t1, .int (nI (16 * mn))])), (t1, .inl (d1, 4096, .inl a2)), (qz, .inl (dz, 5, .inl fz))] H := hP
    have hD : va_D A [(qa, .inl (da, 2, .inl fa)), (qb, .inl (db, 2, .inl fb)), (qc, .inl (dc, 2, .inl fc)), (qd, .inl (dd, 2, .inl fd)), (qe, .inl (de, 2, .inl fe)), (qo, .inl (dO, 5, .inr (.inr (.inr (.inr fO))))), (qt, .inl (d2, (16 * mn), .inl t2)), (o1, .inr (0, [.ref t1, .int (nI (16 * mn))])), (t1, .inl (d1, 4096, .inl a2)), (qz, .inl (dz, 5, .inl fz))] := hD
    have hl : lv_has ls 20 [(0, .ref bs), (1, .ref o1), (3, .ref qt), (4, .int (nI (16 * mn))), (6, .ref qo), (7, .int (nI 5)), (8, .int (nI i)), (9, .ref qi), (12, .long (lN (sj_crc (fun j => sj_by (a2 j)) f cn))), (14, .long (lN (sj_adl (fun j => sj_by (a2 j)) f cn))), (16, .ref qz), (17, .int (nI 5)), (18, .int (nI jj))] := hl
    have hJ2 : True := hJ2
    refine W.widen (k := 265 + 33 * i + 3 + 6 * jj) (n := 9233 + 358 * i + 8 + 70 * jj) (Nat.le_refl _) (Nat.le_refl _) ?_
    refine lv_iload hx hb dX0_askedDefined_280 (lv_at hl 12 rfl) ?_
    refine lv_iload hx hb dX0_askedDefined_282 (lv_at hl 11 rfl) ?_
    refine lv_icmp_ge (tgt := 342) hx hb dX0_askedDefined_284 (by decide) (fun c2 => ?_) (fun c2 => ?_)
    · skip
      have hj5 : 5 ≤ jj := Nat.not_lt.mp (fun h => nI_ge (a := jj) (b := 5) h (by decide) c2)
      refine lv_iinc (v := nI (i + 1)) (lv' := [(8, .int (nI (i + 1))), (0, .ref bs), (1, .ref o1), (3, .ref qt), (4, .int (nI (16 * mn))), (6, .ref qo), (7, .int (nI 5)), (9, .ref qi), (12, .long (lN (sj_crc (fun j => sj_by (a2 j)) f cn))), (14, .long (lN (sj_adl (fun j => sj_by (a2 j)) f cn))), (16, .ref qz), (17, .int (nI 5)), (18, .int (nI jj))]) hx hb dX0_askedDefined_342 hl (k := 6) rfl (by exact nI_1 i) (by decide) rfl (fun ls hl => ?_)
      refine lv_goto (tgt := 136) hx hb dX0_askedDefined_345 (by decide) ?_
      refine W.widen (k := 265 + 33 * (i + 1)) (n := 9233 + 358 * (i + 1)) (by omega) (by omega) ?_
      exact ih (by omega) () H locs ls ⟨hP.sub (ws' := [(qa, .inl (da, 2, .inl fa)), (qb, .inl (db, 2, .inl fb)), (qc, .inl (dc, 2, .inl fc)), (qd, .inl (dd, 2, .inl fd)), (qe, .inl (de, 2, .inl fe)), (qo, .inl (dO, 5, .inr (.inr (.inr (.inr fO))))), (o1, .inr (0, [.ref t1, .int (nI (16 * mn))])), (t1, .inl (d1, 4096, .inl a2)), (qt, .inl (d2, 16 * mn, .inl t2))]) [0, 1, 2, 3, 4, 5, 7, 8, 6] rfl, hD.sub (ws' := [(qa, .inl (da, 2, .inl fa)), (qb, .inl (db, 2, .inl fb)), (qc, .inl (dc, 2, .inl fc)), (qd, .inl (dd, 2, .inl fd)), (qe, .inl (de, 2, .inl fe)), (qo, .inl (dO, 5, .inr (.inr (.inr (.inr fO))))), (o1, .inr (0, [.ref t1, .int (nI (16 * mn))])), (t1, .inl (d1, 4096, .inl a2)), (qt, .inl (d2, 16 * mn, .inl t2))]) [0, 1, 2, 3, 4, 5, 7, 8, 6] (by decide) rfl, hS, lv_sub (l' := [(0, .ref bs), (1, .ref o1), (3, .ref qt), (4, .int (nI (16 * mn))), (6, .ref qo), (7, .int (nI 5)), (8, .int (nI (i + 1)))]) hl [1, 2, 3, 4, 5, 6, 0] rfl, trivial⟩
    · skip
      have hj5 : jj < 5 := Nat.lt_of_not_le (fun h => c2 (nI_le (a := 5) (b := jj) h (by omega)))
      refine lv_aload hx hb dX0_askedDefined_287 (lv_at hl 10 rfl) ?_
      refine lv_iload hx hb dX0_askedDefined_289 (lv_at hl 12 rfl) ?_
      refine va_iald hx hb hK hP 9 8 rfl rfl (vp_in_nI hj5 (by decide)) dX0_askedDefined_291 ?_
      refine lv_topi (fun x_52 e_52 => ?_)
      have e_52 : x_52 = (fz jj) := by refine e_52.trans ?_; rw [nI_clamp (by omega)]
      subst e_52
      refine lv_istore (lv' := [(19, .int (fz jj)), (0, .ref bs), (1, .ref o1), (3, .ref qt), (4, .int (nI (16 * mn))), (6, .ref qo), (7, .int (nI 5)), (8, .int (nI i)), (9, .ref qi), (12, .long (lN (sj_crc (fun j => sj_by (a2 j)) f cn))), (14, .long (lN (sj_adl (fun j => sj_by (a2 j)) f cn))), (16, .ref qz), (17, .int (nI 5)), (18, .int (nI jj))]) hx hb dX0_askedDefined_292 hl (by decide) rfl (fun ls hl => ?_)
      refine lv_aload_n hx hb dX0_askedDefined_294 rfl (lv_at hl 2 rfl) ?_
      refine lv_aload hx hb dX0_askedDefined_295 (lv_at hl 8 rfl) ?_
      refine lv_iconst (v := 0) hx hb dX0_askedDefined_297 (by decide) ?_
      refine va_iald hx hb hK hP i (i + 3) (hwi _) (hti _) (pk_in 0 2 (by decide)) dX0_askedDefined_298 ?_
      refine lv_topi (fun x_53 e_53 => ?_)
      have e_53 : x_53 = (fi 0) := by refine e_53.trans ?_; rfl
      subst e_53
      refine lv_aload hx hb dX0_askedDefined_299 (lv_at hl 8 rfl) ?_
      refine lv_iconst (v := 1) hx hb dX0_askedDefined_301 (by decide) ?_
      refine va_iald hx hb hK hP i (i + 3) (hwi _) (hti _) (pk_in 1 2 (by decide)) dX0_askedDefined_302 ?_
      refine lv_topi (fun x_54 e_54 => ?_)
      have e_54 : x_54 = (fi 1) := by refine e_54.trans ?_; rfl
      subst e_54
      refine lv_iload hx hb dX0_askedDefined_303 (lv_at hl 0 rfl) ?_
      refine z_gol (wr := [(qa, .inl (da, 2, .inl fa)), (qb, .inl (db, 2, .inl fb)), (qc, .inl (dc, 2, .inl fc)), (qd, .inl (dd, 2, .inl fd)), (qe, .inl (de, 2, .inl fe)), (qo, .inl (dO, 5, .inr (.inr (.inr (.inr fO))))), (qt, .inl (d2, (16 * mn), .inl t2)), (qz, .inl (dz, 5, .inl fz))]) (va_runV (As := [.int (fi 0), .int (fi 1), .int (fz jj)]) (rest := []) ⟨hx, hb, hml, hown, hts⟩ (mX1_joinCrc l D H.size o1 t1 d1 t (16 * mn) a2 (fi 0) (fi 1) (fz jj) hN) (cwV 3 hts (lw_V q135 q136 q137 q4 q138) rfl rfl rfl (by decide +kernel) ⟨(Nat.le_of_ble_eq_true rfl), (Nat.le_of_ble_eq_true rfl)⟩) (z_preV (q0 := 7) (ci := 0) rfl rfl hK hP hD hS hA hX [7, 8] [0] rfl (by decide) rfl (fun _ h9 => h9) (fun _ h9 => by cases h9)) rfl rfl hl.1 rfl (lv_room (Nat.le_of_ble_eq_true rfl)) dX0_askedDefined_305 ⟨(show 265 + 33 * i + 3 + 6 * jj + 4 ≤ 430 by omega), (show 9233 + 358 * i + 8 + 70 * jj + 66 ≤ 11023 by omega)⟩) hK hP hD hS hA [7, 8] [0, 1, 2, 3, 4, 5, 6, 9] rfl rfl (by decide) (by decide) (fun r_56 u_55 H locs h_57 _ hP hD hS => ?_)
      have hP : va_P D zCl [(qa, .inl (da, 2, .inl fa)), (qb, .inl (db, 2, .inl fb)), (qc, .inl (dc, 2, .inl fc)), (qd, .inl (dd, 2, .inl fd)), (qe, .inl (de, 2, .inl fe)), (qo, .inl (dO, 5, .inr (.inr (.inr (.inr fO))))), (qt, .inl (d2, (16 * mn), .inl t2)), (qz, .inl (dz, 5, .inl fz)), (o1, .inr (0, [.ref t1, .int (nI (16 * mn))])), (t1, .inl (d1, 4096, .inl a2))] H := hP
      have hD : va_D A [(qa, .inl (da, 2, .inl fa)), (qb, .inl (db, 2, .inl fb)), (qc, .inl (dc, 2, .inl fc)), (qd, .inl (dd, 2, .inl fd)), (qe, .inl (de, 2, .inl fe)), (qo, .inl (dO, 5, .inr (.inr (.inr (.inr fO))))), (qt, .inl (d2, (16 * mn), .inl t2)), (qz, .inl (dz, 5, .inl fz)), (o1, .inr (0, [.ref t1, .int (nI (16 * mn))])), (t1, .inl (d1, 4096, .inl a2))] := hD
      have h_57 : r_56 = lN (sj_crc (fun j => sj_by (a2 j)) (sj_pos (fi 0) % ((16 * mn) + 1)) (sj_pos (fi 1) % ((16 * mn) - sj_pos (fi 0) % ((16 * mn) + 1) + 1))) := h_57
      subst h_57
      have v_58 : (lN (sj_crc (fun j => sj_by (a2 j)) (sj_pos (fi 0) % ((16 * mn) + 1)) (sj_pos (fi 1) % ((16 * mn) - sj_pos (fi 0) % ((16 * mn) + 1) + 1)))) = lN (sj_crc (fun j => sj_by (a2 j)) f cn) := by rw [hc, hf]
      rw [v_58]
      refine lv_lload hx hb dX0_askedDefined_308 (lv_at hl 9 rfl) ?_
      refine W.lcmp hx hb dX0_askedDefined_310 ?_
      refine lv_if_ne (tgt := 334) hx hb dX0_askedDefined_311 (by decide) (fun c0 => False.elim (by exact c0 ((zj_cmp0 _ _).mpr rfl))) (fun c0 => ?_)
      refine lv_aload_n hx hb dX0_askedDefined_314 rfl (lv_at hl 2 rfl) ?_
      refine lv_aload hx hb dX0_askedDefined_315 (lv_at hl 8 rfl) ?_
      refine lv_iconst (v := 0) hx hb dX0_askedDefined_317 (by decide) ?_
      refine va_iald hx hb hK hP i (i + 3) (hwi _) (hti _) (pk_in 0 2 (by decide)) dX0_askedDefined_318 ?_
      refine lv_topi (fun x_59 e_59 => ?_)
      have e_59 : x_59 = (fi 0) := by refine e_59.trans ?_; rfl
      subst e_59
      refine lv_aload hx hb dX0_askedDefined_319 (lv_at hl 8 rfl) ?_
      refine lv_iconst (v := 1) hx hb dX0_askedDefined_321 (by decide) ?_
      refine va_iald hx hb hK hP i (i + 3) (hwi _) (hti _) (pk_in 1 2 (by decide)) dX0_askedDefined_322 ?_
      refine lv_topi (fun x_60 e_60 => ?_)
      have e_60 : x_60 = (fi 1) := by refine e_60.trans ?_; rfl
      subst e_60
      refine lv_iload hx hb dX0_askedDefined_323 (lv_at hl 0 rfl) ?_
      refine z_gol (wr := [(qa, .inl (da, 2, .inl fa)), (qb, .inl (db, 2, .inl fb)), (qc, .inl (dc, 2, .inl fc)), (qd, .inl (dd, 2, .inl fd)), (qe, .inl (de, 2, .inl fe)), (qo, .inl (dO, 5, .inr (.inr (.inr (.inr fO))))), (qt, .inl (d2, (16 * mn), .inl t2)), (qz, .inl (dz, 5, .inl fz))]) (va_runV (As := [.int (fi 0), .int (fi 1), .int (fz jj)]) (rest := []) ⟨hx, hb, hml, hown, hts⟩ (mX1_joinAdler l D H.size o1 t1 d1 (16 * mn) a2 (fi 0) (fi 1) (fz jj) hN) (cwV 3 hts (lw_V q113 q114 q115 q4 q116) rfl rfl rfl (by decide +kernel) ⟨(Nat.le_of_ble_eq_true rfl), (Nat.le_of_ble_eq_true rfl)⟩) (z_preV (q0 := 8) (ci := 0) rfl rfl hK hP hD hS hA hX [8, 9] [0] rfl (by decide) rfl (fun _ h9 => by cases h9) (fun _ h9 => by cases h9)) rfl rfl hl.1 rfl (lv_room (Nat.le_of_ble_eq_true rfl)) dX0_askedDefined_325 ⟨(show 265 + 33 * i + 3 + 6 * jj + 4 + 2 ≤ 430 by omega), (show 9233 + 358 * i + 8 + 70 * jj + 66 + 4 ≤ 11023 by omega)⟩) hK hP hD hS hA [8, 9] [0, 1, 2, 3, 4, 5, 6, 7] rfl rfl (by decide) (by decide) (fun r_62 u_61 H locs h_63 _ hP hD hS => ?_)
      have hP : va_P D zCl [(qa, .inl (da, 2, .inl fa)), (qb, .inl (db, 2, .inl fb)), (qc, .inl (dc, 2, .inl fc)), (qd, .inl (dd, 2, .inl fd)), (qe, .inl (de, 2, .inl fe)), (qo, .inl (dO, 5, .inr (.inr (.inr (.inr fO))))), (qt, .inl (d2, (16 * mn), .inl t2)), (qz, .inl (dz, 5, .inl fz)), (o1, .inr (0, [.ref t1, .int (nI (16 * mn))])), (t1, .inl (d1, 4096, .inl a2))] H := hP
      have hD : va_D A [(qa, .inl (da, 2, .inl fa)), (qb, .inl (db, 2, .inl fb)), (qc, .inl (dc, 2, .inl fc)), (qd, .inl (dd, 2, .inl fd)), (qe, .inl (de, 2, .inl fe)), (qo, .inl (dO, 5, .inr (.inr (.inr (.inr fO))))), (qt, .inl (d2, (16 * mn), .inl t2)), (qz, .inl (dz, 5, .inl fz)), (o1, .inr (0, [.ref t1, .int (nI (16 * mn))])), (t1, .inl (d1, 4096, .inl a2))] := hD
      have h_63 : r_62 = lN (sj_adl (fun j => sj_by (a2 j)) (sj_pos (fi 0) % ((16 * mn) + 1)) (sj_pos (fi 1) % ((16 * mn) - sj_pos (fi 0) % ((16 * mn) + 1) + 1))) := h_63
      subst h_63
      have v_64 : (lN (sj_adl (fun j => sj_by (a2 j)) (sj_pos (fi 0) % ((16 * mn) + 1)) (sj_pos (fi 1) % ((16 * mn) - sj_pos (fi 0) % ((16 * mn) + 1) + 1)))) = lN (sj_adl (fun j => sj_by (a2 j)) f cn) := by rw [hc, hf]
      rw [v_64]
      refine lv_lload hx hb dX0_askedDefined_328 (lv_at hl 10 rfl) ?_
      refine W.lcmp hx hb dX0_askedDefined_330 ?_
      refine lv_if_eq (tgt := 336) hx hb dX0_askedDefined_331 (by decide) (fun c0 => ?_) (fun c0 => False.elim (by exact c0 ((zj_cmp0 _ _).mpr rfl)))
      refine lv_iinc (v := nI (jj + 1)) (lv' := [(18, .int (nI (jj + 1))), (19, .int (fz jj)), (0, .ref bs), (1, .ref o1), (3, .ref qt), (4, .int (nI (16 * mn))), (6, .ref qo), (7, .int (nI 5)), (8, .int (nI i)), (9, .ref qi), (12, .long (lN (sj_crc (fun j => sj_by (a2 j)) f cn))), (14, .long (lN (sj_adl (fun j => sj_by (a2 j)) f cn))), (16, .ref qz), (17, .int (nI 5))]) hx hb dX0_askedDefined_336 hl (k := 13) rfl (by exact nI_1 jj) (by decide) rfl (fun ls hl => ?_)
      refine lv_goto (tgt := 280) hx hb dX0_askedDefined_339 (by decide) ?_
      refine W.widen (k := 265 + 33 * i + 3 + 6 * (jj + 1)) (n := 9233 + 358 * i + 8 + 70 * (jj + 1)) (by omega) (by omega) ?_
      exact ih2 (by omega) () H locs ls ⟨hP.sub (ws' := [(qa, .inl (da, 2, .inl fa)), (qb, .inl (db, 2, .inl fb)), (qc, .inl (dc, 2, .inl fc)), (qd, .inl (dd, 2, .inl fd)), (qe, .inl (de, 2, .inl fe)), (qo, .inl (dO, 5, .inr (.inr (.inr (.inr fO))))), (qt, .inl (d2, (16 * mn), .inl t2)), (o1, .inr (0, [.ref t1, .int (nI (16 * mn))])), (t1, .inl (d1, 4096, .inl a2)), (qz, .inl (dz, 5, .inl fz))]) [0, 1, 2, 3, 4, 5, 6, 8, 9, 7] rfl, hD.sub (ws' := [(qa, .inl (da, 2, .inl fa)), (qb, .inl (db, 2, .inl fb)), (qc, .inl (dc, 2, .inl fc)), (qd, .inl (dd, 2, .inl fd)), (qe, .inl (de, 2, .inl fe)), (qo, .inl (dO, 5, .inr (.inr (.inr (.inr fO))))), (qt, .inl (d2, (16 * mn), .inl t2)), (o1, .inr (0, [.ref t1, .int (nI (16 * mn))])), (t1, .inl (d1, 4096, .inl a2)), (qz, .inl (dz, 5, .inl fz))]) [0, 1, 2, 3, 4, 5, 6, 8, 9, 7] (by decide) rfl, hS, lv_sub (l' := [(0, .ref bs), (1, .ref o1), (3, .ref qt), (4, .int (nI (16 * mn))), (6, .ref qo), (7, .int (nI 5)), (8, .int (nI i)), (9, .ref qi), (12, .long (lN (sj_crc (fun j => sj_by (a2 j)) f cn))), (14, .long (lN (sj_adl (fun j => sj_by (a2 j)) f cn))), (16, .ref qz), (17, .int (nI 5)), (18, .int (nI (jj + 1)))]) hl [2, 3, 4, 5, 6, 7, 8, 9, 10, 11, 12, 13, 0] rfl, trivial⟩
end
section
/-! THE CLAIM OUT OF ONE WALK OF THE LAW'S BODY. Your part is whole_start (and what it stands on); all else here is the same for every law, but numbers. -/
def R_law : String := "SumJoinLaw"
def lw_P (b : Addr) (xs : List Int32) (args : Array Value) (s : State) : Prop := args = #[.ref b] ∧ s.IntsAt b xs ∧ xs.length ≤ 48 ∧ (Jvm.Cond.and given_1 narrow_1).before args s = true
def lw_Q (_ : Array Value) (s : State) (o : Outcome) (t : State) : Prop := o = .returned (some (.int 1)) ∧ Framed s o t [] 1200000 5502250
def lw_Z (below : List Frame) (a : Array Value) (s : State) : State → Prop := fun t => ∃ o, t.status = .running ∧ Ended t below o ∧ lw_Q a s o t
/-- the law's own end, with 1 on the stack, nothing written that was there before, its room as the claim has it -/
theorem lw_ret {p : Program} {l : Launch} {e : Env} {s : State} {m : MethodId} {below : List Frame} {meth : Method} {c : Code} {b : Nat} (hx : p.tables.exec = Jvm.exec) (hb : c.code = code) (hr : meth.sig.returnType = ret) (hlocks : meth.locks = false) {pc : Nat} {H : Heap} {ls : Array Slot} (hdg : decode code pc = .ok (.ireturn, 1)) : W p l e room_1 s m #[Value.ref b] below meth c H [] 1200000 5502250 (lw_Z below #[Value.ref b] s) (F0 m pc ls [.int 1]) := by
  intro T hT X
  obtain ⟨fs, hret, hrun, hended, hW, hframe⟩ := X.leave (v := some (.int 1)) (hlocks := hlocks) (fun h => by rw [hr] at h; cases h)
  have hmeth' : T.vm.method? m = some meth := X.method'
  refine ⟨T.setFrames fs, ?_, .returned (some (.int 1)), hrun, hended, rfl, ⟨_, rfl⟩, hW, hframe⟩
  jvm_step X.here [X.here.top, hx, hb, hdg, hmeth', hr, ret, narrow_b1]
  (try refine ⟨rfl, ?_⟩); (try refine ⟨rfl, ?_⟩)
  first | (intro acts; rw [hret _ acts rfl rfl rfl]) | rw [hret _ _ rfl rfl rfl]
  exact Steps.refl _
/-- what holds at the law's entry: the machine, the code, the tables' words (any of lw_tbl by 'hts w (by decide +kernel)'), the script of L ints xs at the cell b, what the Statement gives of the start (any of its parts by flat_of_before) -/
def lw_At (p : Program) (s : State) (m : MethodId) (meth : Method) (c : Code) (b L : Nat) (xs : Nat → Int32) : Prop :=
  p.tables.exec = Jvm.exec ∧ c.code = code ∧ meth.sig.returnType = ret ∧ c.maxLocals = 1 ∧ s.vm.findClass R_law = some m.cls ∧ (∀ w ∈ lw_tbl, w.before #[Value.ref b] s = true) ∧ va_X b L xs s s.heap ∧ b < s.heap.size ∧ meth.locks = false ∧ (Jvm.Cond.and given_1 narrow_1).before #[Value.ref b] s = true
/-- the table's rows of the claim's premises, in a row -/
def zw_row (j : Nat) : Jvm.Cond := .eq (.elem (.static "CRC32" "crc_table" "[I") (.int (Int32.ofNat j))) (.int (nI (sj_c8 j)))
theorem zw_rows : ((flatC (Jvm.Cond.and given_1 narrow_1)).drop 7).take 256 = (List.range 256).map zw_row := by decide +kernel
theorem zw_mem (j : Nat) (hj : j < 256) : zw_row j ∈ flatC (Jvm.Cond.and given_1 narrow_1) := by
  have h : zw_row j ∈ (List.range 256).map zw_row := List.mem_map.mpr ⟨j, List.mem_range.mpr hj, rfl⟩
  rw [← zw_rows] at h
  exact List.mem_of_mem_drop (List.mem_of_mem_take h)
theorem zw_X {s : State} {b L : Nat} {xs : Nat → Int32} (hts : ∀ w ∈ lw_tbl, w.before #[Value.ref b] s = true) (hX : va_X b L xs s s.heap) (hbl : b < s.heap.size) (hgv : (Jvm.Cond.and given_1 narrow_1).before #[Value.ref b] s = true) : ∃ t : Nat, zX (some t) (some (b, L, xs)) (fun q : Nat => s.heap.size ≤ q) s s.heap := by
  have hs := flat_of_before _ hgv
  have hA : ∀ a : Nat, a < s.heap.size → ¬ (fun q : Nat => s.heap.size ≤ q) a := fun a h => Nat.not_le.mpr h
  have harr : (Cond.arrayOf (.static "CRC32" "crc_table" "[I") .int).before #[Value.ref b] s = true := hs _ (List.mem_of_getElem? (i := 5) (by decide +kernel))
  have hlen : (Cond.eq (.length (.static "CRC32" "crc_table" "[I")) (.int 256)).before #[Value.ref b] s = true := hs _ (List.mem_of_getElem? (i := 6) (by decide +kernel))
  obtain ⟨t, ht, hT⟩ := va_Tof (A := fun q : Nat => s.heap.size ≤ q) (N := 256) (f := fun j => .int (nI (sj_c8 j))) (by decide) harr (va_eqt hlen) (fun j hj => va_eqt (hs _ (zw_mem j hj))) hA
  refine ⟨t, fun t' e => ?_, fun q e => ?_, fun _ _ => zA_O.of (Vm.Alike.refl _) (hts _ q160)⟩
  · cases e
    exact ⟨va_Zref (hts _ q60) (hts _ (lw_all_tbl q5)) ht hA, hT⟩
  · cases e
    obtain ⟨scr, h1, h2, h3, h4, h5⟩ := hX
    exact ⟨scr, h1, h2, h3, Nat.le_of_eq h4.symm, congrArg Nat.toInt32 h4, h5, hA b hbl⟩
set_option maxHeartbeats 4000000 in
set_option maxRecDepth 100000 in
theorem whole_start {p : Program} {e : Env} {s : State} {m : MethodId} {below : List Frame} {meth : Method} {c : Code} (l : Launch) (hflags : l.flags = flags0) {b L : Nat} {xs : Nat → Int32} (hL : L ≤ 48) (C0 : lw_At p s m meth c b L xs) : W p l e room_1 s m #[Value.ref b] below meth c s.heap [] 0 0 (lw_Z below #[Value.ref b] s) (entryFrame m ([Value.ref b] : List Value).toArray 1) := by
  obtain ⟨hx, hb, hr, hml, hown, hts0, hX0, hbl, hlocks, hgv⟩ := C0
  have hts : ∀ w ∈ lw_all, w.before #[Value.ref b] s = true := fun w h => hts0 w (lw_all_tbl h)
  obtain ⟨t, hX⟩ := zw_X hts0 hX0 hbl hgv
  obtain ⟨c1, i1, hKn1⟩ := u_known (C := RX1) (T := TX1) (N := 2) (n := 2) hts0 (fun w h => lw_all_tbl (in_X1 w h)) (hts0 _ (lw_all_tbl q14))
  obtain ⟨c2, i2, hKn2⟩ := u_known (C := RX2) (T := TX2) (N := 1) (n := 1) hts0 (fun w h => lw_all_tbl (in_X2 w h)) (hts0 _ (lw_all_tbl q46))
  obtain ⟨c3, i3, hKn3⟩ := u_known (C := RX3) (T := TX3) (N := 2) (n := 2) hts0 (fun w h => lw_all_tbl (in_X3 w h)) (hts0 _ (lw_all_tbl q67))
  obtain ⟨D, hKc⟩ : ∃ D : va_G, ∀ (k : Nat) (q : vw_C), zCl[k]? = some q → u_Kn s q.1 q.2.1 q.2.2 (D.1 k) (D.2 k) := by
    refine ⟨(fun k => if k = 0 then c1 else if k = 1 then c2 else c3, fun k => if k = 0 then i1 else if k = 1 then i2 else i3), ?_⟩
    intro k q hq
    match k, hq with
    | 0, hq => cases hq; exact hKn1
    | 1, hq => cases hq; exact hKn2
    | 2, hq => cases hq; exact hKn3
    | k + 3, hq => simp [zCl] at hq
  generalize hAe : (fun q : Nat => s.heap.size ≤ q) = A at hX
  have hA : ∀ q : Nat, s.heap.size ≤ q → A q := fun q h => by rw [← hAe]; exact h
  have hS : va_S A s.heap s.heap [] := va_S.rf
  have hK : va_K D zCl [] s := ⟨hKc, fun k q h => by simp at h⟩
  have hP : va_P D zCl [] s.heap := fun k q h => by simp at h
  have hD : va_D A [] := ⟨fun i j p q h => by simp at h, fun k q h => by simp at h⟩
  have hl := lv_entry ([.ref b]) (n := 1) (Nat.le_of_ble_eq_true rfl)
  rw [lg_entry_eq]
  generalize (lg_sl ([.ref b]) ++ List.replicate (1 - (lg_sl ([.ref b])).length) Slot.unset).toArray = ls at hl ⊢
  have hl : lv_has ls 1 [(0, .ref b)] := hl
  refine lv_aload_n hx hb dL_law_0 rfl (lv_at hl 0 rfl) ?_
  refine z_goi (wr := []) (va_runS (As := [.ref b]) (rest := []) ⟨hx, hb, hml, hown, hts⟩ (mX0_elder l D s.heap.size b L xs t hL) (va_cwS 1 hts (lw_S q7 q8 q3 q9) rfl rfl rfl (by decide +kernel) ⟨(Nat.le_of_ble_eq_true rfl), (Nat.le_of_ble_eq_true rfl)⟩) (z_pre hK hP hD hS hA hX [] [] rfl (by decide) rfl (fun _ h9 => h9) (fun _ h9 => h9)) rfl rfl hl.1 rfl (lv_room (Nat.le_of_ble_eq_true rfl)) dL_law_1 ⟨(Nat.le_of_ble_eq_true rfl), (Nat.le_of_ble_eq_true rfl)⟩) hK hP hD hS hA [] [] rfl rfl (by decide) (by decide) (fun r_2 u_1 H locs h_3 _ hP hD hS => ?_)
  have hP : va_P D zCl [] H := hP
  have hD : va_D A [] := hD
  have h_3 : r_2 = 1 := h_3
  subst h_3
  refine lv_if_eq (tgt := 24) hx hb dL_law_4 (by decide) (fun c0 => False.elim (by exact absurd c0 (by decide))) (fun c0 => ?_)
  refine lv_aload_n hx hb dL_law_7 rfl (lv_at hl 0 rfl) ?_
  refine z_goi (wr := []) (va_runS (As := [.ref b]) (rest := []) ⟨hx, hb, hml, hown, hts⟩ (mX0_askedDefined l D H.size b L xs t hL) (va_cwS 1 hts (lw_S q150 q151 q3 q152) rfl rfl rfl (by decide +kernel) ⟨(Nat.le_of_ble_eq_true rfl), (Nat.le_of_ble_eq_true rfl)⟩) (z_pre hK hP hD hS hA hX [] [] rfl (by decide) rfl (fun _ h9 => h9) (fun _ h9 => h9)) rfl rfl hl.1 rfl (lv_room (Nat.le_of_ble_eq_true rfl)) dL_law_8 ⟨(Nat.le_of_ble_eq_true rfl), (Nat.le_of_ble_eq_true rfl)⟩) hK hP hD hS hA [] [] rfl rfl (by decide) (by decide) (fun r_5 u_4 H locs h_6 _ hP hD hS => ?_)
  have hP : va_P D zCl [] H := hP
  have hD : va_D A [] := hD
  have h_6 : r_5 = 1 := h_6
  subst h_6
  refine lv_if_eq (tgt := 24) hx hb dL_law_11 (by decide) (fun c0 => False.elim (by exact absurd c0 (by decide))) (fun c0 => ?_)
  refine z_goi (wr := []) (va_runS (As := []) (rest := []) ⟨hx, hb, hml, hown, hts⟩ (mX0_askedBounds l D H.size t) (va_cwS 0 hts (lw_S q169 q170 q3 q171) rfl rfl rfl (by decide +kernel) ⟨(Nat.le_of_ble_eq_true rfl), (Nat.le_of_ble_eq_true rfl)⟩) (z_pre hK hP hD hS hA hX [] [] rfl (by decide) rfl (fun _ h9 => h9) (fun _ h9 => by cases h9)) rfl rfl hl.1 rfl (lv_room (Nat.le_of_ble_eq_true rfl)) dL_law_14 ⟨(Nat.le_of_ble_eq_true rfl), (Nat.le_of_ble_eq_true rfl)⟩) hK hP hD hS hA [] [] rfl rfl (by decide) (by decide) (fun r_8 u_7 H locs h_9 _ hP hD hS => ?_)
  have hP : va_P D zCl [] H := hP
  have hD : va_D A [] := hD
  have h_9 : r_8 = 1 := h_9
  subst h_9
  refine lv_if_eq (tgt := 24) hx hb dL_law_17 (by decide) (fun c0 => False.elim (by exact absurd c0 (by decide))) (fun c0 => ?_)
  refine lv_iconst (v := 1) hx hb dL_law_20 (by decide) ?_
  refine lv_goto (tgt := 25) hx hb dL_law_21 (by decide) ?_
  refine va_forget (fun q hq => by have h9 := hS.2.2 q hq; rw [← hAe] at h9; exact h9) ?_
  refine W.widen (k := 1200000) (n := 5502250) (Nat.le_of_ble_eq_true rfl) (Nat.le_of_ble_eq_true rfl) ?_
  exact lw_ret hx hb hr hlocks dL_law_25
end
section
set_option maxHeartbeats 4000000 in
theorem lw_walk (l : Launch) (hflags : l.flags = flags0) (b : Addr) (xs : List Int32) : MetFree l x (headSpec (Jvm.Cond.code x code maxLocals ret :: tables_1) room_1) (lw_P b xs) (fun _ _ _ _ _ => True) lw_Q := by
  refine MetFree.of_bodyS (code := code) (maxLocals := maxLocals) (ret := ret) (by decide) ?_ ?_
  · intro args s m h hn
    obtain ⟨meth, c, h1, h2, h3, h4, h5, h6, -, -⟩ := Cond.code_spec hn (atoms_spec (ws := Jvm.Cond.code x code maxLocals ret :: tables_1) h _ List.mem_cons_self)
    exact ⟨meth, c, h1, h2, h3, h4, h5, h6⟩
  · intro p e s m args below meth c s₁ B hml0 hP _
    obtain ⟨rfl, hx, hbd, hgv⟩ := hP
    obtain ⟨scr, harrAt, hlist, hof, hsmall⟩ := hx
    obtain ⟨hcb, hkn, -, -⟩ := State.arrayAt?_spec harrAt
    have hown : s.vm.findClass R_law = some m.cls := findClass_of_methodNamed B.named
    have hts0 : ∀ c ∈ (Jvm.Cond.code x code maxLocals ret :: tables_1), c.before #[Value.ref b] s = true := atoms_spec (ws := Jvm.Cond.code x code maxLocals ret :: tables_1) B.pre
    have hts : ∀ w ∈ lw_tbl, w.before #[Value.ref b] s = true := k2_hts_sels lw_privs (fun w hw => hts0 w (List.mem_cons_of_mem _ hw)) lw_privs_ok
    have hml : c.maxLocals = 1 := B.maxLocals_eq (hts0 _ List.mem_cons_self)
    have X₀ : Stand p l e room_1 s m #[Value.ref b] below meth c s₁ [] 0 0 := Stand.of_body B
    have hh0 : s₁.heap = s.heap := by rw [B.state]; rfl
    have hsz : scr.slots.size = xs.length := by rw [← Array.length_toList, hlist, List.length_map]
    have hval : ∀ j : Nat, j < xs.length → scr.slots[j]? = some (.int (xs.getD j 0)) := fun j hj => by
      rw [← Array.getElem?_toList, hlist]
      simp [hj]
    have hbl : b < s.heap.size := (Array.getElem?_eq_some_iff.mp hcb).1
    have hX : va_X b xs.length (fun j => xs.getD j 0) s s.heap := ⟨scr, hcb, hof, hkn, hsz, hval⟩
    have K : W p l e room_1 s m #[Value.ref b] below meth c s₁.heap [] 0 0 (lw_Z below #[Value.ref b] s) (entryFrame m ([Value.ref b] : List Value).toArray 1) := by
      rw [hh0]
      exact whole_start l hflags hbd ⟨B.exec, B.bytes, B.returns, hml, hown, hts, hX, hbl, B.notSynchronized, hgv⟩
    obtain ⟨t, a1, o, b1, b2, b3⟩ := K s₁ rfl X₀
    exact ⟨t, o, a1, b1, b2, b3⟩
theorem lw_pre_spec {args : Array Value} {s : State} (h : (Jvm.Cond.and given_1 narrow_1).before args s = true) (hr : rest_1_c.before args s = true) : ∃ (b : Addr) (xs : List Int32), lw_P b xs args s := by
  have hs := flat_of_before _ h
  have hq := flat_of_before _ hr
  have hc : (Cond.count 1).before args s = true := hs _ (by decide +kernel)
  have harr : (Cond.arrayOf (.arg 0) .int).before args s = true := hs _ (by decide +kernel)
  have hle : (Cond.le (.length (.arg 0)) (.int 48)).before args s = true := hs _ (by decide +kernel)
  have hlen : (Cond.isInt (.length (.arg 0))).before args s = true := hq _ (by decide +kernel)
  have hall : (Cond.all (.arg 0) (.isInt (.elem (.arg 0) (.index 0)))).before args s = true := hq _ (by decide +kernel)
  obtain ⟨b, xs, hb, hx⟩ := State.ints_of_pre rfl harr hlen hall
  have hsm : xs.length < 2 ^ 31 := hx.choose_spec.2.2.2
  have hev : (Term.length (.arg 0)).eval args s none [] s = some (.int xs.length.toInt32) := hx.length_eval hb
  have hv := Cond.le_ints hev (show (Term.int 48).eval args s none [] s = some (.int 48) from rfl)
  have hd : xs.length.toInt32 ≤ 48 := by
    simpa [Cond.before, Cond.holds, hv] using hle
  have hN : xs.length ≤ 48 := (Int32.ofNat_le_ofNat hsm (by decide)).mp (show Int32.ofNat xs.length ≤ Int32.ofNat 48 from hd)
  exact ⟨b, xs, Cond.one_arg hc (show args[0]? = some (.ref b) from hb), hx, hN, h⟩
theorem lw_comes (l : Launch) (hflags : l.flags = flags0) : Comes l x (Jvm.Cond.code x code maxLocals ret :: tables_1) room_1 (fun tb e args s => Calls_1 tb e args s ∧ rest_1 tb e args s ∧ Pre_1 tb e args s)
    (fun _ _ args s o t => lw_Q args s o t) := by
  intro p e ha hc hk s m args below hf hfit hheap happ hpre
  obtain ⟨b, xs, hP⟩ := lw_pre_spec hpre.2.2 hpre.2.1
  obtain ⟨k, o, h1, h2, h3, hQ⟩ := lw_walk l hflags b xs p e ha hc hk s m args below hf ((Spec.applies_iff_loose hf).mp happ).1 hP trivial
  exact ⟨k, o, h1, h2, h3, hQ⟩
theorem lw_frame {s t : State} {o : Outcome} {args : Array Value} (h : Framed s o t [] 1200000 5502250) :
    Framed s o t (fieldLocs frame_1_writes args s ++ arrayLocs frame_1_arrays args s ++ staticLocs frame_1_statics s) 1200000 5502250 := h
theorem lw_limb (L : Cond) (hL : ∀ (args : Array Value) (s t : State), L.after args s (.returned (some (.int 1))) t = true) :
    ArmFor flags0 classFile x code maxLocals ret World_1 tables_1 room_1 Calls_1 rest_1 Pre_1
      (fun tb e a s o t => postC L tb e a s o t ∧ Framed s o t (fieldLocs frame_1_writes a s ++ arrayLocs frame_1_arrays a s ++ staticLocs frame_1_statics s) 1200000 5502250) := by
  intro l hflags _ _ p e ha hc hk s m args below hf hfit hheap happ hpre
  obtain ⟨k, o, h1, h2, h3, rfl, hF⟩ := lw_comes l hflags p e ha hc hk s m args below hf hfit hheap happ hpre
  exact ⟨k, _, h1, h2, h3, hL args s _, lw_frame hF⟩
theorem i_vc : Claimed_1_1 ∧ Claimed_1_2 := ⟨lw_limb limb_1_1 (fun args s t => by simp [limb_1_1, Cond.after, Cond.holds, Cond.value]), lw_limb limb_1_2 (fun args s t => Cond.after_iff.mpr (by
  first | (rw [show limb_1_2 = Cond.eq .result (.int 1) from rfl, Cond.eq_ints (x := 1) (y := 1) rfl rfl]; simp; done) | (simp [limb_1_2, Cond.value, Term.eval]; done)))⟩
end
