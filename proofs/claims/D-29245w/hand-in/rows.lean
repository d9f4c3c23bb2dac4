section
-- ===== PART A: goes FIRST, ahead of the names: the tables' words, and 'selects' of the private methods out of them =====
/-- a private method of a class that the tables say can be made, by its rows of tables_1 -/
def lw_okq (q : MethodName × Nat) : Prop := (q.1.cls ≠ "java/lang/invoke/MethodHandle" ∧ q.1.cls ≠ "java/lang/invoke/VarHandle") ∧ Cond.instantiable q.1.cls q.2 ∈ tables_1 ∧ Cond.privateMethod q.1 ∈ tables_1 ∧ Cond.instanceMethod q.1 ∈ tables_1
set_option maxRecDepth 100000
theorem lw_p0 : lw_okq (⟨"BarValueDesk", "widest", "()I"⟩, 1) := ⟨⟨by decide +kernel, by decide +kernel⟩, List.mem_of_getElem? (i := 5) rfl, List.mem_of_getElem? (i := 30) rfl, List.mem_of_getElem? (i := 31) rfl⟩
theorem lw_p1 : lw_okq (⟨"BarValueDesk", "sum", "()I"⟩, 1) := ⟨⟨by decide +kernel, by decide +kernel⟩, List.mem_of_getElem? (i := 5) rfl, List.mem_of_getElem? (i := 35) rfl, List.mem_of_getElem? (i := 36) rfl⟩
theorem lw_p2 : lw_okq (⟨"BarValueDesk", "narrow", "()Z"⟩, 1) := ⟨⟨by decide +kernel, by decide +kernel⟩, List.mem_of_getElem? (i := 5) rfl, List.mem_of_getElem? (i := 49) rfl, List.mem_of_getElem? (i := 50) rfl⟩
theorem lw_p3 : lw_okq (⟨"BarValueDeskModel", "most", "(I)I"⟩, 1) := ⟨⟨by decide +kernel, by decide +kernel⟩, List.mem_of_getElem? (i := 57) rfl, List.mem_of_getElem? (i := 84) rfl, List.mem_of_getElem? (i := 85) rfl⟩
theorem lw_p4 : lw_okq (⟨"BarValueDeskModel", "sum", "()I"⟩, 1) := ⟨⟨by decide +kernel, by decide +kernel⟩, List.mem_of_getElem? (i := 57) rfl, List.mem_of_getElem? (i := 89) rfl, List.mem_of_getElem? (i := 90) rfl⟩
theorem lw_p5 : lw_okq (⟨"BarValueDeskModel", "ahead", "(IZ)I"⟩, 1) := ⟨⟨by decide +kernel, by decide +kernel⟩, List.mem_of_getElem? (i := 57) rfl, List.mem_of_getElem? (i := 93) rfl, List.mem_of_getElem? (i := 94) rfl⟩
def lw_privs_1 : List (MethodName × Nat) := [(⟨"BarValueDesk", "widest", "()I"⟩, 1), (⟨"BarValueDesk", "sum", "()I"⟩, 1), (⟨"BarValueDesk", "narrow", "()Z"⟩, 1), (⟨"BarValueDeskModel", "most", "(I)I"⟩, 1), (⟨"BarValueDeskModel", "sum", "()I"⟩, 1), (⟨"BarValueDeskModel", "ahead", "(IZ)I"⟩, 1)]
theorem lw_r1 : ∀ q ∈ lw_privs_1, lw_okq q := List.forall_mem_cons.mpr ⟨lw_p0, List.forall_mem_cons.mpr ⟨lw_p1, List.forall_mem_cons.mpr ⟨lw_p2, List.forall_mem_cons.mpr ⟨lw_p3, List.forall_mem_cons.mpr ⟨lw_p4, List.forall_mem_cons.mpr ⟨lw_p5, fun _ h => absurd h List.not_mem_nil⟩⟩⟩⟩⟩⟩
def lw_privs : List (MethodName × Nat) := lw_privs_1
def lw_tbl : List Cond := k2_sels lw_privs ++ tables_1
theorem lw_privs_ok : ∀ q ∈ lw_privs, lw_okq q := lw_r1
-- ===== ONE list of words for every method: the tables' words that hold all through a run =====
def lw_all : List Cond := lw_tbl.filter goodWord
/-- a word of the tables by its place: claim/WORDS.tsv -/
theorem lw_w {w : Cond} (i : Nat) (h : lw_tbl[i]? = some w) (g : goodWord w = true) : w ∈ lw_all := List.mem_filter.mpr ⟨List.mem_of_getElem? h, g⟩
theorem lw_all_tbl {w : Cond} (h : w ∈ lw_all) : w ∈ lw_tbl := (List.mem_filter.mp h).1
theorem lw_self : GoodIn lw_all lw_all := fun w h => ⟨h, good_of_word (List.mem_filter.mp h).2⟩
/-- a class's field words, by their places -/
theorem lw_in (ws : List Cond) (ps : List Nat) (hp : ws = ps.filterMap (fun i => lw_tbl[i]?)) (hg : ws.all goodWord = true) : ∀ w ∈ ws, w ∈ lw_all := by
  intro w h
  have h1 := List.all_eq_true.mp hg w h
  rw [hp] at h
  obtain ⟨i, -, hi⟩ := List.mem_filterMap.mp h
  exact lw_w i hi h1
/-- the words of a contract for the method y with code b, L locals, answer r -/
abbrev ws_ (y : MethodName) (b : ByteArray) (L : Nat) (r : Option FieldType) : List Cond := Cond.code y b L r :: lw_all
theorem lw_meth {y : MethodName} {b : ByteArray} {L : Nat} {r : Option FieldType} (h : Cond.code y b L r ∈ lw_all) : GoodIn lw_all (ws_ y b L r) := by
  intro w hw
  rcases List.mem_cons.mp hw with e | e
  · rw [e]
    exact lw_self _ h
  · exact lw_self _ e
theorem lw_app {a c : List Cond} (ha : ∀ w ∈ a, w ∈ lw_all) (hc : GoodIn lw_all c) : GoodIn lw_all (a ++ c) := by
  intro w hw
  rcases List.mem_append.mp hw with e | e
  · exact lw_self w (ha w e)
  · exact hc w e
/-- what a call through an object asks: cwV n hts (lw_V ..) -/
theorem lw_V {own : String} {idx : Nat} {C : String} {y : MethodName} {b : ByteArray} {L : Nat} {r : Option FieldType} (h1 : Cond.methodLink own idx y ∈ lw_all) (h2 : Cond.instanceMethod y ∈ lw_all) (h3 : Cond.selects C y y ∈ lw_all) (h4 : Cond.initialized C ∈ lw_all) (h5 : Cond.code y b L r ∈ lw_all) : GoodIn lw_all (wsV own idx C y (ws_ y b L r)) := by
  refine lw_app ?_ (lw_meth h5)
  intro w hw
  simp only [List.mem_cons, List.not_mem_nil, or_false] at hw
  rcases hw with e | e | e | e
  · rw [e]; exact h1
  · rw [e]; exact h2
  · rw [e]; exact h3
  · rw [e]; exact h4
/-- what a static call asks: va_cwS n hts (lw_S ..) -/
theorem lw_S {own : String} {idx : Nat} {y : MethodName} {b : ByteArray} {L : Nat} {r : Option FieldType} (h1 : Cond.methodLink own idx y ∈ lw_all) (h2 : Cond.static y ∈ lw_all) (h3 : Cond.initialized y.cls ∈ lw_all) (h4 : Cond.code y b L r ∈ lw_all) : GoodIn lw_all (va_wsS own idx y (ws_ y b L r)) := by
  refine lw_app ?_ (lw_meth h4)
  intro w hw
  simp only [List.mem_cons, List.not_mem_nil, or_false] at hw
  rcases hw with e | e | e
  · rw [e]; exact h1
  · rw [e]; exact h2
  · rw [e]; exact h3
/-- the words of a contract for a method WITH HANDLERS (hh: its table) -/
abbrev wsW_ (y : MethodName) (b : ByteArray) (L : Nat) (r : Option FieldType) (hh : List (Nat × Nat × Nat × Nat)) : List Cond := Cond.codeWith y b L r hh :: lw_all
theorem lw_methW {y : MethodName} {b : ByteArray} {L : Nat} {r : Option FieldType} {hh : List (Nat × Nat × Nat × Nat)} (h : Cond.codeWith y b L r hh ∈ lw_all) : GoodIn lw_all (wsW_ y b L r hh) := by
  intro w hw
  rcases List.mem_cons.mp hw with e | e
  · rw [e]
    exact lw_self _ h
  · exact lw_self _ e
/-- any list of words by their places (lw_in), good -/
theorem lw_good {ws : List Cond} (h : ∀ w ∈ ws, w ∈ lw_all) : GoodIn lw_all ws := fun w hw => lw_self w (h w hw)
/-- what a call of a method with handlers asks: vx_cwVW n hts (lw_VW ..), vx_cwSW n hts (lw_SW ..) -/
theorem lw_VW {own : String} {idx : Nat} {C : String} {y : MethodName} {b : ByteArray} {L : Nat} {r : Option FieldType} {hh : List (Nat × Nat × Nat × Nat)} (h1 : Cond.methodLink own idx y ∈ lw_all) (h2 : Cond.instanceMethod y ∈ lw_all) (h3 : Cond.selects C y y ∈ lw_all) (h4 : Cond.initialized C ∈ lw_all) (h5 : Cond.codeWith y b L r hh ∈ lw_all) : GoodIn lw_all (wsV own idx C y (wsW_ y b L r hh)) := by
  refine lw_app ?_ (lw_methW h5)
  intro w hw
  simp only [List.mem_cons, List.not_mem_nil, or_false] at hw
  rcases hw with e | e | e | e
  · rw [e]; exact h1
  · rw [e]; exact h2
  · rw [e]; exact h3
  · rw [e]; exact h4
theorem lw_SW {own : String} {idx : Nat} {y : MethodName} {b : ByteArray} {L : Nat} {r : Option FieldType} {hh : List (Nat × Nat × Nat × Nat)} (h1 : Cond.methodLink own idx y ∈ lw_all) (h2 : Cond.static y ∈ lw_all) (h3 : Cond.initialized y.cls ∈ lw_all) (h4 : Cond.codeWith y b L r hh ∈ lw_all) : GoodIn lw_all (va_wsS own idx y (wsW_ y b L r hh)) := by
  refine lw_app ?_ (lw_methW h4)
  intro w hw
  simp only [List.mem_cons, List.not_mem_nil, or_false] at hw
  rcases hw with e | e | e
  · rw [e]; exact h1
  · rw [e]; exact h2
  · rw [e]; exact h3
/-- a word by its place in its run of the tables -/
theorem lw_at {r : List Cond} (hr : ∀ w ∈ r, w ∈ lw_tbl) {w : Cond} (i : Nat) (h : r[i]? = some w) : w ∈ lw_tbl := hr w (List.mem_of_getElem? h)
theorem lw_g {w : Cond} (h : w ∈ lw_tbl) (g : goodWord w = true) : w ∈ lw_all := List.mem_filter.mpr ⟨h, g⟩
theorem lw_ms : ∀ w ∈ k2_sels lw_privs, w ∈ lw_tbl := fun w h => show w ∈ k2_sels lw_privs ++ tables_1 from List.mem_append_left _ h
theorem lw_m0 : ∀ w ∈ tables_1, w ∈ lw_tbl := fun w h => show w ∈ k2_sels lw_privs ++ tables_1 from List.mem_append_right (k2_sels lw_privs) h
theorem qs0 : (Cond.selects "BarValueDesk" ⟨"BarValueDesk", "widest", "()I"⟩ ⟨"BarValueDesk", "widest", "()I"⟩) ∈ lw_all := lw_g (lw_at lw_ms 0 rfl) rfl
theorem qs1 : (Cond.selects "BarValueDesk" ⟨"BarValueDesk", "sum", "()I"⟩ ⟨"BarValueDesk", "sum", "()I"⟩) ∈ lw_all := lw_g (lw_at lw_ms 1 rfl) rfl
theorem qs2 : (Cond.selects "BarValueDesk" ⟨"BarValueDesk", "narrow", "()Z"⟩ ⟨"BarValueDesk", "narrow", "()Z"⟩) ∈ lw_all := lw_g (lw_at lw_ms 2 rfl) rfl
theorem qs3 : (Cond.selects "BarValueDeskModel" ⟨"BarValueDeskModel", "most", "(I)I"⟩ ⟨"BarValueDeskModel", "most", "(I)I"⟩) ∈ lw_all := lw_g (lw_at lw_ms 3 rfl) rfl
theorem qs4 : (Cond.selects "BarValueDeskModel" ⟨"BarValueDeskModel", "sum", "()I"⟩ ⟨"BarValueDeskModel", "sum", "()I"⟩) ∈ lw_all := lw_g (lw_at lw_ms 4 rfl) rfl
theorem qs5 : (Cond.selects "BarValueDeskModel" ⟨"BarValueDeskModel", "ahead", "(IZ)I"⟩ ⟨"BarValueDeskModel", "ahead", "(IZ)I"⟩) ∈ lw_all := lw_g (lw_at lw_ms 5 rfl) rfl
end
section
/-! DECODE ROWS BY BYTES: one lemma an opcode; a method's code is cut into short pieces once, and a row reads its own piece alone. -/
set_option maxRecDepth 100000
/-- the code has just these bytes from pc on -/
def DkAt (code : ByteArray) (pc : Nat) (bs : List UInt8) : Prop := ∀ (j : Nat) (b : UInt8), bs[j]? = some b → code.data.toList[pc + j]? = some b
/-- the piece W has the bytes bs from its place j on -/
def dkIn (W : List UInt8) (j : Nat) (bs : List UInt8) : Bool := decide ((W.drop j).take bs.length = bs)
theorem dk_seg {l W T : List UInt8} {o o2 : Nat} (h : l.drop o = W ++ T) (n : Nat) (hn : W.length = n) (ho : o + n = o2) : l.drop o2 = T := by
  subst ho
  rw [← List.drop_drop, h, List.drop_left' hn]
theorem dk_at {code : ByteArray} {W T bs : List UInt8} {o pc : Nat} (h : code.data.toList.drop o = W ++ T) (j : Nat) (hp : o + j = pc) (hw : dkIn W j bs = true) : DkAt code pc bs := by
  subst hp
  intro i b e
  have h1 := of_decide_eq_true hw
  have h2 : i < bs.length := (List.getElem?_eq_some_iff.mp e).1
  have h3 : W[j + i]? = some b := by
    rw [← h1, List.getElem?_take, if_pos h2, List.getElem?_drop] at e
    exact e
  have h4 : j + i < W.length := (List.getElem?_eq_some_iff.mp h3).1
  have h5 : (code.data.toList.drop o)[j + i]? = some b := by
    rw [h, List.getElem?_append_left h4]
    exact h3
  rw [List.getElem?_drop, ← Nat.add_assoc] at h5
  exact h5
theorem dk_u1 {A : ByteArray} {p : Nat} {b : UInt8} (h : A.data.toList[p]? = some b) : (Reader.u1 : Reader DecodeError Nat) A p = .ok (b.toNat, p + 1) := by
  obtain ⟨h1, h2⟩ := List.getElem?_eq_some_iff.mp h
  have h3 : p < A.size := by simpa using h1
  have h4 : A[p]'h3 = b := h2
  have e : (Reader.u1 : Reader DecodeError Nat) A p = (if h : p < A.size then .ok (A[p].toNat, p + 1) else .error (HasTruncated.truncated p)) := by
    show (do if h : p < A.size then do set (p + 1); Pure.pure A[p].toNat else MonadExcept.throw (HasTruncated.truncated p) : Reader DecodeError Nat) A p = _
    by_cases hi : p < A.size
    · rw [dif_pos hi, dif_pos hi]; rfl
    · rw [dif_neg hi, dif_neg hi]; rfl
  rw [e, dif_pos h3, h4]
theorem dk_bind {α β : Type} {r : Reader DecodeError α} {f : α → Reader DecodeError β} {A : ByteArray} {p s : Nat} {a : α} (h : r A p = .ok (a, s)) : (r >>= f) A p = f a A s := by
  show (do let (a, s) ← r A p; f a A s : Except DecodeError (β × Nat)) = _
  rw [h]
  rfl
theorem dk_map {α β : Type} {r : Reader DecodeError α} {g : α → β} {A : ByteArray} {p s : Nat} {a : α} (h : r A p = .ok (a, s)) : (g <$> r) A p = .ok (g a, s) := by
  show (do let (a, s) ← r A p; .ok (g a, s) : Except DecodeError (β × Nat)) = _
  rw [h]
  rfl
theorem dk_u2 {A : ByteArray} {p : Nat} {a b : UInt8} (h : A.data.toList[p]? = some a) (h2 : A.data.toList[p + 1]? = some b) : (Reader.u2 : Reader DecodeError Nat) A p = .ok (a.toNat * 256 + b.toNat, p + 2) := by
  show (Reader.u1 >>= fun hi => Reader.u1 >>= fun lo => Pure.pure (hi * 256 + lo) : Reader DecodeError Nat) A p = _
  rw [dk_bind (dk_u1 h), dk_bind (dk_u1 h2)]
  rfl
theorem dk_of {code : ByteArray} {pc n : Nat} {i : Instr} (h : Decoder.instr pc code pc = .ok (i, pc + n)) : decode code pc = .ok (i, n) := by
  have e : decode code pc = (match Decoder.instr pc code pc with | .error x => .error x | .ok (j, s) => .ok (j, s - pc)) := by
    show (do let (j, s) ← Decoder.instr pc code pc; Pure.pure (j, s - pc) : Except DecodeError (Instr × Nat)) = _
    cases Decoder.instr pc code pc <;> rfl
  rw [e, h]
  show Except.ok (i, pc + n - pc) = _
  rw [Nat.add_sub_cancel_left]
theorem dk_2 {code : ByteArray} {pc : Nat} (h : DkAt code pc [2]) : decode code pc = .ok (.iconst (-1), 1) := dk_of ((dk_bind (dk_u1 (h 0 _ rfl))).trans rfl)
theorem dk_3 {code : ByteArray} {pc : Nat} (h : DkAt code pc [3]) : decode code pc = .ok (.iconst 0, 1) := dk_of ((dk_bind (dk_u1 (h 0 _ rfl))).trans rfl)
theorem dk_4 {code : ByteArray} {pc : Nat} (h : DkAt code pc [4]) : decode code pc = .ok (.iconst 1, 1) := dk_of ((dk_bind (dk_u1 (h 0 _ rfl))).trans rfl)
theorem dk_5 {code : ByteArray} {pc : Nat} (h : DkAt code pc [5]) : decode code pc = .ok (.iconst 2, 1) := dk_of ((dk_bind (dk_u1 (h 0 _ rfl))).trans rfl)
theorem dk_6 {code : ByteArray} {pc : Nat} (h : DkAt code pc [6]) : decode code pc = .ok (.iconst 3, 1) := dk_of ((dk_bind (dk_u1 (h 0 _ rfl))).trans rfl)
theorem dk_7 {code : ByteArray} {pc : Nat} (h : DkAt code pc [7]) : decode code pc = .ok (.iconst 4, 1) := dk_of ((dk_bind (dk_u1 (h 0 _ rfl))).trans rfl)
theorem dk_16 {code : ByteArray} {pc : Nat} (a : UInt8) (h : DkAt code pc [16, a]) : decode code pc = .ok (.bipush (Reader.signed 8 a.toNat), 2) := dk_of ((dk_bind (dk_u1 (h 0 _ rfl))).trans ((dk_bind (dk_map (dk_u1 (h 1 _ rfl)))).trans rfl))
theorem dk_18 {code : ByteArray} {pc : Nat} (a : UInt8) (h : DkAt code pc [18, a]) : decode code pc = .ok (.ldc a.toNat, 2) := dk_of ((dk_bind (dk_u1 (h 0 _ rfl))).trans ((dk_bind (dk_u1 (h 1 _ rfl))).trans rfl))
theorem dk_21 {code : ByteArray} {pc : Nat} (a : UInt8) (h : DkAt code pc [21, a]) : decode code pc = .ok (.iload a.toNat, 2) := dk_of ((dk_bind (dk_u1 (h 0 _ rfl))).trans ((dk_bind (dk_u1 (h 1 _ rfl))).trans rfl))
theorem dk_25 {code : ByteArray} {pc : Nat} (a : UInt8) (h : DkAt code pc [25, a]) : decode code pc = .ok (.aload a.toNat, 2) := dk_of ((dk_bind (dk_u1 (h 0 _ rfl))).trans ((dk_bind (dk_u1 (h 1 _ rfl))).trans rfl))
theorem dk_26 {code : ByteArray} {pc : Nat} (h : DkAt code pc [26]) : decode code pc = .ok (.iload_n 0, 1) := dk_of ((dk_bind (dk_u1 (h 0 _ rfl))).trans rfl)
theorem dk_27 {code : ByteArray} {pc : Nat} (h : DkAt code pc [27]) : decode code pc = .ok (.iload_n 1, 1) := dk_of ((dk_bind (dk_u1 (h 0 _ rfl))).trans rfl)
theorem dk_28 {code : ByteArray} {pc : Nat} (h : DkAt code pc [28]) : decode code pc = .ok (.iload_n 2, 1) := dk_of ((dk_bind (dk_u1 (h 0 _ rfl))).trans rfl)
theorem dk_29 {code : ByteArray} {pc : Nat} (h : DkAt code pc [29]) : decode code pc = .ok (.iload_n 3, 1) := dk_of ((dk_bind (dk_u1 (h 0 _ rfl))).trans rfl)
theorem dk_42 {code : ByteArray} {pc : Nat} (h : DkAt code pc [42]) : decode code pc = .ok (.aload_n 0, 1) := dk_of ((dk_bind (dk_u1 (h 0 _ rfl))).trans rfl)
theorem dk_43 {code : ByteArray} {pc : Nat} (h : DkAt code pc [43]) : decode code pc = .ok (.aload_n 1, 1) := dk_of ((dk_bind (dk_u1 (h 0 _ rfl))).trans rfl)
theorem dk_44 {code : ByteArray} {pc : Nat} (h : DkAt code pc [44]) : decode code pc = .ok (.aload_n 2, 1) := dk_of ((dk_bind (dk_u1 (h 0 _ rfl))).trans rfl)
theorem dk_45 {code : ByteArray} {pc : Nat} (h : DkAt code pc [45]) : decode code pc = .ok (.aload_n 3, 1) := dk_of ((dk_bind (dk_u1 (h 0 _ rfl))).trans rfl)
theorem dk_46 {code : ByteArray} {pc : Nat} (h : DkAt code pc [46]) : decode code pc = .ok (.iaload, 1) := dk_of ((dk_bind (dk_u1 (h 0 _ rfl))).trans rfl)
theorem dk_54 {code : ByteArray} {pc : Nat} (a : UInt8) (h : DkAt code pc [54, a]) : decode code pc = .ok (.istore a.toNat, 2) := dk_of ((dk_bind (dk_u1 (h 0 _ rfl))).trans ((dk_bind (dk_u1 (h 1 _ rfl))).trans rfl))
theorem dk_58 {code : ByteArray} {pc : Nat} (a : UInt8) (h : DkAt code pc [58, a]) : decode code pc = .ok (.astore a.toNat, 2) := dk_of ((dk_bind (dk_u1 (h 0 _ rfl))).trans ((dk_bind (dk_u1 (h 1 _ rfl))).trans rfl))
theorem dk_60 {code : ByteArray} {pc : Nat} (h : DkAt code pc [60]) : decode code pc = .ok (.istore_n 1, 1) := dk_of ((dk_bind (dk_u1 (h 0 _ rfl))).trans rfl)
theorem dk_61 {code : ByteArray} {pc : Nat} (h : DkAt code pc [61]) : decode code pc = .ok (.istore_n 2, 1) := dk_of ((dk_bind (dk_u1 (h 0 _ rfl))).trans rfl)
theorem dk_62 {code : ByteArray} {pc : Nat} (h : DkAt code pc [62]) : decode code pc = .ok (.istore_n 3, 1) := dk_of ((dk_bind (dk_u1 (h 0 _ rfl))).trans rfl)
theorem dk_76 {code : ByteArray} {pc : Nat} (h : DkAt code pc [76]) : decode code pc = .ok (.astore_n 1, 1) := dk_of ((dk_bind (dk_u1 (h 0 _ rfl))).trans rfl)
theorem dk_77 {code : ByteArray} {pc : Nat} (h : DkAt code pc [77]) : decode code pc = .ok (.astore_n 2, 1) := dk_of ((dk_bind (dk_u1 (h 0 _ rfl))).trans rfl)
theorem dk_78 {code : ByteArray} {pc : Nat} (h : DkAt code pc [78]) : decode code pc = .ok (.astore_n 3, 1) := dk_of ((dk_bind (dk_u1 (h 0 _ rfl))).trans rfl)
theorem dk_79 {code : ByteArray} {pc : Nat} (h : DkAt code pc [79]) : decode code pc = .ok (.iastore, 1) := dk_of ((dk_bind (dk_u1 (h 0 _ rfl))).trans rfl)
theorem dk_89 {code : ByteArray} {pc : Nat} (h : DkAt code pc [89]) : decode code pc = .ok (.dup, 1) := dk_of ((dk_bind (dk_u1 (h 0 _ rfl))).trans rfl)
theorem dk_96 {code : ByteArray} {pc : Nat} (h : DkAt code pc [96]) : decode code pc = .ok (.iadd, 1) := dk_of ((dk_bind (dk_u1 (h 0 _ rfl))).trans rfl)
theorem dk_100 {code : ByteArray} {pc : Nat} (h : DkAt code pc [100]) : decode code pc = .ok (.isub, 1) := dk_of ((dk_bind (dk_u1 (h 0 _ rfl))).trans rfl)
theorem dk_104 {code : ByteArray} {pc : Nat} (h : DkAt code pc [104]) : decode code pc = .ok (.imul, 1) := dk_of ((dk_bind (dk_u1 (h 0 _ rfl))).trans rfl)
theorem dk_108 {code : ByteArray} {pc : Nat} (h : DkAt code pc [108]) : decode code pc = .ok (.idiv, 1) := dk_of ((dk_bind (dk_u1 (h 0 _ rfl))).trans rfl)
theorem dk_112 {code : ByteArray} {pc : Nat} (h : DkAt code pc [112]) : decode code pc = .ok (.irem, 1) := dk_of ((dk_bind (dk_u1 (h 0 _ rfl))).trans rfl)
theorem dk_120 {code : ByteArray} {pc : Nat} (h : DkAt code pc [120]) : decode code pc = .ok (.ishl, 1) := dk_of ((dk_bind (dk_u1 (h 0 _ rfl))).trans rfl)
theorem dk_126 {code : ByteArray} {pc : Nat} (h : DkAt code pc [126]) : decode code pc = .ok (.iand, 1) := dk_of ((dk_bind (dk_u1 (h 0 _ rfl))).trans rfl)
theorem dk_128 {code : ByteArray} {pc : Nat} (h : DkAt code pc [128]) : decode code pc = .ok (.ior, 1) := dk_of ((dk_bind (dk_u1 (h 0 _ rfl))).trans rfl)
theorem dk_130 {code : ByteArray} {pc : Nat} (h : DkAt code pc [130]) : decode code pc = .ok (.ixor, 1) := dk_of ((dk_bind (dk_u1 (h 0 _ rfl))).trans rfl)
theorem dk_132 {code : ByteArray} {pc : Nat} (a b : UInt8) (h : DkAt code pc [132, a, b]) : decode code pc = .ok (.iinc a.toNat (Reader.signed 8 b.toNat), 3) := dk_of ((dk_bind (dk_u1 (h 0 _ rfl))).trans ((dk_bind (dk_u1 (h 1 _ rfl))).trans ((dk_bind (dk_map (dk_u1 (h 2 _ rfl)))).trans rfl)))
theorem dk_153 {code : ByteArray} {pc : Nat} (a b : UInt8) (h : DkAt code pc [153, a, b]) : decode code pc = .ok (.ifCond .eq (Reader.signed 16 (a.toNat * 256 + b.toNat)), 3) := dk_of ((dk_bind (dk_u1 (h 0 _ rfl))).trans ((dk_bind (dk_map (dk_u2 (h 1 _ rfl) (h 2 _ rfl)))).trans rfl))
theorem dk_154 {code : ByteArray} {pc : Nat} (a b : UInt8) (h : DkAt code pc [154, a, b]) : decode code pc = .ok (.ifCond .ne (Reader.signed 16 (a.toNat * 256 + b.toNat)), 3) := dk_of ((dk_bind (dk_u1 (h 0 _ rfl))).trans ((dk_bind (dk_map (dk_u2 (h 1 _ rfl) (h 2 _ rfl)))).trans rfl))
theorem dk_159 {code : ByteArray} {pc : Nat} (a b : UInt8) (h : DkAt code pc [159, a, b]) : decode code pc = .ok (.if_icmp .eq (Reader.signed 16 (a.toNat * 256 + b.toNat)), 3) := dk_of ((dk_bind (dk_u1 (h 0 _ rfl))).trans ((dk_bind (dk_map (dk_u2 (h 1 _ rfl) (h 2 _ rfl)))).trans rfl))
theorem dk_160 {code : ByteArray} {pc : Nat} (a b : UInt8) (h : DkAt code pc [160, a, b]) : decode code pc = .ok (.if_icmp .ne (Reader.signed 16 (a.toNat * 256 + b.toNat)), 3) := dk_of ((dk_bind (dk_u1 (h 0 _ rfl))).trans ((dk_bind (dk_map (dk_u2 (h 1 _ rfl) (h 2 _ rfl)))).trans rfl))
theorem dk_161 {code : ByteArray} {pc : Nat} (a b : UInt8) (h : DkAt code pc [161, a, b]) : decode code pc = .ok (.if_icmp .lt (Reader.signed 16 (a.toNat * 256 + b.toNat)), 3) := dk_of ((dk_bind (dk_u1 (h 0 _ rfl))).trans ((dk_bind (dk_map (dk_u2 (h 1 _ rfl) (h 2 _ rfl)))).trans rfl))
theorem dk_162 {code : ByteArray} {pc : Nat} (a b : UInt8) (h : DkAt code pc [162, a, b]) : decode code pc = .ok (.if_icmp .ge (Reader.signed 16 (a.toNat * 256 + b.toNat)), 3) := dk_of ((dk_bind (dk_u1 (h 0 _ rfl))).trans ((dk_bind (dk_map (dk_u2 (h 1 _ rfl) (h 2 _ rfl)))).trans rfl))
theorem dk_163 {code : ByteArray} {pc : Nat} (a b : UInt8) (h : DkAt code pc [163, a, b]) : decode code pc = .ok (.if_icmp .gt (Reader.signed 16 (a.toNat * 256 + b.toNat)), 3) := dk_of ((dk_bind (dk_u1 (h 0 _ rfl))).trans ((dk_bind (dk_map (dk_u2 (h 1 _ rfl) (h 2 _ rfl)))).trans rfl))
theorem dk_164 {code : ByteArray} {pc : Nat} (a b : UInt8) (h : DkAt code pc [164, a, b]) : decode code pc = .ok (.if_icmp .le (Reader.signed 16 (a.toNat * 256 + b.toNat)), 3) := dk_of ((dk_bind (dk_u1 (h 0 _ rfl))).trans ((dk_bind (dk_map (dk_u2 (h 1 _ rfl) (h 2 _ rfl)))).trans rfl))
theorem dk_167 {code : ByteArray} {pc : Nat} (a b : UInt8) (h : DkAt code pc [167, a, b]) : decode code pc = .ok (.goto (Reader.signed 16 (a.toNat * 256 + b.toNat)), 3) := dk_of ((dk_bind (dk_u1 (h 0 _ rfl))).trans ((dk_bind (dk_map (dk_u2 (h 1 _ rfl) (h 2 _ rfl)))).trans rfl))
theorem dk_172 {code : ByteArray} {pc : Nat} (h : DkAt code pc [172]) : decode code pc = .ok (.ireturn, 1) := dk_of ((dk_bind (dk_u1 (h 0 _ rfl))).trans rfl)
theorem dk_177 {code : ByteArray} {pc : Nat} (h : DkAt code pc [177]) : decode code pc = .ok (.return_, 1) := dk_of ((dk_bind (dk_u1 (h 0 _ rfl))).trans rfl)
theorem dk_180 {code : ByteArray} {pc : Nat} (a b : UInt8) (h : DkAt code pc [180, a, b]) : decode code pc = .ok (.getfield (a.toNat * 256 + b.toNat), 3) := dk_of ((dk_bind (dk_u1 (h 0 _ rfl))).trans ((dk_bind (dk_u2 (h 1 _ rfl) (h 2 _ rfl))).trans rfl))
theorem dk_181 {code : ByteArray} {pc : Nat} (a b : UInt8) (h : DkAt code pc [181, a, b]) : decode code pc = .ok (.putfield (a.toNat * 256 + b.toNat), 3) := dk_of ((dk_bind (dk_u1 (h 0 _ rfl))).trans ((dk_bind (dk_u2 (h 1 _ rfl) (h 2 _ rfl))).trans rfl))
theorem dk_182 {code : ByteArray} {pc : Nat} (a b : UInt8) (h : DkAt code pc [182, a, b]) : decode code pc = .ok (.invokevirtual (a.toNat * 256 + b.toNat), 3) := dk_of ((dk_bind (dk_u1 (h 0 _ rfl))).trans ((dk_bind (dk_u2 (h 1 _ rfl) (h 2 _ rfl))).trans rfl))
theorem dk_183 {code : ByteArray} {pc : Nat} (a b : UInt8) (h : DkAt code pc [183, a, b]) : decode code pc = .ok (.invokespecial (a.toNat * 256 + b.toNat), 3) := dk_of ((dk_bind (dk_u1 (h 0 _ rfl))).trans ((dk_bind (dk_u2 (h 1 _ rfl) (h 2 _ rfl))).trans rfl))
theorem dk_184 {code : ByteArray} {pc : Nat} (a b : UInt8) (h : DkAt code pc [184, a, b]) : decode code pc = .ok (.invokestatic (a.toNat * 256 + b.toNat), 3) := dk_of ((dk_bind (dk_u1 (h 0 _ rfl))).trans ((dk_bind (dk_u2 (h 1 _ rfl) (h 2 _ rfl))).trans rfl))
theorem dk_187 {code : ByteArray} {pc : Nat} (a b : UInt8) (h : DkAt code pc [187, a, b]) : decode code pc = .ok (.new (a.toNat * 256 + b.toNat), 3) := dk_of ((dk_bind (dk_u1 (h 0 _ rfl))).trans ((dk_bind (dk_u2 (h 1 _ rfl) (h 2 _ rfl))).trans rfl))
theorem dk_188_10 {code : ByteArray} {pc : Nat} (h : DkAt code pc [188, 10]) : decode code pc = .ok (.newarray .int, 2) := dk_of ((dk_bind (dk_u1 (h 0 _ rfl))).trans ((dk_bind (dk_u1 (h 1 _ rfl))).trans rfl))
theorem dk_190 {code : ByteArray} {pc : Nat} (h : DkAt code pc [190]) : decode code pc = .ok (.arraylength, 1) := dk_of ((dk_bind (dk_u1 (h 0 _ rfl))).trans rfl)

/-! java/lang/Object -/
set_option maxRecDepth 100000
def RJ0 : String := "java/lang/Object"
abbrev cJ0_init : ByteArray := object_method_1_code
def yJ0_init : MethodName := ⟨RJ0, "<init>", "()V"⟩
theorem dJ0_init_0 : decode cJ0_init 0 = .ok (.return_, 1) := by decide +kernel
theorem q16 : (Jvm.Cond.instanceMethod ({ cls := "java/lang/Object", name := "<init>", desc := "()V" } : Jvm.MethodName)) ∈ lw_all := lw_g (lw_at lw_m0 10 rfl) rfl
theorem q17 : (Jvm.Cond.code ({ cls := "java/lang/Object", name := "<init>", desc := "()V" } : Jvm.MethodName) object_method_1_code (1 : Nat) (Option.none : Option Jvm.ClassFile.FieldType)) ∈ lw_all := lw_g (lw_at lw_m0 11 rfl) rfl

/-! RSSUtils -/
set_option maxRecDepth 100000
def RX2 : String := "RSSUtils"
abbrev cX2_getRSSvalue : ByteArray := prog_4_method_1_code
def yX2_getRSSvalue : MethodName := ⟨RX2, "getRSSvalue", "([IIZ)I"⟩
def dkwX2_getRSSvalue_12 : List UInt8 := [172]
abbrev dktX2_getRSSvalue_12 : List UInt8 := dkwX2_getRSSvalue_12 ++ []
def dkwX2_getRSSvalue_11 : List UInt8 := [21, 7, 120, 2, 130, 126, 54, 5, 167, 255, 59, 29, 21, 8, 100, 62, 132, 7, 1, 167, 255, 27, 21, 4]
abbrev dktX2_getRSSvalue_11 : List UInt8 := dkwX2_getRSSvalue_11 ++ dktX2_getRSSvalue_12
def dkwX2_getRSSvalue_10 : List UInt8 := [29, 21, 8, 100, 27, 164, 0, 6, 132, 9, 255, 21, 4, 21, 9, 96, 54, 4, 132, 8, 1, 21, 5, 4]
abbrev dktX2_getRSSvalue_10 : List UInt8 := dkwX2_getRSSvalue_10 ++ dktX2_getRSSvalue_11
def dkwX2_getRSSvalue_9 : List UInt8 := [132, 11, 255, 167, 255, 223, 21, 9, 21, 10, 21, 6, 4, 100, 21, 7, 100, 104, 100, 54, 9, 167, 0, 14]
abbrev dktX2_getRSSvalue_9 : List UInt8 := dkwX2_getRSSvalue_9 ++ dktX2_getRSSvalue_10
def dkwX2_getRSSvalue_8 : List UInt8 := [21, 10, 29, 21, 8, 100, 21, 11, 100, 4, 100, 21, 6, 21, 7, 100, 6, 100, 184, 0, 1, 96, 54, 10]
abbrev dktX2_getRSSvalue_8 : List UInt8 := dkwX2_getRSSvalue_8 ++ dktX2_getRSSvalue_9
def dkwX2_getRSSvalue_7 : List UInt8 := [3, 54, 10, 29, 21, 8, 100, 21, 6, 21, 7, 100, 5, 100, 100, 54, 11, 21, 11, 27, 164, 0, 33]
abbrev dktX2_getRSSvalue_7 : List UInt8 := dkwX2_getRSSvalue_7 ++ dktX2_getRSSvalue_8
def dkwX2_getRSSvalue_6 : List UInt8 := [21, 6, 21, 7, 100, 5, 100, 184, 0, 1, 100, 54, 9, 21, 6, 21, 7, 100, 4, 100, 4, 164, 0, 74]
abbrev dktX2_getRSSvalue_6 : List UInt8 := dkwX2_getRSSvalue_6 ++ dktX2_getRSSvalue_7
def dkwX2_getRSSvalue_5 : List UInt8 := [100, 100, 21, 6, 21, 7, 100, 4, 100, 161, 0, 28, 21, 9, 29, 21, 8, 100, 21, 6, 21, 7, 100, 100]
abbrev dktX2_getRSSvalue_5 : List UInt8 := dkwX2_getRSSvalue_5 ++ dktX2_getRSSvalue_6
def dkwX2_getRSSvalue_4 : List UInt8 := [184, 0, 1, 54, 9, 28, 153, 0, 55, 21, 5, 154, 0, 50, 29, 21, 8, 100, 21, 6, 21, 7, 100, 4]
abbrev dktX2_getRSSvalue_4 : List UInt8 := dkwX2_getRSSvalue_4 ++ dktX2_getRSSvalue_5
def dkwX2_getRSSvalue_3 : List UInt8 := [21, 8, 42, 21, 7, 46, 162, 0, 194, 29, 21, 8, 100, 4, 100, 21, 6, 21, 7, 100, 5, 100]
abbrev dktX2_getRSSvalue_3 : List UInt8 := dkwX2_getRSSvalue_3 ++ dktX2_getRSSvalue_4
def dkwX2_getRSSvalue_2 : List UInt8 := [3, 54, 7, 21, 7, 21, 6, 4, 100, 162, 0, 226, 4, 54, 8, 21, 5, 4, 21, 7, 120, 128, 54, 5]
abbrev dktX2_getRSSvalue_2 : List UInt8 := dkwX2_getRSSvalue_2 ++ dktX2_getRSSvalue_3
def dkwX2_getRSSvalue_1 : List UInt8 := [46, 54, 7, 29, 21, 7, 96, 62, 132, 6, 1, 167, 255, 234, 3, 54, 4, 3, 54, 5, 42, 190, 54, 6]
abbrev dktX2_getRSSvalue_1 : List UInt8 := dkwX2_getRSSvalue_1 ++ dktX2_getRSSvalue_2
def dkwX2_getRSSvalue_0 : List UInt8 := [3, 62, 42, 58, 4, 25, 4, 190, 54, 5, 3, 54, 6, 21, 6, 21, 5, 162, 0, 21, 25, 4, 21, 6]
abbrev dktX2_getRSSvalue_0 : List UInt8 := dkwX2_getRSSvalue_0 ++ dktX2_getRSSvalue_1
theorem dksX2_getRSSvalue_0 : cX2_getRSSvalue.data.toList.drop 0 = dktX2_getRSSvalue_0 := by decide +kernel
theorem dksX2_getRSSvalue_1 : cX2_getRSSvalue.data.toList.drop 24 = dktX2_getRSSvalue_1 := dk_seg dksX2_getRSSvalue_0 24 rfl rfl
theorem dksX2_getRSSvalue_2 : cX2_getRSSvalue.data.toList.drop 48 = dktX2_getRSSvalue_2 := dk_seg dksX2_getRSSvalue_1 24 rfl rfl
theorem dksX2_getRSSvalue_3 : cX2_getRSSvalue.data.toList.drop 72 = dktX2_getRSSvalue_3 := dk_seg dksX2_getRSSvalue_2 24 rfl rfl
theorem dksX2_getRSSvalue_4 : cX2_getRSSvalue.data.toList.drop 94 = dktX2_getRSSvalue_4 := dk_seg dksX2_getRSSvalue_3 22 rfl rfl
theorem dksX2_getRSSvalue_5 : cX2_getRSSvalue.data.toList.drop 118 = dktX2_getRSSvalue_5 := dk_seg dksX2_getRSSvalue_4 24 rfl rfl
theorem dksX2_getRSSvalue_6 : cX2_getRSSvalue.data.toList.drop 142 = dktX2_getRSSvalue_6 := dk_seg dksX2_getRSSvalue_5 24 rfl rfl
theorem dksX2_getRSSvalue_7 : cX2_getRSSvalue.data.toList.drop 166 = dktX2_getRSSvalue_7 := dk_seg dksX2_getRSSvalue_6 24 rfl rfl
theorem dksX2_getRSSvalue_8 : cX2_getRSSvalue.data.toList.drop 189 = dktX2_getRSSvalue_8 := dk_seg dksX2_getRSSvalue_7 23 rfl rfl
theorem dksX2_getRSSvalue_9 : cX2_getRSSvalue.data.toList.drop 213 = dktX2_getRSSvalue_9 := dk_seg dksX2_getRSSvalue_8 24 rfl rfl
theorem dksX2_getRSSvalue_10 : cX2_getRSSvalue.data.toList.drop 237 = dktX2_getRSSvalue_10 := dk_seg dksX2_getRSSvalue_9 24 rfl rfl
theorem dksX2_getRSSvalue_11 : cX2_getRSSvalue.data.toList.drop 261 = dktX2_getRSSvalue_11 := dk_seg dksX2_getRSSvalue_10 24 rfl rfl
theorem dksX2_getRSSvalue_12 : cX2_getRSSvalue.data.toList.drop 285 = dktX2_getRSSvalue_12 := dk_seg dksX2_getRSSvalue_11 24 rfl rfl
theorem dX2_getRSSvalue_0 : decode cX2_getRSSvalue 0 = .ok (.iconst 0, 1) := dk_3 (dk_at dksX2_getRSSvalue_0 0 rfl rfl)
theorem dX2_getRSSvalue_1 : decode cX2_getRSSvalue 1 = .ok (.istore_n 3, 1) := dk_62 (dk_at dksX2_getRSSvalue_0 1 rfl rfl)
theorem dX2_getRSSvalue_2 : decode cX2_getRSSvalue 2 = .ok (.aload_n 0, 1) := dk_42 (dk_at dksX2_getRSSvalue_0 2 rfl rfl)
theorem dX2_getRSSvalue_3 : decode cX2_getRSSvalue 3 = .ok (.astore 4, 2) := dk_58 4 (dk_at dksX2_getRSSvalue_0 3 rfl rfl)
theorem dX2_getRSSvalue_5 : decode cX2_getRSSvalue 5 = .ok (.aload 4, 2) := dk_25 4 (dk_at dksX2_getRSSvalue_0 5 rfl rfl)
theorem dX2_getRSSvalue_7 : decode cX2_getRSSvalue 7 = .ok (.arraylength, 1) := dk_190 (dk_at dksX2_getRSSvalue_0 7 rfl rfl)
theorem dX2_getRSSvalue_8 : decode cX2_getRSSvalue 8 = .ok (.istore 5, 2) := dk_54 5 (dk_at dksX2_getRSSvalue_0 8 rfl rfl)
theorem dX2_getRSSvalue_10 : decode cX2_getRSSvalue 10 = .ok (.iconst 0, 1) := dk_3 (dk_at dksX2_getRSSvalue_0 10 rfl rfl)
theorem dX2_getRSSvalue_11 : decode cX2_getRSSvalue 11 = .ok (.istore 6, 2) := dk_54 6 (dk_at dksX2_getRSSvalue_0 11 rfl rfl)
theorem dX2_getRSSvalue_13 : decode cX2_getRSSvalue 13 = .ok (.iload 6, 2) := dk_21 6 (dk_at dksX2_getRSSvalue_0 13 rfl rfl)
theorem dX2_getRSSvalue_15 : decode cX2_getRSSvalue 15 = .ok (.iload 5, 2) := dk_21 5 (dk_at dksX2_getRSSvalue_0 15 rfl rfl)
theorem dX2_getRSSvalue_17 : decode cX2_getRSSvalue 17 = .ok (.if_icmp .ge 21, 3) := dk_162 0 21 (dk_at dksX2_getRSSvalue_0 17 rfl rfl)
theorem dX2_getRSSvalue_20 : decode cX2_getRSSvalue 20 = .ok (.aload 4, 2) := dk_25 4 (dk_at dksX2_getRSSvalue_0 20 rfl rfl)
theorem dX2_getRSSvalue_22 : decode cX2_getRSSvalue 22 = .ok (.iload 6, 2) := dk_21 6 (dk_at dksX2_getRSSvalue_0 22 rfl rfl)
theorem dX2_getRSSvalue_24 : decode cX2_getRSSvalue 24 = .ok (.iaload, 1) := dk_46 (dk_at dksX2_getRSSvalue_1 0 rfl rfl)
theorem dX2_getRSSvalue_25 : decode cX2_getRSSvalue 25 = .ok (.istore 7, 2) := dk_54 7 (dk_at dksX2_getRSSvalue_1 1 rfl rfl)
theorem dX2_getRSSvalue_27 : decode cX2_getRSSvalue 27 = .ok (.iload_n 3, 1) := dk_29 (dk_at dksX2_getRSSvalue_1 3 rfl rfl)
theorem dX2_getRSSvalue_28 : decode cX2_getRSSvalue 28 = .ok (.iload 7, 2) := dk_21 7 (dk_at dksX2_getRSSvalue_1 4 rfl rfl)
theorem dX2_getRSSvalue_30 : decode cX2_getRSSvalue 30 = .ok (.iadd, 1) := dk_96 (dk_at dksX2_getRSSvalue_1 6 rfl rfl)
theorem dX2_getRSSvalue_31 : decode cX2_getRSSvalue 31 = .ok (.istore_n 3, 1) := dk_62 (dk_at dksX2_getRSSvalue_1 7 rfl rfl)
theorem dX2_getRSSvalue_32 : decode cX2_getRSSvalue 32 = .ok (.iinc 6 1, 3) := dk_132 6 1 (dk_at dksX2_getRSSvalue_1 8 rfl rfl)
theorem dX2_getRSSvalue_35 : decode cX2_getRSSvalue 35 = .ok (.goto (-22), 3) := dk_167 255 234 (dk_at dksX2_getRSSvalue_1 11 rfl rfl)
theorem dX2_getRSSvalue_38 : decode cX2_getRSSvalue 38 = .ok (.iconst 0, 1) := dk_3 (dk_at dksX2_getRSSvalue_1 14 rfl rfl)
theorem dX2_getRSSvalue_39 : decode cX2_getRSSvalue 39 = .ok (.istore 4, 2) := dk_54 4 (dk_at dksX2_getRSSvalue_1 15 rfl rfl)
theorem dX2_getRSSvalue_41 : decode cX2_getRSSvalue 41 = .ok (.iconst 0, 1) := dk_3 (dk_at dksX2_getRSSvalue_1 17 rfl rfl)
theorem dX2_getRSSvalue_42 : decode cX2_getRSSvalue 42 = .ok (.istore 5, 2) := dk_54 5 (dk_at dksX2_getRSSvalue_1 18 rfl rfl)
theorem dX2_getRSSvalue_44 : decode cX2_getRSSvalue 44 = .ok (.aload_n 0, 1) := dk_42 (dk_at dksX2_getRSSvalue_1 20 rfl rfl)
theorem dX2_getRSSvalue_45 : decode cX2_getRSSvalue 45 = .ok (.arraylength, 1) := dk_190 (dk_at dksX2_getRSSvalue_1 21 rfl rfl)
theorem dX2_getRSSvalue_46 : decode cX2_getRSSvalue 46 = .ok (.istore 6, 2) := dk_54 6 (dk_at dksX2_getRSSvalue_1 22 rfl rfl)
theorem dX2_getRSSvalue_48 : decode cX2_getRSSvalue 48 = .ok (.iconst 0, 1) := dk_3 (dk_at dksX2_getRSSvalue_2 0 rfl rfl)
theorem dX2_getRSSvalue_49 : decode cX2_getRSSvalue 49 = .ok (.istore 7, 2) := dk_54 7 (dk_at dksX2_getRSSvalue_2 1 rfl rfl)
theorem dX2_getRSSvalue_51 : decode cX2_getRSSvalue 51 = .ok (.iload 7, 2) := dk_21 7 (dk_at dksX2_getRSSvalue_2 3 rfl rfl)
theorem dX2_getRSSvalue_53 : decode cX2_getRSSvalue 53 = .ok (.iload 6, 2) := dk_21 6 (dk_at dksX2_getRSSvalue_2 5 rfl rfl)
theorem dX2_getRSSvalue_55 : decode cX2_getRSSvalue 55 = .ok (.iconst 1, 1) := dk_4 (dk_at dksX2_getRSSvalue_2 7 rfl rfl)
theorem dX2_getRSSvalue_56 : decode cX2_getRSSvalue 56 = .ok (.isub, 1) := dk_100 (dk_at dksX2_getRSSvalue_2 8 rfl rfl)
theorem dX2_getRSSvalue_57 : decode cX2_getRSSvalue 57 = .ok (.if_icmp .ge 226, 3) := dk_162 0 226 (dk_at dksX2_getRSSvalue_2 9 rfl rfl)
theorem dX2_getRSSvalue_60 : decode cX2_getRSSvalue 60 = .ok (.iconst 1, 1) := dk_4 (dk_at dksX2_getRSSvalue_2 12 rfl rfl)
theorem dX2_getRSSvalue_61 : decode cX2_getRSSvalue 61 = .ok (.istore 8, 2) := dk_54 8 (dk_at dksX2_getRSSvalue_2 13 rfl rfl)
theorem dX2_getRSSvalue_63 : decode cX2_getRSSvalue 63 = .ok (.iload 5, 2) := dk_21 5 (dk_at dksX2_getRSSvalue_2 15 rfl rfl)
theorem dX2_getRSSvalue_65 : decode cX2_getRSSvalue 65 = .ok (.iconst 1, 1) := dk_4 (dk_at dksX2_getRSSvalue_2 17 rfl rfl)
theorem dX2_getRSSvalue_66 : decode cX2_getRSSvalue 66 = .ok (.iload 7, 2) := dk_21 7 (dk_at dksX2_getRSSvalue_2 18 rfl rfl)
theorem dX2_getRSSvalue_68 : decode cX2_getRSSvalue 68 = .ok (.ishl, 1) := dk_120 (dk_at dksX2_getRSSvalue_2 20 rfl rfl)
theorem dX2_getRSSvalue_69 : decode cX2_getRSSvalue 69 = .ok (.ior, 1) := dk_128 (dk_at dksX2_getRSSvalue_2 21 rfl rfl)
theorem dX2_getRSSvalue_70 : decode cX2_getRSSvalue 70 = .ok (.istore 5, 2) := dk_54 5 (dk_at dksX2_getRSSvalue_2 22 rfl rfl)
theorem dX2_getRSSvalue_72 : decode cX2_getRSSvalue 72 = .ok (.iload 8, 2) := dk_21 8 (dk_at dksX2_getRSSvalue_3 0 rfl rfl)
theorem dX2_getRSSvalue_74 : decode cX2_getRSSvalue 74 = .ok (.aload_n 0, 1) := dk_42 (dk_at dksX2_getRSSvalue_3 2 rfl rfl)
theorem dX2_getRSSvalue_75 : decode cX2_getRSSvalue 75 = .ok (.iload 7, 2) := dk_21 7 (dk_at dksX2_getRSSvalue_3 3 rfl rfl)
theorem dX2_getRSSvalue_77 : decode cX2_getRSSvalue 77 = .ok (.iaload, 1) := dk_46 (dk_at dksX2_getRSSvalue_3 5 rfl rfl)
theorem dX2_getRSSvalue_78 : decode cX2_getRSSvalue 78 = .ok (.if_icmp .ge 194, 3) := dk_162 0 194 (dk_at dksX2_getRSSvalue_3 6 rfl rfl)
theorem dX2_getRSSvalue_81 : decode cX2_getRSSvalue 81 = .ok (.iload_n 3, 1) := dk_29 (dk_at dksX2_getRSSvalue_3 9 rfl rfl)
theorem dX2_getRSSvalue_82 : decode cX2_getRSSvalue 82 = .ok (.iload 8, 2) := dk_21 8 (dk_at dksX2_getRSSvalue_3 10 rfl rfl)
theorem dX2_getRSSvalue_84 : decode cX2_getRSSvalue 84 = .ok (.isub, 1) := dk_100 (dk_at dksX2_getRSSvalue_3 12 rfl rfl)
theorem dX2_getRSSvalue_85 : decode cX2_getRSSvalue 85 = .ok (.iconst 1, 1) := dk_4 (dk_at dksX2_getRSSvalue_3 13 rfl rfl)
theorem dX2_getRSSvalue_86 : decode cX2_getRSSvalue 86 = .ok (.isub, 1) := dk_100 (dk_at dksX2_getRSSvalue_3 14 rfl rfl)
theorem dX2_getRSSvalue_87 : decode cX2_getRSSvalue 87 = .ok (.iload 6, 2) := dk_21 6 (dk_at dksX2_getRSSvalue_3 15 rfl rfl)
theorem dX2_getRSSvalue_89 : decode cX2_getRSSvalue 89 = .ok (.iload 7, 2) := dk_21 7 (dk_at dksX2_getRSSvalue_3 17 rfl rfl)
theorem dX2_getRSSvalue_91 : decode cX2_getRSSvalue 91 = .ok (.isub, 1) := dk_100 (dk_at dksX2_getRSSvalue_3 19 rfl rfl)
theorem dX2_getRSSvalue_92 : decode cX2_getRSSvalue 92 = .ok (.iconst 2, 1) := dk_5 (dk_at dksX2_getRSSvalue_3 20 rfl rfl)
theorem dX2_getRSSvalue_93 : decode cX2_getRSSvalue 93 = .ok (.isub, 1) := dk_100 (dk_at dksX2_getRSSvalue_3 21 rfl rfl)
theorem dX2_getRSSvalue_94 : decode cX2_getRSSvalue 94 = .ok (.invokestatic 1, 3) := dk_184 0 1 (dk_at dksX2_getRSSvalue_4 0 rfl rfl)
theorem dX2_getRSSvalue_97 : decode cX2_getRSSvalue 97 = .ok (.istore 9, 2) := dk_54 9 (dk_at dksX2_getRSSvalue_4 3 rfl rfl)
theorem dX2_getRSSvalue_99 : decode cX2_getRSSvalue 99 = .ok (.iload_n 2, 1) := dk_28 (dk_at dksX2_getRSSvalue_4 5 rfl rfl)
theorem dX2_getRSSvalue_100 : decode cX2_getRSSvalue 100 = .ok (.ifCond .eq 55, 3) := dk_153 0 55 (dk_at dksX2_getRSSvalue_4 6 rfl rfl)
theorem dX2_getRSSvalue_103 : decode cX2_getRSSvalue 103 = .ok (.iload 5, 2) := dk_21 5 (dk_at dksX2_getRSSvalue_4 9 rfl rfl)
theorem dX2_getRSSvalue_105 : decode cX2_getRSSvalue 105 = .ok (.ifCond .ne 50, 3) := dk_154 0 50 (dk_at dksX2_getRSSvalue_4 11 rfl rfl)
theorem dX2_getRSSvalue_108 : decode cX2_getRSSvalue 108 = .ok (.iload_n 3, 1) := dk_29 (dk_at dksX2_getRSSvalue_4 14 rfl rfl)
theorem dX2_getRSSvalue_109 : decode cX2_getRSSvalue 109 = .ok (.iload 8, 2) := dk_21 8 (dk_at dksX2_getRSSvalue_4 15 rfl rfl)
theorem dX2_getRSSvalue_111 : decode cX2_getRSSvalue 111 = .ok (.isub, 1) := dk_100 (dk_at dksX2_getRSSvalue_4 17 rfl rfl)
theorem dX2_getRSSvalue_112 : decode cX2_getRSSvalue 112 = .ok (.iload 6, 2) := dk_21 6 (dk_at dksX2_getRSSvalue_4 18 rfl rfl)
theorem dX2_getRSSvalue_114 : decode cX2_getRSSvalue 114 = .ok (.iload 7, 2) := dk_21 7 (dk_at dksX2_getRSSvalue_4 20 rfl rfl)
theorem dX2_getRSSvalue_116 : decode cX2_getRSSvalue 116 = .ok (.isub, 1) := dk_100 (dk_at dksX2_getRSSvalue_4 22 rfl rfl)
theorem dX2_getRSSvalue_117 : decode cX2_getRSSvalue 117 = .ok (.iconst 1, 1) := dk_4 (dk_at dksX2_getRSSvalue_4 23 rfl rfl)
theorem dX2_getRSSvalue_118 : decode cX2_getRSSvalue 118 = .ok (.isub, 1) := dk_100 (dk_at dksX2_getRSSvalue_5 0 rfl rfl)
theorem dX2_getRSSvalue_119 : decode cX2_getRSSvalue 119 = .ok (.isub, 1) := dk_100 (dk_at dksX2_getRSSvalue_5 1 rfl rfl)
theorem dX2_getRSSvalue_120 : decode cX2_getRSSvalue 120 = .ok (.iload 6, 2) := dk_21 6 (dk_at dksX2_getRSSvalue_5 2 rfl rfl)
theorem dX2_getRSSvalue_122 : decode cX2_getRSSvalue 122 = .ok (.iload 7, 2) := dk_21 7 (dk_at dksX2_getRSSvalue_5 4 rfl rfl)
theorem dX2_getRSSvalue_124 : decode cX2_getRSSvalue 124 = .ok (.isub, 1) := dk_100 (dk_at dksX2_getRSSvalue_5 6 rfl rfl)
theorem dX2_getRSSvalue_125 : decode cX2_getRSSvalue 125 = .ok (.iconst 1, 1) := dk_4 (dk_at dksX2_getRSSvalue_5 7 rfl rfl)
theorem dX2_getRSSvalue_126 : decode cX2_getRSSvalue 126 = .ok (.isub, 1) := dk_100 (dk_at dksX2_getRSSvalue_5 8 rfl rfl)
theorem dX2_getRSSvalue_127 : decode cX2_getRSSvalue 127 = .ok (.if_icmp .lt 28, 3) := dk_161 0 28 (dk_at dksX2_getRSSvalue_5 9 rfl rfl)
theorem dX2_getRSSvalue_130 : decode cX2_getRSSvalue 130 = .ok (.iload 9, 2) := dk_21 9 (dk_at dksX2_getRSSvalue_5 12 rfl rfl)
theorem dX2_getRSSvalue_132 : decode cX2_getRSSvalue 132 = .ok (.iload_n 3, 1) := dk_29 (dk_at dksX2_getRSSvalue_5 14 rfl rfl)
theorem dX2_getRSSvalue_133 : decode cX2_getRSSvalue 133 = .ok (.iload 8, 2) := dk_21 8 (dk_at dksX2_getRSSvalue_5 15 rfl rfl)
theorem dX2_getRSSvalue_135 : decode cX2_getRSSvalue 135 = .ok (.isub, 1) := dk_100 (dk_at dksX2_getRSSvalue_5 17 rfl rfl)
theorem dX2_getRSSvalue_136 : decode cX2_getRSSvalue 136 = .ok (.iload 6, 2) := dk_21 6 (dk_at dksX2_getRSSvalue_5 18 rfl rfl)
theorem dX2_getRSSvalue_138 : decode cX2_getRSSvalue 138 = .ok (.iload 7, 2) := dk_21 7 (dk_at dksX2_getRSSvalue_5 20 rfl rfl)
theorem dX2_getRSSvalue_140 : decode cX2_getRSSvalue 140 = .ok (.isub, 1) := dk_100 (dk_at dksX2_getRSSvalue_5 22 rfl rfl)
theorem dX2_getRSSvalue_141 : decode cX2_getRSSvalue 141 = .ok (.isub, 1) := dk_100 (dk_at dksX2_getRSSvalue_5 23 rfl rfl)
theorem dX2_getRSSvalue_142 : decode cX2_getRSSvalue 142 = .ok (.iload 6, 2) := dk_21 6 (dk_at dksX2_getRSSvalue_6 0 rfl rfl)
theorem dX2_getRSSvalue_144 : decode cX2_getRSSvalue 144 = .ok (.iload 7, 2) := dk_21 7 (dk_at dksX2_getRSSvalue_6 2 rfl rfl)
theorem dX2_getRSSvalue_146 : decode cX2_getRSSvalue 146 = .ok (.isub, 1) := dk_100 (dk_at dksX2_getRSSvalue_6 4 rfl rfl)
theorem dX2_getRSSvalue_147 : decode cX2_getRSSvalue 147 = .ok (.iconst 2, 1) := dk_5 (dk_at dksX2_getRSSvalue_6 5 rfl rfl)
theorem dX2_getRSSvalue_148 : decode cX2_getRSSvalue 148 = .ok (.isub, 1) := dk_100 (dk_at dksX2_getRSSvalue_6 6 rfl rfl)
theorem dX2_getRSSvalue_149 : decode cX2_getRSSvalue 149 = .ok (.invokestatic 1, 3) := dk_184 0 1 (dk_at dksX2_getRSSvalue_6 7 rfl rfl)
theorem dX2_getRSSvalue_152 : decode cX2_getRSSvalue 152 = .ok (.isub, 1) := dk_100 (dk_at dksX2_getRSSvalue_6 10 rfl rfl)
theorem dX2_getRSSvalue_153 : decode cX2_getRSSvalue 153 = .ok (.istore 9, 2) := dk_54 9 (dk_at dksX2_getRSSvalue_6 11 rfl rfl)
theorem dX2_getRSSvalue_155 : decode cX2_getRSSvalue 155 = .ok (.iload 6, 2) := dk_21 6 (dk_at dksX2_getRSSvalue_6 13 rfl rfl)
theorem dX2_getRSSvalue_157 : decode cX2_getRSSvalue 157 = .ok (.iload 7, 2) := dk_21 7 (dk_at dksX2_getRSSvalue_6 15 rfl rfl)
theorem dX2_getRSSvalue_159 : decode cX2_getRSSvalue 159 = .ok (.isub, 1) := dk_100 (dk_at dksX2_getRSSvalue_6 17 rfl rfl)
theorem dX2_getRSSvalue_160 : decode cX2_getRSSvalue 160 = .ok (.iconst 1, 1) := dk_4 (dk_at dksX2_getRSSvalue_6 18 rfl rfl)
theorem dX2_getRSSvalue_161 : decode cX2_getRSSvalue 161 = .ok (.isub, 1) := dk_100 (dk_at dksX2_getRSSvalue_6 19 rfl rfl)
theorem dX2_getRSSvalue_162 : decode cX2_getRSSvalue 162 = .ok (.iconst 1, 1) := dk_4 (dk_at dksX2_getRSSvalue_6 20 rfl rfl)
theorem dX2_getRSSvalue_163 : decode cX2_getRSSvalue 163 = .ok (.if_icmp .le 74, 3) := dk_164 0 74 (dk_at dksX2_getRSSvalue_6 21 rfl rfl)
theorem dX2_getRSSvalue_166 : decode cX2_getRSSvalue 166 = .ok (.iconst 0, 1) := dk_3 (dk_at dksX2_getRSSvalue_7 0 rfl rfl)
theorem dX2_getRSSvalue_167 : decode cX2_getRSSvalue 167 = .ok (.istore 10, 2) := dk_54 10 (dk_at dksX2_getRSSvalue_7 1 rfl rfl)
theorem dX2_getRSSvalue_169 : decode cX2_getRSSvalue 169 = .ok (.iload_n 3, 1) := dk_29 (dk_at dksX2_getRSSvalue_7 3 rfl rfl)
theorem dX2_getRSSvalue_170 : decode cX2_getRSSvalue 170 = .ok (.iload 8, 2) := dk_21 8 (dk_at dksX2_getRSSvalue_7 4 rfl rfl)
theorem dX2_getRSSvalue_172 : decode cX2_getRSSvalue 172 = .ok (.isub, 1) := dk_100 (dk_at dksX2_getRSSvalue_7 6 rfl rfl)
theorem dX2_getRSSvalue_173 : decode cX2_getRSSvalue 173 = .ok (.iload 6, 2) := dk_21 6 (dk_at dksX2_getRSSvalue_7 7 rfl rfl)
theorem dX2_getRSSvalue_175 : decode cX2_getRSSvalue 175 = .ok (.iload 7, 2) := dk_21 7 (dk_at dksX2_getRSSvalue_7 9 rfl rfl)
theorem dX2_getRSSvalue_177 : decode cX2_getRSSvalue 177 = .ok (.isub, 1) := dk_100 (dk_at dksX2_getRSSvalue_7 11 rfl rfl)
theorem dX2_getRSSvalue_178 : decode cX2_getRSSvalue 178 = .ok (.iconst 2, 1) := dk_5 (dk_at dksX2_getRSSvalue_7 12 rfl rfl)
theorem dX2_getRSSvalue_179 : decode cX2_getRSSvalue 179 = .ok (.isub, 1) := dk_100 (dk_at dksX2_getRSSvalue_7 13 rfl rfl)
theorem dX2_getRSSvalue_180 : decode cX2_getRSSvalue 180 = .ok (.isub, 1) := dk_100 (dk_at dksX2_getRSSvalue_7 14 rfl rfl)
theorem dX2_getRSSvalue_181 : decode cX2_getRSSvalue 181 = .ok (.istore 11, 2) := dk_54 11 (dk_at dksX2_getRSSvalue_7 15 rfl rfl)
theorem dX2_getRSSvalue_183 : decode cX2_getRSSvalue 183 = .ok (.iload 11, 2) := dk_21 11 (dk_at dksX2_getRSSvalue_7 17 rfl rfl)
theorem dX2_getRSSvalue_185 : decode cX2_getRSSvalue 185 = .ok (.iload_n 1, 1) := dk_27 (dk_at dksX2_getRSSvalue_7 19 rfl rfl)
theorem dX2_getRSSvalue_186 : decode cX2_getRSSvalue 186 = .ok (.if_icmp .le 33, 3) := dk_164 0 33 (dk_at dksX2_getRSSvalue_7 20 rfl rfl)
theorem dX2_getRSSvalue_189 : decode cX2_getRSSvalue 189 = .ok (.iload 10, 2) := dk_21 10 (dk_at dksX2_getRSSvalue_8 0 rfl rfl)
theorem dX2_getRSSvalue_191 : decode cX2_getRSSvalue 191 = .ok (.iload_n 3, 1) := dk_29 (dk_at dksX2_getRSSvalue_8 2 rfl rfl)
theorem dX2_getRSSvalue_192 : decode cX2_getRSSvalue 192 = .ok (.iload 8, 2) := dk_21 8 (dk_at dksX2_getRSSvalue_8 3 rfl rfl)
theorem dX2_getRSSvalue_194 : decode cX2_getRSSvalue 194 = .ok (.isub, 1) := dk_100 (dk_at dksX2_getRSSvalue_8 5 rfl rfl)
theorem dX2_getRSSvalue_195 : decode cX2_getRSSvalue 195 = .ok (.iload 11, 2) := dk_21 11 (dk_at dksX2_getRSSvalue_8 6 rfl rfl)
theorem dX2_getRSSvalue_197 : decode cX2_getRSSvalue 197 = .ok (.isub, 1) := dk_100 (dk_at dksX2_getRSSvalue_8 8 rfl rfl)
theorem dX2_getRSSvalue_198 : decode cX2_getRSSvalue 198 = .ok (.iconst 1, 1) := dk_4 (dk_at dksX2_getRSSvalue_8 9 rfl rfl)
theorem dX2_getRSSvalue_199 : decode cX2_getRSSvalue 199 = .ok (.isub, 1) := dk_100 (dk_at dksX2_getRSSvalue_8 10 rfl rfl)
theorem dX2_getRSSvalue_200 : decode cX2_getRSSvalue 200 = .ok (.iload 6, 2) := dk_21 6 (dk_at dksX2_getRSSvalue_8 11 rfl rfl)
theorem dX2_getRSSvalue_202 : decode cX2_getRSSvalue 202 = .ok (.iload 7, 2) := dk_21 7 (dk_at dksX2_getRSSvalue_8 13 rfl rfl)
theorem dX2_getRSSvalue_204 : decode cX2_getRSSvalue 204 = .ok (.isub, 1) := dk_100 (dk_at dksX2_getRSSvalue_8 15 rfl rfl)
theorem dX2_getRSSvalue_205 : decode cX2_getRSSvalue 205 = .ok (.iconst 3, 1) := dk_6 (dk_at dksX2_getRSSvalue_8 16 rfl rfl)
theorem dX2_getRSSvalue_206 : decode cX2_getRSSvalue 206 = .ok (.isub, 1) := dk_100 (dk_at dksX2_getRSSvalue_8 17 rfl rfl)
theorem dX2_getRSSvalue_207 : decode cX2_getRSSvalue 207 = .ok (.invokestatic 1, 3) := dk_184 0 1 (dk_at dksX2_getRSSvalue_8 18 rfl rfl)
theorem dX2_getRSSvalue_210 : decode cX2_getRSSvalue 210 = .ok (.iadd, 1) := dk_96 (dk_at dksX2_getRSSvalue_8 21 rfl rfl)
theorem dX2_getRSSvalue_211 : decode cX2_getRSSvalue 211 = .ok (.istore 10, 2) := dk_54 10 (dk_at dksX2_getRSSvalue_8 22 rfl rfl)
theorem dX2_getRSSvalue_213 : decode cX2_getRSSvalue 213 = .ok (.iinc 11 (-1), 3) := dk_132 11 255 (dk_at dksX2_getRSSvalue_9 0 rfl rfl)
theorem dX2_getRSSvalue_216 : decode cX2_getRSSvalue 216 = .ok (.goto (-33), 3) := dk_167 255 223 (dk_at dksX2_getRSSvalue_9 3 rfl rfl)
theorem dX2_getRSSvalue_219 : decode cX2_getRSSvalue 219 = .ok (.iload 9, 2) := dk_21 9 (dk_at dksX2_getRSSvalue_9 6 rfl rfl)
theorem dX2_getRSSvalue_221 : decode cX2_getRSSvalue 221 = .ok (.iload 10, 2) := dk_21 10 (dk_at dksX2_getRSSvalue_9 8 rfl rfl)
theorem dX2_getRSSvalue_223 : decode cX2_getRSSvalue 223 = .ok (.iload 6, 2) := dk_21 6 (dk_at dksX2_getRSSvalue_9 10 rfl rfl)
theorem dX2_getRSSvalue_225 : decode cX2_getRSSvalue 225 = .ok (.iconst 1, 1) := dk_4 (dk_at dksX2_getRSSvalue_9 12 rfl rfl)
theorem dX2_getRSSvalue_226 : decode cX2_getRSSvalue 226 = .ok (.isub, 1) := dk_100 (dk_at dksX2_getRSSvalue_9 13 rfl rfl)
theorem dX2_getRSSvalue_227 : decode cX2_getRSSvalue 227 = .ok (.iload 7, 2) := dk_21 7 (dk_at dksX2_getRSSvalue_9 14 rfl rfl)
theorem dX2_getRSSvalue_229 : decode cX2_getRSSvalue 229 = .ok (.isub, 1) := dk_100 (dk_at dksX2_getRSSvalue_9 16 rfl rfl)
theorem dX2_getRSSvalue_230 : decode cX2_getRSSvalue 230 = .ok (.imul, 1) := dk_104 (dk_at dksX2_getRSSvalue_9 17 rfl rfl)
theorem dX2_getRSSvalue_231 : decode cX2_getRSSvalue 231 = .ok (.isub, 1) := dk_100 (dk_at dksX2_getRSSvalue_9 18 rfl rfl)
theorem dX2_getRSSvalue_232 : decode cX2_getRSSvalue 232 = .ok (.istore 9, 2) := dk_54 9 (dk_at dksX2_getRSSvalue_9 19 rfl rfl)
theorem dX2_getRSSvalue_234 : decode cX2_getRSSvalue 234 = .ok (.goto 14, 3) := dk_167 0 14 (dk_at dksX2_getRSSvalue_9 21 rfl rfl)
theorem dX2_getRSSvalue_237 : decode cX2_getRSSvalue 237 = .ok (.iload_n 3, 1) := dk_29 (dk_at dksX2_getRSSvalue_10 0 rfl rfl)
theorem dX2_getRSSvalue_238 : decode cX2_getRSSvalue 238 = .ok (.iload 8, 2) := dk_21 8 (dk_at dksX2_getRSSvalue_10 1 rfl rfl)
theorem dX2_getRSSvalue_240 : decode cX2_getRSSvalue 240 = .ok (.isub, 1) := dk_100 (dk_at dksX2_getRSSvalue_10 3 rfl rfl)
theorem dX2_getRSSvalue_241 : decode cX2_getRSSvalue 241 = .ok (.iload_n 1, 1) := dk_27 (dk_at dksX2_getRSSvalue_10 4 rfl rfl)
theorem dX2_getRSSvalue_242 : decode cX2_getRSSvalue 242 = .ok (.if_icmp .le 6, 3) := dk_164 0 6 (dk_at dksX2_getRSSvalue_10 5 rfl rfl)
theorem dX2_getRSSvalue_245 : decode cX2_getRSSvalue 245 = .ok (.iinc 9 (-1), 3) := dk_132 9 255 (dk_at dksX2_getRSSvalue_10 8 rfl rfl)
theorem dX2_getRSSvalue_248 : decode cX2_getRSSvalue 248 = .ok (.iload 4, 2) := dk_21 4 (dk_at dksX2_getRSSvalue_10 11 rfl rfl)
theorem dX2_getRSSvalue_250 : decode cX2_getRSSvalue 250 = .ok (.iload 9, 2) := dk_21 9 (dk_at dksX2_getRSSvalue_10 13 rfl rfl)
theorem dX2_getRSSvalue_252 : decode cX2_getRSSvalue 252 = .ok (.iadd, 1) := dk_96 (dk_at dksX2_getRSSvalue_10 15 rfl rfl)
theorem dX2_getRSSvalue_253 : decode cX2_getRSSvalue 253 = .ok (.istore 4, 2) := dk_54 4 (dk_at dksX2_getRSSvalue_10 16 rfl rfl)
theorem dX2_getRSSvalue_255 : decode cX2_getRSSvalue 255 = .ok (.iinc 8 1, 3) := dk_132 8 1 (dk_at dksX2_getRSSvalue_10 18 rfl rfl)
theorem dX2_getRSSvalue_258 : decode cX2_getRSSvalue 258 = .ok (.iload 5, 2) := dk_21 5 (dk_at dksX2_getRSSvalue_10 21 rfl rfl)
theorem dX2_getRSSvalue_260 : decode cX2_getRSSvalue 260 = .ok (.iconst 1, 1) := dk_4 (dk_at dksX2_getRSSvalue_10 23 rfl rfl)
theorem dX2_getRSSvalue_261 : decode cX2_getRSSvalue 261 = .ok (.iload 7, 2) := dk_21 7 (dk_at dksX2_getRSSvalue_11 0 rfl rfl)
theorem dX2_getRSSvalue_263 : decode cX2_getRSSvalue 263 = .ok (.ishl, 1) := dk_120 (dk_at dksX2_getRSSvalue_11 2 rfl rfl)
theorem dX2_getRSSvalue_264 : decode cX2_getRSSvalue 264 = .ok (.iconst (-1), 1) := dk_2 (dk_at dksX2_getRSSvalue_11 3 rfl rfl)
theorem dX2_getRSSvalue_265 : decode cX2_getRSSvalue 265 = .ok (.ixor, 1) := dk_130 (dk_at dksX2_getRSSvalue_11 4 rfl rfl)
theorem dX2_getRSSvalue_266 : decode cX2_getRSSvalue 266 = .ok (.iand, 1) := dk_126 (dk_at dksX2_getRSSvalue_11 5 rfl rfl)
theorem dX2_getRSSvalue_267 : decode cX2_getRSSvalue 267 = .ok (.istore 5, 2) := dk_54 5 (dk_at dksX2_getRSSvalue_11 6 rfl rfl)
theorem dX2_getRSSvalue_269 : decode cX2_getRSSvalue 269 = .ok (.goto (-197), 3) := dk_167 255 59 (dk_at dksX2_getRSSvalue_11 8 rfl rfl)
theorem dX2_getRSSvalue_272 : decode cX2_getRSSvalue 272 = .ok (.iload_n 3, 1) := dk_29 (dk_at dksX2_getRSSvalue_11 11 rfl rfl)
theorem dX2_getRSSvalue_273 : decode cX2_getRSSvalue 273 = .ok (.iload 8, 2) := dk_21 8 (dk_at dksX2_getRSSvalue_11 12 rfl rfl)
theorem dX2_getRSSvalue_275 : decode cX2_getRSSvalue 275 = .ok (.isub, 1) := dk_100 (dk_at dksX2_getRSSvalue_11 14 rfl rfl)
theorem dX2_getRSSvalue_276 : decode cX2_getRSSvalue 276 = .ok (.istore_n 3, 1) := dk_62 (dk_at dksX2_getRSSvalue_11 15 rfl rfl)
theorem dX2_getRSSvalue_277 : decode cX2_getRSSvalue 277 = .ok (.iinc 7 1, 3) := dk_132 7 1 (dk_at dksX2_getRSSvalue_11 16 rfl rfl)
theorem dX2_getRSSvalue_280 : decode cX2_getRSSvalue 280 = .ok (.goto (-229), 3) := dk_167 255 27 (dk_at dksX2_getRSSvalue_11 19 rfl rfl)
theorem dX2_getRSSvalue_283 : decode cX2_getRSSvalue 283 = .ok (.iload 4, 2) := dk_21 4 (dk_at dksX2_getRSSvalue_11 22 rfl rfl)
theorem dX2_getRSSvalue_285 : decode cX2_getRSSvalue 285 = .ok (.ireturn, 1) := dk_172 (dk_at dksX2_getRSSvalue_12 0 rfl rfl)
abbrev cX2_combins : ByteArray := prog_4_method_2_code
def yX2_combins : MethodName := ⟨RX2, "combins", "(II)I"⟩
def dkwX2_combins_3 : List UInt8 := [163, 0, 16, 21, 4, 21, 5, 108, 54, 4, 132, 5, 1, 167, 255, 240, 21, 4, 172]
abbrev dktX2_combins_3 : List UInt8 := dkwX2_combins_3 ++ []
def dkwX2_combins_2 : List UInt8 := [163, 0, 13, 21, 4, 21, 5, 108, 54, 4, 132, 5, 1, 132, 6, 255, 167, 255, 224, 21, 5, 29]
abbrev dktX2_combins_2 : List UInt8 := dkwX2_combins_2 ++ dktX2_combins_3
def dkwX2_combins_1 : List UInt8 := [54, 4, 4, 54, 5, 26, 54, 6, 21, 6, 28, 164, 0, 32, 21, 4, 21, 6, 104, 54, 4, 21, 5, 29]
abbrev dktX2_combins_1 : List UInt8 := dkwX2_combins_1 ++ dktX2_combins_2
def dkwX2_combins_0 : List UInt8 := [26, 27, 100, 27, 164, 0, 12, 27, 62, 26, 27, 100, 61, 167, 0, 9, 26, 27, 100, 62, 27, 61, 4]
abbrev dktX2_combins_0 : List UInt8 := dkwX2_combins_0 ++ dktX2_combins_1
theorem dksX2_combins_0 : cX2_combins.data.toList.drop 0 = dktX2_combins_0 := by decide +kernel
theorem dksX2_combins_1 : cX2_combins.data.toList.drop 23 = dktX2_combins_1 := dk_seg dksX2_combins_0 23 rfl rfl
theorem dksX2_combins_2 : cX2_combins.data.toList.drop 47 = dktX2_combins_2 := dk_seg dksX2_combins_1 24 rfl rfl
theorem dksX2_combins_3 : cX2_combins.data.toList.drop 69 = dktX2_combins_3 := dk_seg dksX2_combins_2 22 rfl rfl
theorem dX2_combins_0 : decode cX2_combins 0 = .ok (.iload_n 0, 1) := dk_26 (dk_at dksX2_combins_0 0 rfl rfl)
theorem dX2_combins_1 : decode cX2_combins 1 = .ok (.iload_n 1, 1) := dk_27 (dk_at dksX2_combins_0 1 rfl rfl)
theorem dX2_combins_2 : decode cX2_combins 2 = .ok (.isub, 1) := dk_100 (dk_at dksX2_combins_0 2 rfl rfl)
theorem dX2_combins_3 : decode cX2_combins 3 = .ok (.iload_n 1, 1) := dk_27 (dk_at dksX2_combins_0 3 rfl rfl)
theorem dX2_combins_4 : decode cX2_combins 4 = .ok (.if_icmp .le 12, 3) := dk_164 0 12 (dk_at dksX2_combins_0 4 rfl rfl)
theorem dX2_combins_7 : decode cX2_combins 7 = .ok (.iload_n 1, 1) := dk_27 (dk_at dksX2_combins_0 7 rfl rfl)
theorem dX2_combins_8 : decode cX2_combins 8 = .ok (.istore_n 3, 1) := dk_62 (dk_at dksX2_combins_0 8 rfl rfl)
theorem dX2_combins_9 : decode cX2_combins 9 = .ok (.iload_n 0, 1) := dk_26 (dk_at dksX2_combins_0 9 rfl rfl)
theorem dX2_combins_10 : decode cX2_combins 10 = .ok (.iload_n 1, 1) := dk_27 (dk_at dksX2_combins_0 10 rfl rfl)
theorem dX2_combins_11 : decode cX2_combins 11 = .ok (.isub, 1) := dk_100 (dk_at dksX2_combins_0 11 rfl rfl)
theorem dX2_combins_12 : decode cX2_combins 12 = .ok (.istore_n 2, 1) := dk_61 (dk_at dksX2_combins_0 12 rfl rfl)
theorem dX2_combins_13 : decode cX2_combins 13 = .ok (.goto 9, 3) := dk_167 0 9 (dk_at dksX2_combins_0 13 rfl rfl)
theorem dX2_combins_16 : decode cX2_combins 16 = .ok (.iload_n 0, 1) := dk_26 (dk_at dksX2_combins_0 16 rfl rfl)
theorem dX2_combins_17 : decode cX2_combins 17 = .ok (.iload_n 1, 1) := dk_27 (dk_at dksX2_combins_0 17 rfl rfl)
theorem dX2_combins_18 : decode cX2_combins 18 = .ok (.isub, 1) := dk_100 (dk_at dksX2_combins_0 18 rfl rfl)
theorem dX2_combins_19 : decode cX2_combins 19 = .ok (.istore_n 3, 1) := dk_62 (dk_at dksX2_combins_0 19 rfl rfl)
theorem dX2_combins_20 : decode cX2_combins 20 = .ok (.iload_n 1, 1) := dk_27 (dk_at dksX2_combins_0 20 rfl rfl)
theorem dX2_combins_21 : decode cX2_combins 21 = .ok (.istore_n 2, 1) := dk_61 (dk_at dksX2_combins_0 21 rfl rfl)
theorem dX2_combins_22 : decode cX2_combins 22 = .ok (.iconst 1, 1) := dk_4 (dk_at dksX2_combins_0 22 rfl rfl)
theorem dX2_combins_23 : decode cX2_combins 23 = .ok (.istore 4, 2) := dk_54 4 (dk_at dksX2_combins_1 0 rfl rfl)
theorem dX2_combins_25 : decode cX2_combins 25 = .ok (.iconst 1, 1) := dk_4 (dk_at dksX2_combins_1 2 rfl rfl)
theorem dX2_combins_26 : decode cX2_combins 26 = .ok (.istore 5, 2) := dk_54 5 (dk_at dksX2_combins_1 3 rfl rfl)
theorem dX2_combins_28 : decode cX2_combins 28 = .ok (.iload_n 0, 1) := dk_26 (dk_at dksX2_combins_1 5 rfl rfl)
theorem dX2_combins_29 : decode cX2_combins 29 = .ok (.istore 6, 2) := dk_54 6 (dk_at dksX2_combins_1 6 rfl rfl)
theorem dX2_combins_31 : decode cX2_combins 31 = .ok (.iload 6, 2) := dk_21 6 (dk_at dksX2_combins_1 8 rfl rfl)
theorem dX2_combins_33 : decode cX2_combins 33 = .ok (.iload_n 2, 1) := dk_28 (dk_at dksX2_combins_1 10 rfl rfl)
theorem dX2_combins_34 : decode cX2_combins 34 = .ok (.if_icmp .le 32, 3) := dk_164 0 32 (dk_at dksX2_combins_1 11 rfl rfl)
theorem dX2_combins_37 : decode cX2_combins 37 = .ok (.iload 4, 2) := dk_21 4 (dk_at dksX2_combins_1 14 rfl rfl)
theorem dX2_combins_39 : decode cX2_combins 39 = .ok (.iload 6, 2) := dk_21 6 (dk_at dksX2_combins_1 16 rfl rfl)
theorem dX2_combins_41 : decode cX2_combins 41 = .ok (.imul, 1) := dk_104 (dk_at dksX2_combins_1 18 rfl rfl)
theorem dX2_combins_42 : decode cX2_combins 42 = .ok (.istore 4, 2) := dk_54 4 (dk_at dksX2_combins_1 19 rfl rfl)
theorem dX2_combins_44 : decode cX2_combins 44 = .ok (.iload 5, 2) := dk_21 5 (dk_at dksX2_combins_1 21 rfl rfl)
theorem dX2_combins_46 : decode cX2_combins 46 = .ok (.iload_n 3, 1) := dk_29 (dk_at dksX2_combins_1 23 rfl rfl)
theorem dX2_combins_47 : decode cX2_combins 47 = .ok (.if_icmp .gt 13, 3) := dk_163 0 13 (dk_at dksX2_combins_2 0 rfl rfl)
theorem dX2_combins_50 : decode cX2_combins 50 = .ok (.iload 4, 2) := dk_21 4 (dk_at dksX2_combins_2 3 rfl rfl)
theorem dX2_combins_52 : decode cX2_combins 52 = .ok (.iload 5, 2) := dk_21 5 (dk_at dksX2_combins_2 5 rfl rfl)
theorem dX2_combins_54 : decode cX2_combins 54 = .ok (.idiv, 1) := dk_108 (dk_at dksX2_combins_2 7 rfl rfl)
theorem dX2_combins_55 : decode cX2_combins 55 = .ok (.istore 4, 2) := dk_54 4 (dk_at dksX2_combins_2 8 rfl rfl)
theorem dX2_combins_57 : decode cX2_combins 57 = .ok (.iinc 5 1, 3) := dk_132 5 1 (dk_at dksX2_combins_2 10 rfl rfl)
theorem dX2_combins_60 : decode cX2_combins 60 = .ok (.iinc 6 (-1), 3) := dk_132 6 255 (dk_at dksX2_combins_2 13 rfl rfl)
theorem dX2_combins_63 : decode cX2_combins 63 = .ok (.goto (-32), 3) := dk_167 255 224 (dk_at dksX2_combins_2 16 rfl rfl)
theorem dX2_combins_66 : decode cX2_combins 66 = .ok (.iload 5, 2) := dk_21 5 (dk_at dksX2_combins_2 19 rfl rfl)
theorem dX2_combins_68 : decode cX2_combins 68 = .ok (.iload_n 3, 1) := dk_29 (dk_at dksX2_combins_2 21 rfl rfl)
theorem dX2_combins_69 : decode cX2_combins 69 = .ok (.if_icmp .gt 16, 3) := dk_163 0 16 (dk_at dksX2_combins_3 0 rfl rfl)
theorem dX2_combins_72 : decode cX2_combins 72 = .ok (.iload 4, 2) := dk_21 4 (dk_at dksX2_combins_3 3 rfl rfl)
theorem dX2_combins_74 : decode cX2_combins 74 = .ok (.iload 5, 2) := dk_21 5 (dk_at dksX2_combins_3 5 rfl rfl)
theorem dX2_combins_76 : decode cX2_combins 76 = .ok (.idiv, 1) := dk_108 (dk_at dksX2_combins_3 7 rfl rfl)
theorem dX2_combins_77 : decode cX2_combins 77 = .ok (.istore 4, 2) := dk_54 4 (dk_at dksX2_combins_3 8 rfl rfl)
theorem dX2_combins_79 : decode cX2_combins 79 = .ok (.iinc 5 1, 3) := dk_132 5 1 (dk_at dksX2_combins_3 10 rfl rfl)
theorem dX2_combins_82 : decode cX2_combins 82 = .ok (.goto (-16), 3) := dk_167 255 240 (dk_at dksX2_combins_3 13 rfl rfl)
theorem dX2_combins_85 : decode cX2_combins 85 = .ok (.iload 4, 2) := dk_21 4 (dk_at dksX2_combins_3 16 rfl rfl)
theorem dX2_combins_87 : decode cX2_combins 87 = .ok (.ireturn, 1) := dk_172 (dk_at dksX2_combins_3 18 rfl rfl)
theorem q9 : (Jvm.Cond.initialized "RSSUtils") ∈ lw_all := lw_g (lw_at lw_m0 3 rfl) rfl
theorem q45 : (Jvm.Cond.static ({ cls := "RSSUtils", name := "getRSSvalue", desc := "([IIZ)I" } : Jvm.MethodName)) ∈ lw_all := lw_g (lw_at lw_m0 39 rfl) rfl
theorem q46 : (Jvm.Cond.code ({ cls := "RSSUtils", name := "getRSSvalue", desc := "([IIZ)I" } : Jvm.MethodName) prog_4_method_1_code (12 : Nat) (Option.some Jvm.ClassFile.FieldType.int)) ∈ lw_all := lw_g (lw_at lw_m0 40 rfl) rfl
theorem q47 : (Jvm.Cond.methodLink "RSSUtils" (1 : Nat) ({ cls := "RSSUtils", name := "combins", desc := "(II)I" } : Jvm.MethodName)) ∈ lw_all := lw_g (lw_at lw_m0 41 rfl) rfl
theorem q48 : (Jvm.Cond.static ({ cls := "RSSUtils", name := "combins", desc := "(II)I" } : Jvm.MethodName)) ∈ lw_all := lw_g (lw_at lw_m0 42 rfl) rfl
theorem q49 : (Jvm.Cond.code ({ cls := "RSSUtils", name := "combins", desc := "(II)I" } : Jvm.MethodName) prog_4_method_2_code (7 : Nat) (Option.some Jvm.ClassFile.FieldType.int)) ∈ lw_all := lw_g (lw_at lw_m0 43 rfl) rfl
end
section
/-! BarValueDesk -/
set_option maxRecDepth 100000
def RX0 : String := "BarValueDesk"
def TX0 : u_T := fun k => match k with
  | _ => ("BarValueDesk", "widths", "[I", true)
def tyX0 : Nat → FieldType := fun k => match k with
  | _ => .array .int
abbrev wsX00 : List Cond := u_ws RX0 TX0 1
theorem nmX0 : ∀ a, a < 1 → ∀ b, b < 1 → a ≠ b → (TX0 a).2.1 ≠ (TX0 b).2.1 := by decide +kernel
theorem tyX0_ok : ∀ k, k < 1 → parseFieldDescriptor (TX0 k).2.2.1 = some (tyX0 k) := by decide +kernel
abbrev cX0_init : ByteArray := prog_1_method_1_code
def yX0_init : MethodName := ⟨RX0, "<init>", "()V"⟩
def dkwX0_init_1 : List UInt8 := [181, 0, 7, 177]
abbrev dktX0_init_1 : List UInt8 := dkwX0_init_1 ++ []
def dkwX0_init_0 : List UInt8 := [42, 183, 0, 1, 42, 7, 188, 10, 89, 3, 4, 79, 89, 4, 4, 79, 89, 5, 4, 79, 89, 6, 4, 79]
abbrev dktX0_init_0 : List UInt8 := dkwX0_init_0 ++ dktX0_init_1
theorem dksX0_init_0 : cX0_init.data.toList.drop 0 = dktX0_init_0 := by decide +kernel
theorem dksX0_init_1 : cX0_init.data.toList.drop 24 = dktX0_init_1 := dk_seg dksX0_init_0 24 rfl rfl
theorem dX0_init_0 : decode cX0_init 0 = .ok (.aload_n 0, 1) := dk_42 (dk_at dksX0_init_0 0 rfl rfl)
theorem dX0_init_1 : decode cX0_init 1 = .ok (.invokespecial 1, 3) := dk_183 0 1 (dk_at dksX0_init_0 1 rfl rfl)
theorem dX0_init_4 : decode cX0_init 4 = .ok (.aload_n 0, 1) := dk_42 (dk_at dksX0_init_0 4 rfl rfl)
theorem dX0_init_5 : decode cX0_init 5 = .ok (.iconst 4, 1) := dk_7 (dk_at dksX0_init_0 5 rfl rfl)
theorem dX0_init_6 : decode cX0_init 6 = .ok (.newarray .int, 2) := dk_188_10 (dk_at dksX0_init_0 6 rfl rfl)
theorem dX0_init_8 : decode cX0_init 8 = .ok (.dup, 1) := dk_89 (dk_at dksX0_init_0 8 rfl rfl)
theorem dX0_init_9 : decode cX0_init 9 = .ok (.iconst 0, 1) := dk_3 (dk_at dksX0_init_0 9 rfl rfl)
theorem dX0_init_10 : decode cX0_init 10 = .ok (.iconst 1, 1) := dk_4 (dk_at dksX0_init_0 10 rfl rfl)
theorem dX0_init_11 : decode cX0_init 11 = .ok (.iastore, 1) := dk_79 (dk_at dksX0_init_0 11 rfl rfl)
theorem dX0_init_12 : decode cX0_init 12 = .ok (.dup, 1) := dk_89 (dk_at dksX0_init_0 12 rfl rfl)
theorem dX0_init_13 : decode cX0_init 13 = .ok (.iconst 1, 1) := dk_4 (dk_at dksX0_init_0 13 rfl rfl)
theorem dX0_init_14 : decode cX0_init 14 = .ok (.iconst 1, 1) := dk_4 (dk_at dksX0_init_0 14 rfl rfl)
theorem dX0_init_15 : decode cX0_init 15 = .ok (.iastore, 1) := dk_79 (dk_at dksX0_init_0 15 rfl rfl)
theorem dX0_init_16 : decode cX0_init 16 = .ok (.dup, 1) := dk_89 (dk_at dksX0_init_0 16 rfl rfl)
theorem dX0_init_17 : decode cX0_init 17 = .ok (.iconst 2, 1) := dk_5 (dk_at dksX0_init_0 17 rfl rfl)
theorem dX0_init_18 : decode cX0_init 18 = .ok (.iconst 1, 1) := dk_4 (dk_at dksX0_init_0 18 rfl rfl)
theorem dX0_init_19 : decode cX0_init 19 = .ok (.iastore, 1) := dk_79 (dk_at dksX0_init_0 19 rfl rfl)
theorem dX0_init_20 : decode cX0_init 20 = .ok (.dup, 1) := dk_89 (dk_at dksX0_init_0 20 rfl rfl)
theorem dX0_init_21 : decode cX0_init 21 = .ok (.iconst 3, 1) := dk_6 (dk_at dksX0_init_0 21 rfl rfl)
theorem dX0_init_22 : decode cX0_init 22 = .ok (.iconst 1, 1) := dk_4 (dk_at dksX0_init_0 22 rfl rfl)
theorem dX0_init_23 : decode cX0_init 23 = .ok (.iastore, 1) := dk_79 (dk_at dksX0_init_0 23 rfl rfl)
theorem dX0_init_24 : decode cX0_init 24 = .ok (.putfield 7, 3) := dk_181 0 7 (dk_at dksX0_init_1 0 rfl rfl)
theorem dX0_init_27 : decode cX0_init 27 = .ok (.return_, 1) := dk_177 (dk_at dksX0_init_1 3 rfl rfl)
abbrev cX0_width : ByteArray := prog_1_method_2_code
def yX0_width : MethodName := ⟨RX0, "width", "(II)V"⟩
def dkwX0_width_0 : List UInt8 := [42, 180, 0, 7, 27, 6, 126, 4, 28, 16, 7, 126, 96, 79, 177]
abbrev dktX0_width_0 : List UInt8 := dkwX0_width_0 ++ []
theorem dksX0_width_0 : cX0_width.data.toList.drop 0 = dktX0_width_0 := by decide +kernel
theorem dX0_width_0 : decode cX0_width 0 = .ok (.aload_n 0, 1) := dk_42 (dk_at dksX0_width_0 0 rfl rfl)
theorem dX0_width_1 : decode cX0_width 1 = .ok (.getfield 7, 3) := dk_180 0 7 (dk_at dksX0_width_0 1 rfl rfl)
theorem dX0_width_4 : decode cX0_width 4 = .ok (.iload_n 1, 1) := dk_27 (dk_at dksX0_width_0 4 rfl rfl)
theorem dX0_width_5 : decode cX0_width 5 = .ok (.iconst 3, 1) := dk_6 (dk_at dksX0_width_0 5 rfl rfl)
theorem dX0_width_6 : decode cX0_width 6 = .ok (.iand, 1) := dk_126 (dk_at dksX0_width_0 6 rfl rfl)
theorem dX0_width_7 : decode cX0_width 7 = .ok (.iconst 1, 1) := dk_4 (dk_at dksX0_width_0 7 rfl rfl)
theorem dX0_width_8 : decode cX0_width 8 = .ok (.iload_n 2, 1) := dk_28 (dk_at dksX0_width_0 8 rfl rfl)
theorem dX0_width_9 : decode cX0_width 9 = .ok (.bipush 7, 2) := dk_16 7 (dk_at dksX0_width_0 9 rfl rfl)
theorem dX0_width_11 : decode cX0_width 11 = .ok (.iand, 1) := dk_126 (dk_at dksX0_width_0 11 rfl rfl)
theorem dX0_width_12 : decode cX0_width 12 = .ok (.iadd, 1) := dk_96 (dk_at dksX0_width_0 12 rfl rfl)
theorem dX0_width_13 : decode cX0_width 13 = .ok (.iastore, 1) := dk_79 (dk_at dksX0_width_0 13 rfl rfl)
theorem dX0_width_14 : decode cX0_width 14 = .ok (.return_, 1) := dk_177 (dk_at dksX0_width_0 14 rfl rfl)
abbrev cX0_widths : ByteArray := prog_1_method_3_code
def yX0_widths : MethodName := ⟨RX0, "widths", "(IIII)V"⟩
def dkwX0_widths_2 : List UInt8 := [79, 177]
abbrev dktX0_widths_2 : List UInt8 := dkwX0_widths_2 ++ []
def dkwX0_widths_1 : List UInt8 := [42, 180, 0, 7, 5, 4, 29, 16, 7, 126, 96, 79, 42, 180, 0, 7, 6, 4, 21, 4, 16, 7, 126, 96]
abbrev dktX0_widths_1 : List UInt8 := dkwX0_widths_1 ++ dktX0_widths_2
def dkwX0_widths_0 : List UInt8 := [42, 180, 0, 7, 3, 4, 27, 16, 7, 126, 96, 79, 42, 180, 0, 7, 4, 4, 28, 16, 7, 126, 96, 79]
abbrev dktX0_widths_0 : List UInt8 := dkwX0_widths_0 ++ dktX0_widths_1
theorem dksX0_widths_0 : cX0_widths.data.toList.drop 0 = dktX0_widths_0 := by decide +kernel
theorem dksX0_widths_1 : cX0_widths.data.toList.drop 24 = dktX0_widths_1 := dk_seg dksX0_widths_0 24 rfl rfl
theorem dksX0_widths_2 : cX0_widths.data.toList.drop 48 = dktX0_widths_2 := dk_seg dksX0_widths_1 24 rfl rfl
theorem dX0_widths_0 : decode cX0_widths 0 = .ok (.aload_n 0, 1) := dk_42 (dk_at dksX0_widths_0 0 rfl rfl)
theorem dX0_widths_1 : decode cX0_widths 1 = .ok (.getfield 7, 3) := dk_180 0 7 (dk_at dksX0_widths_0 1 rfl rfl)
theorem dX0_widths_4 : decode cX0_widths 4 = .ok (.iconst 0, 1) := dk_3 (dk_at dksX0_widths_0 4 rfl rfl)
theorem dX0_widths_5 : decode cX0_widths 5 = .ok (.iconst 1, 1) := dk_4 (dk_at dksX0_widths_0 5 rfl rfl)
theorem dX0_widths_6 : decode cX0_widths 6 = .ok (.iload_n 1, 1) := dk_27 (dk_at dksX0_widths_0 6 rfl rfl)
theorem dX0_widths_7 : decode cX0_widths 7 = .ok (.bipush 7, 2) := dk_16 7 (dk_at dksX0_widths_0 7 rfl rfl)
theorem dX0_widths_9 : decode cX0_widths 9 = .ok (.iand, 1) := dk_126 (dk_at dksX0_widths_0 9 rfl rfl)
theorem dX0_widths_10 : decode cX0_widths 10 = .ok (.iadd, 1) := dk_96 (dk_at dksX0_widths_0 10 rfl rfl)
theorem dX0_widths_11 : decode cX0_widths 11 = .ok (.iastore, 1) := dk_79 (dk_at dksX0_widths_0 11 rfl rfl)
theorem dX0_widths_12 : decode cX0_widths 12 = .ok (.aload_n 0, 1) := dk_42 (dk_at dksX0_widths_0 12 rfl rfl)
theorem dX0_widths_13 : decode cX0_widths 13 = .ok (.getfield 7, 3) := dk_180 0 7 (dk_at dksX0_widths_0 13 rfl rfl)
theorem dX0_widths_16 : decode cX0_widths 16 = .ok (.iconst 1, 1) := dk_4 (dk_at dksX0_widths_0 16 rfl rfl)
theorem dX0_widths_17 : decode cX0_widths 17 = .ok (.iconst 1, 1) := dk_4 (dk_at dksX0_widths_0 17 rfl rfl)
theorem dX0_widths_18 : decode cX0_widths 18 = .ok (.iload_n 2, 1) := dk_28 (dk_at dksX0_widths_0 18 rfl rfl)
theorem dX0_widths_19 : decode cX0_widths 19 = .ok (.bipush 7, 2) := dk_16 7 (dk_at dksX0_widths_0 19 rfl rfl)
theorem dX0_widths_21 : decode cX0_widths 21 = .ok (.iand, 1) := dk_126 (dk_at dksX0_widths_0 21 rfl rfl)
theorem dX0_widths_22 : decode cX0_widths 22 = .ok (.iadd, 1) := dk_96 (dk_at dksX0_widths_0 22 rfl rfl)
theorem dX0_widths_23 : decode cX0_widths 23 = .ok (.iastore, 1) := dk_79 (dk_at dksX0_widths_0 23 rfl rfl)
theorem dX0_widths_24 : decode cX0_widths 24 = .ok (.aload_n 0, 1) := dk_42 (dk_at dksX0_widths_1 0 rfl rfl)
theorem dX0_widths_25 : decode cX0_widths 25 = .ok (.getfield 7, 3) := dk_180 0 7 (dk_at dksX0_widths_1 1 rfl rfl)
theorem dX0_widths_28 : decode cX0_widths 28 = .ok (.iconst 2, 1) := dk_5 (dk_at dksX0_widths_1 4 rfl rfl)
theorem dX0_widths_29 : decode cX0_widths 29 = .ok (.iconst 1, 1) := dk_4 (dk_at dksX0_widths_1 5 rfl rfl)
theorem dX0_widths_30 : decode cX0_widths 30 = .ok (.iload_n 3, 1) := dk_29 (dk_at dksX0_widths_1 6 rfl rfl)
theorem dX0_widths_31 : decode cX0_widths 31 = .ok (.bipush 7, 2) := dk_16 7 (dk_at dksX0_widths_1 7 rfl rfl)
theorem dX0_widths_33 : decode cX0_widths 33 = .ok (.iand, 1) := dk_126 (dk_at dksX0_widths_1 9 rfl rfl)
theorem dX0_widths_34 : decode cX0_widths 34 = .ok (.iadd, 1) := dk_96 (dk_at dksX0_widths_1 10 rfl rfl)
theorem dX0_widths_35 : decode cX0_widths 35 = .ok (.iastore, 1) := dk_79 (dk_at dksX0_widths_1 11 rfl rfl)
theorem dX0_widths_36 : decode cX0_widths 36 = .ok (.aload_n 0, 1) := dk_42 (dk_at dksX0_widths_1 12 rfl rfl)
theorem dX0_widths_37 : decode cX0_widths 37 = .ok (.getfield 7, 3) := dk_180 0 7 (dk_at dksX0_widths_1 13 rfl rfl)
theorem dX0_widths_40 : decode cX0_widths 40 = .ok (.iconst 3, 1) := dk_6 (dk_at dksX0_widths_1 16 rfl rfl)
theorem dX0_widths_41 : decode cX0_widths 41 = .ok (.iconst 1, 1) := dk_4 (dk_at dksX0_widths_1 17 rfl rfl)
theorem dX0_widths_42 : decode cX0_widths 42 = .ok (.iload 4, 2) := dk_21 4 (dk_at dksX0_widths_1 18 rfl rfl)
theorem dX0_widths_44 : decode cX0_widths 44 = .ok (.bipush 7, 2) := dk_16 7 (dk_at dksX0_widths_1 20 rfl rfl)
theorem dX0_widths_46 : decode cX0_widths 46 = .ok (.iand, 1) := dk_126 (dk_at dksX0_widths_1 22 rfl rfl)
theorem dX0_widths_47 : decode cX0_widths 47 = .ok (.iadd, 1) := dk_96 (dk_at dksX0_widths_1 23 rfl rfl)
theorem dX0_widths_48 : decode cX0_widths 48 = .ok (.iastore, 1) := dk_79 (dk_at dksX0_widths_2 0 rfl rfl)
theorem dX0_widths_49 : decode cX0_widths 49 = .ok (.return_, 1) := dk_177 (dk_at dksX0_widths_2 1 rfl rfl)
abbrev cX0_value : ByteArray := prog_1_method_7_code
def yX0_value : MethodName := ⟨RX0, "value", "(I)I"⟩
def dkwX0_value_1 : List UInt8 := [7, 96, 162, 0, 15, 42, 180, 0, 7, 29, 3, 184, 0, 21, 167, 0, 4, 2, 172]
abbrev dktX0_value_1 : List UInt8 := dkwX0_value_1 ++ []
def dkwX0_value_0 : List UInt8 := [42, 182, 0, 13, 61, 28, 27, 18, 17, 126, 16, 9, 28, 100, 112, 96, 62, 42, 182, 0, 18, 5, 29, 104]
abbrev dktX0_value_0 : List UInt8 := dkwX0_value_0 ++ dktX0_value_1
theorem dksX0_value_0 : cX0_value.data.toList.drop 0 = dktX0_value_0 := by decide +kernel
theorem dksX0_value_1 : cX0_value.data.toList.drop 24 = dktX0_value_1 := dk_seg dksX0_value_0 24 rfl rfl
theorem dX0_value_0 : decode cX0_value 0 = .ok (.aload_n 0, 1) := dk_42 (dk_at dksX0_value_0 0 rfl rfl)
theorem dX0_value_1 : decode cX0_value 1 = .ok (.invokevirtual 13, 3) := dk_182 0 13 (dk_at dksX0_value_0 1 rfl rfl)
theorem dX0_value_4 : decode cX0_value 4 = .ok (.istore_n 2, 1) := dk_61 (dk_at dksX0_value_0 4 rfl rfl)
theorem dX0_value_5 : decode cX0_value 5 = .ok (.iload_n 2, 1) := dk_28 (dk_at dksX0_value_0 5 rfl rfl)
theorem dX0_value_6 : decode cX0_value 6 = .ok (.iload_n 1, 1) := dk_27 (dk_at dksX0_value_0 6 rfl rfl)
theorem dX0_value_7 : decode cX0_value 7 = .ok (.ldc 17, 2) := dk_18 17 (dk_at dksX0_value_0 7 rfl rfl)
theorem dX0_value_9 : decode cX0_value 9 = .ok (.iand, 1) := dk_126 (dk_at dksX0_value_0 9 rfl rfl)
theorem dX0_value_10 : decode cX0_value 10 = .ok (.bipush 9, 2) := dk_16 9 (dk_at dksX0_value_0 10 rfl rfl)
theorem dX0_value_12 : decode cX0_value 12 = .ok (.iload_n 2, 1) := dk_28 (dk_at dksX0_value_0 12 rfl rfl)
theorem dX0_value_13 : decode cX0_value 13 = .ok (.isub, 1) := dk_100 (dk_at dksX0_value_0 13 rfl rfl)
theorem dX0_value_14 : decode cX0_value 14 = .ok (.irem, 1) := dk_112 (dk_at dksX0_value_0 14 rfl rfl)
theorem dX0_value_15 : decode cX0_value 15 = .ok (.iadd, 1) := dk_96 (dk_at dksX0_value_0 15 rfl rfl)
theorem dX0_value_16 : decode cX0_value 16 = .ok (.istore_n 3, 1) := dk_62 (dk_at dksX0_value_0 16 rfl rfl)
theorem dX0_value_17 : decode cX0_value 17 = .ok (.aload_n 0, 1) := dk_42 (dk_at dksX0_value_0 17 rfl rfl)
theorem dX0_value_18 : decode cX0_value 18 = .ok (.invokevirtual 18, 3) := dk_182 0 18 (dk_at dksX0_value_0 18 rfl rfl)
theorem dX0_value_21 : decode cX0_value 21 = .ok (.iconst 2, 1) := dk_5 (dk_at dksX0_value_0 21 rfl rfl)
theorem dX0_value_22 : decode cX0_value 22 = .ok (.iload_n 3, 1) := dk_29 (dk_at dksX0_value_0 22 rfl rfl)
theorem dX0_value_23 : decode cX0_value 23 = .ok (.imul, 1) := dk_104 (dk_at dksX0_value_0 23 rfl rfl)
theorem dX0_value_24 : decode cX0_value 24 = .ok (.iconst 4, 1) := dk_7 (dk_at dksX0_value_1 0 rfl rfl)
theorem dX0_value_25 : decode cX0_value 25 = .ok (.iadd, 1) := dk_96 (dk_at dksX0_value_1 1 rfl rfl)
theorem dX0_value_26 : decode cX0_value 26 = .ok (.if_icmp .ge 15, 3) := dk_162 0 15 (dk_at dksX0_value_1 2 rfl rfl)
theorem dX0_value_29 : decode cX0_value 29 = .ok (.aload_n 0, 1) := dk_42 (dk_at dksX0_value_1 5 rfl rfl)
theorem dX0_value_30 : decode cX0_value 30 = .ok (.getfield 7, 3) := dk_180 0 7 (dk_at dksX0_value_1 6 rfl rfl)
theorem dX0_value_33 : decode cX0_value 33 = .ok (.iload_n 3, 1) := dk_29 (dk_at dksX0_value_1 9 rfl rfl)
theorem dX0_value_34 : decode cX0_value 34 = .ok (.iconst 0, 1) := dk_3 (dk_at dksX0_value_1 10 rfl rfl)
theorem dX0_value_35 : decode cX0_value 35 = .ok (.invokestatic 21, 3) := dk_184 0 21 (dk_at dksX0_value_1 11 rfl rfl)
theorem dX0_value_38 : decode cX0_value 38 = .ok (.goto 4, 3) := dk_167 0 4 (dk_at dksX0_value_1 14 rfl rfl)
theorem dX0_value_41 : decode cX0_value 41 = .ok (.iconst (-1), 1) := dk_2 (dk_at dksX0_value_1 17 rfl rfl)
theorem dX0_value_42 : decode cX0_value 42 = .ok (.ireturn, 1) := dk_172 (dk_at dksX0_value_1 18 rfl rfl)
abbrev cX0_widest : ByteArray := prog_1_method_4_code
def yX0_widest : MethodName := ⟨RX0, "widest", "()I"⟩
def dkwX0_widest_1 : List UInt8 := [54, 5, 21, 5, 27, 164, 0, 8, 21, 5, 167, 0, 4, 27, 60, 132, 4, 1, 167, 255, 228, 27, 172]
abbrev dktX0_widest_1 : List UInt8 := dkwX0_widest_1 ++ []
def dkwX0_widest_0 : List UInt8 := [3, 60, 42, 180, 0, 7, 77, 44, 190, 62, 3, 54, 4, 21, 4, 29, 162, 0, 28, 44, 21, 4, 46]
abbrev dktX0_widest_0 : List UInt8 := dkwX0_widest_0 ++ dktX0_widest_1
theorem dksX0_widest_0 : cX0_widest.data.toList.drop 0 = dktX0_widest_0 := by decide +kernel
theorem dksX0_widest_1 : cX0_widest.data.toList.drop 23 = dktX0_widest_1 := dk_seg dksX0_widest_0 23 rfl rfl
theorem dX0_widest_0 : decode cX0_widest 0 = .ok (.iconst 0, 1) := dk_3 (dk_at dksX0_widest_0 0 rfl rfl)
theorem dX0_widest_1 : decode cX0_widest 1 = .ok (.istore_n 1, 1) := dk_60 (dk_at dksX0_widest_0 1 rfl rfl)
theorem dX0_widest_2 : decode cX0_widest 2 = .ok (.aload_n 0, 1) := dk_42 (dk_at dksX0_widest_0 2 rfl rfl)
theorem dX0_widest_3 : decode cX0_widest 3 = .ok (.getfield 7, 3) := dk_180 0 7 (dk_at dksX0_widest_0 3 rfl rfl)
theorem dX0_widest_6 : decode cX0_widest 6 = .ok (.astore_n 2, 1) := dk_77 (dk_at dksX0_widest_0 6 rfl rfl)
theorem dX0_widest_7 : decode cX0_widest 7 = .ok (.aload_n 2, 1) := dk_44 (dk_at dksX0_widest_0 7 rfl rfl)
theorem dX0_widest_8 : decode cX0_widest 8 = .ok (.arraylength, 1) := dk_190 (dk_at dksX0_widest_0 8 rfl rfl)
theorem dX0_widest_9 : decode cX0_widest 9 = .ok (.istore_n 3, 1) := dk_62 (dk_at dksX0_widest_0 9 rfl rfl)
theorem dX0_widest_10 : decode cX0_widest 10 = .ok (.iconst 0, 1) := dk_3 (dk_at dksX0_widest_0 10 rfl rfl)
theorem dX0_widest_11 : decode cX0_widest 11 = .ok (.istore 4, 2) := dk_54 4 (dk_at dksX0_widest_0 11 rfl rfl)
theorem dX0_widest_13 : decode cX0_widest 13 = .ok (.iload 4, 2) := dk_21 4 (dk_at dksX0_widest_0 13 rfl rfl)
theorem dX0_widest_15 : decode cX0_widest 15 = .ok (.iload_n 3, 1) := dk_29 (dk_at dksX0_widest_0 15 rfl rfl)
theorem dX0_widest_16 : decode cX0_widest 16 = .ok (.if_icmp .ge 28, 3) := dk_162 0 28 (dk_at dksX0_widest_0 16 rfl rfl)
theorem dX0_widest_19 : decode cX0_widest 19 = .ok (.aload_n 2, 1) := dk_44 (dk_at dksX0_widest_0 19 rfl rfl)
theorem dX0_widest_20 : decode cX0_widest 20 = .ok (.iload 4, 2) := dk_21 4 (dk_at dksX0_widest_0 20 rfl rfl)
theorem dX0_widest_22 : decode cX0_widest 22 = .ok (.iaload, 1) := dk_46 (dk_at dksX0_widest_0 22 rfl rfl)
theorem dX0_widest_23 : decode cX0_widest 23 = .ok (.istore 5, 2) := dk_54 5 (dk_at dksX0_widest_1 0 rfl rfl)
theorem dX0_widest_25 : decode cX0_widest 25 = .ok (.iload 5, 2) := dk_21 5 (dk_at dksX0_widest_1 2 rfl rfl)
theorem dX0_widest_27 : decode cX0_widest 27 = .ok (.iload_n 1, 1) := dk_27 (dk_at dksX0_widest_1 4 rfl rfl)
theorem dX0_widest_28 : decode cX0_widest 28 = .ok (.if_icmp .le 8, 3) := dk_164 0 8 (dk_at dksX0_widest_1 5 rfl rfl)
theorem dX0_widest_31 : decode cX0_widest 31 = .ok (.iload 5, 2) := dk_21 5 (dk_at dksX0_widest_1 8 rfl rfl)
theorem dX0_widest_33 : decode cX0_widest 33 = .ok (.goto 4, 3) := dk_167 0 4 (dk_at dksX0_widest_1 10 rfl rfl)
theorem dX0_widest_36 : decode cX0_widest 36 = .ok (.iload_n 1, 1) := dk_27 (dk_at dksX0_widest_1 13 rfl rfl)
theorem dX0_widest_37 : decode cX0_widest 37 = .ok (.istore_n 1, 1) := dk_60 (dk_at dksX0_widest_1 14 rfl rfl)
theorem dX0_widest_38 : decode cX0_widest 38 = .ok (.iinc 4 1, 3) := dk_132 4 1 (dk_at dksX0_widest_1 15 rfl rfl)
theorem dX0_widest_41 : decode cX0_widest 41 = .ok (.goto (-28), 3) := dk_167 255 228 (dk_at dksX0_widest_1 18 rfl rfl)
theorem dX0_widest_44 : decode cX0_widest 44 = .ok (.iload_n 1, 1) := dk_27 (dk_at dksX0_widest_1 21 rfl rfl)
theorem dX0_widest_45 : decode cX0_widest 45 = .ok (.ireturn, 1) := dk_172 (dk_at dksX0_widest_1 22 rfl rfl)
abbrev cX0_sum : ByteArray := prog_1_method_6_code
def yX0_sum : MethodName := ⟨RX0, "sum", "()I"⟩
def dkwX0_sum_1 : List UInt8 := [6, 46, 96, 172]
abbrev dktX0_sum_1 : List UInt8 := dkwX0_sum_1 ++ []
def dkwX0_sum_0 : List UInt8 := [42, 180, 0, 7, 3, 46, 42, 180, 0, 7, 4, 46, 96, 42, 180, 0, 7, 5, 46, 96, 42, 180, 0, 7]
abbrev dktX0_sum_0 : List UInt8 := dkwX0_sum_0 ++ dktX0_sum_1
theorem dksX0_sum_0 : cX0_sum.data.toList.drop 0 = dktX0_sum_0 := by decide +kernel
theorem dksX0_sum_1 : cX0_sum.data.toList.drop 24 = dktX0_sum_1 := dk_seg dksX0_sum_0 24 rfl rfl
theorem dX0_sum_0 : decode cX0_sum 0 = .ok (.aload_n 0, 1) := dk_42 (dk_at dksX0_sum_0 0 rfl rfl)
theorem dX0_sum_1 : decode cX0_sum 1 = .ok (.getfield 7, 3) := dk_180 0 7 (dk_at dksX0_sum_0 1 rfl rfl)
theorem dX0_sum_4 : decode cX0_sum 4 = .ok (.iconst 0, 1) := dk_3 (dk_at dksX0_sum_0 4 rfl rfl)
theorem dX0_sum_5 : decode cX0_sum 5 = .ok (.iaload, 1) := dk_46 (dk_at dksX0_sum_0 5 rfl rfl)
theorem dX0_sum_6 : decode cX0_sum 6 = .ok (.aload_n 0, 1) := dk_42 (dk_at dksX0_sum_0 6 rfl rfl)
theorem dX0_sum_7 : decode cX0_sum 7 = .ok (.getfield 7, 3) := dk_180 0 7 (dk_at dksX0_sum_0 7 rfl rfl)
theorem dX0_sum_10 : decode cX0_sum 10 = .ok (.iconst 1, 1) := dk_4 (dk_at dksX0_sum_0 10 rfl rfl)
theorem dX0_sum_11 : decode cX0_sum 11 = .ok (.iaload, 1) := dk_46 (dk_at dksX0_sum_0 11 rfl rfl)
theorem dX0_sum_12 : decode cX0_sum 12 = .ok (.iadd, 1) := dk_96 (dk_at dksX0_sum_0 12 rfl rfl)
theorem dX0_sum_13 : decode cX0_sum 13 = .ok (.aload_n 0, 1) := dk_42 (dk_at dksX0_sum_0 13 rfl rfl)
theorem dX0_sum_14 : decode cX0_sum 14 = .ok (.getfield 7, 3) := dk_180 0 7 (dk_at dksX0_sum_0 14 rfl rfl)
theorem dX0_sum_17 : decode cX0_sum 17 = .ok (.iconst 2, 1) := dk_5 (dk_at dksX0_sum_0 17 rfl rfl)
theorem dX0_sum_18 : decode cX0_sum 18 = .ok (.iaload, 1) := dk_46 (dk_at dksX0_sum_0 18 rfl rfl)
theorem dX0_sum_19 : decode cX0_sum 19 = .ok (.iadd, 1) := dk_96 (dk_at dksX0_sum_0 19 rfl rfl)
theorem dX0_sum_20 : decode cX0_sum 20 = .ok (.aload_n 0, 1) := dk_42 (dk_at dksX0_sum_0 20 rfl rfl)
theorem dX0_sum_21 : decode cX0_sum 21 = .ok (.getfield 7, 3) := dk_180 0 7 (dk_at dksX0_sum_0 21 rfl rfl)
theorem dX0_sum_24 : decode cX0_sum 24 = .ok (.iconst 3, 1) := dk_6 (dk_at dksX0_sum_1 0 rfl rfl)
theorem dX0_sum_25 : decode cX0_sum 25 = .ok (.iaload, 1) := dk_46 (dk_at dksX0_sum_1 1 rfl rfl)
theorem dX0_sum_26 : decode cX0_sum 26 = .ok (.iadd, 1) := dk_96 (dk_at dksX0_sum_1 2 rfl rfl)
theorem dX0_sum_27 : decode cX0_sum 27 = .ok (.ireturn, 1) := dk_172 (dk_at dksX0_sum_1 3 rfl rfl)
abbrev cX0_withNarrow : ByteArray := prog_1_method_8_code
def yX0_withNarrow : MethodName := ⟨RX0, "withNarrow", "(I)I"⟩
def dkwX0_withNarrow_2 : List UInt8 := [180, 0, 7, 29, 4, 184, 0, 21, 167, 0, 4, 2, 172]
abbrev dktX0_withNarrow_2 : List UInt8 := dkwX0_withNarrow_2 ++ []
def dkwX0_withNarrow_1 : List UInt8 := [42, 182, 0, 18, 29, 16, 7, 96, 162, 0, 27, 42, 182, 0, 18, 5, 29, 104, 7, 96, 162, 0, 15, 42]
abbrev dktX0_withNarrow_1 : List UInt8 := dkwX0_withNarrow_1 ++ dktX0_withNarrow_2
def dkwX0_withNarrow_0 : List UInt8 := [42, 182, 0, 13, 61, 28, 27, 18, 17, 126, 16, 9, 28, 100, 112, 96, 62, 42, 182, 0, 27, 153, 0, 38]
abbrev dktX0_withNarrow_0 : List UInt8 := dkwX0_withNarrow_0 ++ dktX0_withNarrow_1
theorem dksX0_withNarrow_0 : cX0_withNarrow.data.toList.drop 0 = dktX0_withNarrow_0 := by decide +kernel
theorem dksX0_withNarrow_1 : cX0_withNarrow.data.toList.drop 24 = dktX0_withNarrow_1 := dk_seg dksX0_withNarrow_0 24 rfl rfl
theorem dksX0_withNarrow_2 : cX0_withNarrow.data.toList.drop 48 = dktX0_withNarrow_2 := dk_seg dksX0_withNarrow_1 24 rfl rfl
theorem dX0_withNarrow_0 : decode cX0_withNarrow 0 = .ok (.aload_n 0, 1) := dk_42 (dk_at dksX0_withNarrow_0 0 rfl rfl)
theorem dX0_withNarrow_1 : decode cX0_withNarrow 1 = .ok (.invokevirtual 13, 3) := dk_182 0 13 (dk_at dksX0_withNarrow_0 1 rfl rfl)
theorem dX0_withNarrow_4 : decode cX0_withNarrow 4 = .ok (.istore_n 2, 1) := dk_61 (dk_at dksX0_withNarrow_0 4 rfl rfl)
theorem dX0_withNarrow_5 : decode cX0_withNarrow 5 = .ok (.iload_n 2, 1) := dk_28 (dk_at dksX0_withNarrow_0 5 rfl rfl)
theorem dX0_withNarrow_6 : decode cX0_withNarrow 6 = .ok (.iload_n 1, 1) := dk_27 (dk_at dksX0_withNarrow_0 6 rfl rfl)
theorem dX0_withNarrow_7 : decode cX0_withNarrow 7 = .ok (.ldc 17, 2) := dk_18 17 (dk_at dksX0_withNarrow_0 7 rfl rfl)
theorem dX0_withNarrow_9 : decode cX0_withNarrow 9 = .ok (.iand, 1) := dk_126 (dk_at dksX0_withNarrow_0 9 rfl rfl)
theorem dX0_withNarrow_10 : decode cX0_withNarrow 10 = .ok (.bipush 9, 2) := dk_16 9 (dk_at dksX0_withNarrow_0 10 rfl rfl)
theorem dX0_withNarrow_12 : decode cX0_withNarrow 12 = .ok (.iload_n 2, 1) := dk_28 (dk_at dksX0_withNarrow_0 12 rfl rfl)
theorem dX0_withNarrow_13 : decode cX0_withNarrow 13 = .ok (.isub, 1) := dk_100 (dk_at dksX0_withNarrow_0 13 rfl rfl)
theorem dX0_withNarrow_14 : decode cX0_withNarrow 14 = .ok (.irem, 1) := dk_112 (dk_at dksX0_withNarrow_0 14 rfl rfl)
theorem dX0_withNarrow_15 : decode cX0_withNarrow 15 = .ok (.iadd, 1) := dk_96 (dk_at dksX0_withNarrow_0 15 rfl rfl)
theorem dX0_withNarrow_16 : decode cX0_withNarrow 16 = .ok (.istore_n 3, 1) := dk_62 (dk_at dksX0_withNarrow_0 16 rfl rfl)
theorem dX0_withNarrow_17 : decode cX0_withNarrow 17 = .ok (.aload_n 0, 1) := dk_42 (dk_at dksX0_withNarrow_0 17 rfl rfl)
theorem dX0_withNarrow_18 : decode cX0_withNarrow 18 = .ok (.invokevirtual 27, 3) := dk_182 0 27 (dk_at dksX0_withNarrow_0 18 rfl rfl)
theorem dX0_withNarrow_21 : decode cX0_withNarrow 21 = .ok (.ifCond .eq 38, 3) := dk_153 0 38 (dk_at dksX0_withNarrow_0 21 rfl rfl)
theorem dX0_withNarrow_24 : decode cX0_withNarrow 24 = .ok (.aload_n 0, 1) := dk_42 (dk_at dksX0_withNarrow_1 0 rfl rfl)
theorem dX0_withNarrow_25 : decode cX0_withNarrow 25 = .ok (.invokevirtual 18, 3) := dk_182 0 18 (dk_at dksX0_withNarrow_1 1 rfl rfl)
theorem dX0_withNarrow_28 : decode cX0_withNarrow 28 = .ok (.iload_n 3, 1) := dk_29 (dk_at dksX0_withNarrow_1 4 rfl rfl)
theorem dX0_withNarrow_29 : decode cX0_withNarrow 29 = .ok (.bipush 7, 2) := dk_16 7 (dk_at dksX0_withNarrow_1 5 rfl rfl)
theorem dX0_withNarrow_31 : decode cX0_withNarrow 31 = .ok (.iadd, 1) := dk_96 (dk_at dksX0_withNarrow_1 7 rfl rfl)
theorem dX0_withNarrow_32 : decode cX0_withNarrow 32 = .ok (.if_icmp .ge 27, 3) := dk_162 0 27 (dk_at dksX0_withNarrow_1 8 rfl rfl)
theorem dX0_withNarrow_35 : decode cX0_withNarrow 35 = .ok (.aload_n 0, 1) := dk_42 (dk_at dksX0_withNarrow_1 11 rfl rfl)
theorem dX0_withNarrow_36 : decode cX0_withNarrow 36 = .ok (.invokevirtual 18, 3) := dk_182 0 18 (dk_at dksX0_withNarrow_1 12 rfl rfl)
theorem dX0_withNarrow_39 : decode cX0_withNarrow 39 = .ok (.iconst 2, 1) := dk_5 (dk_at dksX0_withNarrow_1 15 rfl rfl)
theorem dX0_withNarrow_40 : decode cX0_withNarrow 40 = .ok (.iload_n 3, 1) := dk_29 (dk_at dksX0_withNarrow_1 16 rfl rfl)
theorem dX0_withNarrow_41 : decode cX0_withNarrow 41 = .ok (.imul, 1) := dk_104 (dk_at dksX0_withNarrow_1 17 rfl rfl)
theorem dX0_withNarrow_42 : decode cX0_withNarrow 42 = .ok (.iconst 4, 1) := dk_7 (dk_at dksX0_withNarrow_1 18 rfl rfl)
theorem dX0_withNarrow_43 : decode cX0_withNarrow 43 = .ok (.iadd, 1) := dk_96 (dk_at dksX0_withNarrow_1 19 rfl rfl)
theorem dX0_withNarrow_44 : decode cX0_withNarrow 44 = .ok (.if_icmp .ge 15, 3) := dk_162 0 15 (dk_at dksX0_withNarrow_1 20 rfl rfl)
theorem dX0_withNarrow_47 : decode cX0_withNarrow 47 = .ok (.aload_n 0, 1) := dk_42 (dk_at dksX0_withNarrow_1 23 rfl rfl)
theorem dX0_withNarrow_48 : decode cX0_withNarrow 48 = .ok (.getfield 7, 3) := dk_180 0 7 (dk_at dksX0_withNarrow_2 0 rfl rfl)
theorem dX0_withNarrow_51 : decode cX0_withNarrow 51 = .ok (.iload_n 3, 1) := dk_29 (dk_at dksX0_withNarrow_2 3 rfl rfl)
theorem dX0_withNarrow_52 : decode cX0_withNarrow 52 = .ok (.iconst 1, 1) := dk_4 (dk_at dksX0_withNarrow_2 4 rfl rfl)
theorem dX0_withNarrow_53 : decode cX0_withNarrow 53 = .ok (.invokestatic 21, 3) := dk_184 0 21 (dk_at dksX0_withNarrow_2 5 rfl rfl)
theorem dX0_withNarrow_56 : decode cX0_withNarrow 56 = .ok (.goto 4, 3) := dk_167 0 4 (dk_at dksX0_withNarrow_2 8 rfl rfl)
theorem dX0_withNarrow_59 : decode cX0_withNarrow 59 = .ok (.iconst (-1), 1) := dk_2 (dk_at dksX0_withNarrow_2 11 rfl rfl)
theorem dX0_withNarrow_60 : decode cX0_withNarrow 60 = .ok (.ireturn, 1) := dk_172 (dk_at dksX0_withNarrow_2 12 rfl rfl)
abbrev cX0_narrow : ByteArray := prog_1_method_5_code
def yX0_narrow : MethodName := ⟨RX0, "narrow", "()Z"⟩
def dkwX0_narrow_1 : List UInt8 := [160, 0, 5, 4, 172, 132, 3, 1, 167, 255, 235, 3, 172]
abbrev dktX0_narrow_1 : List UInt8 := dkwX0_narrow_1 ++ []
def dkwX0_narrow_0 : List UInt8 := [42, 180, 0, 7, 76, 43, 190, 61, 3, 62, 29, 28, 162, 0, 22, 43, 29, 46, 54, 4, 21, 4, 4]
abbrev dktX0_narrow_0 : List UInt8 := dkwX0_narrow_0 ++ dktX0_narrow_1
theorem dksX0_narrow_0 : cX0_narrow.data.toList.drop 0 = dktX0_narrow_0 := by decide +kernel
theorem dksX0_narrow_1 : cX0_narrow.data.toList.drop 23 = dktX0_narrow_1 := dk_seg dksX0_narrow_0 23 rfl rfl
theorem dX0_narrow_0 : decode cX0_narrow 0 = .ok (.aload_n 0, 1) := dk_42 (dk_at dksX0_narrow_0 0 rfl rfl)
theorem dX0_narrow_1 : decode cX0_narrow 1 = .ok (.getfield 7, 3) := dk_180 0 7 (dk_at dksX0_narrow_0 1 rfl rfl)
theorem dX0_narrow_4 : decode cX0_narrow 4 = .ok (.astore_n 1, 1) := dk_76 (dk_at dksX0_narrow_0 4 rfl rfl)
theorem dX0_narrow_5 : decode cX0_narrow 5 = .ok (.aload_n 1, 1) := dk_43 (dk_at dksX0_narrow_0 5 rfl rfl)
theorem dX0_narrow_6 : decode cX0_narrow 6 = .ok (.arraylength, 1) := dk_190 (dk_at dksX0_narrow_0 6 rfl rfl)
theorem dX0_narrow_7 : decode cX0_narrow 7 = .ok (.istore_n 2, 1) := dk_61 (dk_at dksX0_narrow_0 7 rfl rfl)
theorem dX0_narrow_8 : decode cX0_narrow 8 = .ok (.iconst 0, 1) := dk_3 (dk_at dksX0_narrow_0 8 rfl rfl)
theorem dX0_narrow_9 : decode cX0_narrow 9 = .ok (.istore_n 3, 1) := dk_62 (dk_at dksX0_narrow_0 9 rfl rfl)
theorem dX0_narrow_10 : decode cX0_narrow 10 = .ok (.iload_n 3, 1) := dk_29 (dk_at dksX0_narrow_0 10 rfl rfl)
theorem dX0_narrow_11 : decode cX0_narrow 11 = .ok (.iload_n 2, 1) := dk_28 (dk_at dksX0_narrow_0 11 rfl rfl)
theorem dX0_narrow_12 : decode cX0_narrow 12 = .ok (.if_icmp .ge 22, 3) := dk_162 0 22 (dk_at dksX0_narrow_0 12 rfl rfl)
theorem dX0_narrow_15 : decode cX0_narrow 15 = .ok (.aload_n 1, 1) := dk_43 (dk_at dksX0_narrow_0 15 rfl rfl)
theorem dX0_narrow_16 : decode cX0_narrow 16 = .ok (.iload_n 3, 1) := dk_29 (dk_at dksX0_narrow_0 16 rfl rfl)
theorem dX0_narrow_17 : decode cX0_narrow 17 = .ok (.iaload, 1) := dk_46 (dk_at dksX0_narrow_0 17 rfl rfl)
theorem dX0_narrow_18 : decode cX0_narrow 18 = .ok (.istore 4, 2) := dk_54 4 (dk_at dksX0_narrow_0 18 rfl rfl)
theorem dX0_narrow_20 : decode cX0_narrow 20 = .ok (.iload 4, 2) := dk_21 4 (dk_at dksX0_narrow_0 20 rfl rfl)
theorem dX0_narrow_22 : decode cX0_narrow 22 = .ok (.iconst 1, 1) := dk_4 (dk_at dksX0_narrow_0 22 rfl rfl)
theorem dX0_narrow_23 : decode cX0_narrow 23 = .ok (.if_icmp .ne 5, 3) := dk_160 0 5 (dk_at dksX0_narrow_1 0 rfl rfl)
theorem dX0_narrow_26 : decode cX0_narrow 26 = .ok (.iconst 1, 1) := dk_4 (dk_at dksX0_narrow_1 3 rfl rfl)
theorem dX0_narrow_27 : decode cX0_narrow 27 = .ok (.ireturn, 1) := dk_172 (dk_at dksX0_narrow_1 4 rfl rfl)
theorem dX0_narrow_28 : decode cX0_narrow 28 = .ok (.iinc 3 1, 3) := dk_132 3 1 (dk_at dksX0_narrow_1 5 rfl rfl)
theorem dX0_narrow_31 : decode cX0_narrow 31 = .ok (.goto (-21), 3) := dk_167 255 235 (dk_at dksX0_narrow_1 8 rfl rfl)
theorem dX0_narrow_34 : decode cX0_narrow 34 = .ok (.iconst 0, 1) := dk_3 (dk_at dksX0_narrow_1 11 rfl rfl)
theorem dX0_narrow_35 : decode cX0_narrow 35 = .ok (.ireturn, 1) := dk_172 (dk_at dksX0_narrow_1 12 rfl rfl)
abbrev cX0_width_2 : ByteArray := prog_1_method_9_code
def yX0_width_2 : MethodName := ⟨RX0, "width", "(I)I"⟩
def dkwX0_width_2_0 : List UInt8 := [42, 180, 0, 7, 27, 6, 126, 46, 172]
abbrev dktX0_width_2_0 : List UInt8 := dkwX0_width_2_0 ++ []
theorem dksX0_width_2_0 : cX0_width_2.data.toList.drop 0 = dktX0_width_2_0 := by decide +kernel
theorem dX0_width_2_0 : decode cX0_width_2 0 = .ok (.aload_n 0, 1) := dk_42 (dk_at dksX0_width_2_0 0 rfl rfl)
theorem dX0_width_2_1 : decode cX0_width_2 1 = .ok (.getfield 7, 3) := dk_180 0 7 (dk_at dksX0_width_2_0 1 rfl rfl)
theorem dX0_width_2_4 : decode cX0_width_2 4 = .ok (.iload_n 1, 1) := dk_27 (dk_at dksX0_width_2_0 4 rfl rfl)
theorem dX0_width_2_5 : decode cX0_width_2 5 = .ok (.iconst 3, 1) := dk_6 (dk_at dksX0_width_2_0 5 rfl rfl)
theorem dX0_width_2_6 : decode cX0_width_2 6 = .ok (.iand, 1) := dk_126 (dk_at dksX0_width_2_0 6 rfl rfl)
theorem dX0_width_2_7 : decode cX0_width_2 7 = .ok (.iaload, 1) := dk_46 (dk_at dksX0_width_2_0 7 rfl rfl)
theorem dX0_width_2_8 : decode cX0_width_2 8 = .ok (.ireturn, 1) := dk_172 (dk_at dksX0_width_2_0 8 rfl rfl)
theorem q7 : (Jvm.Cond.initialized "BarValueDesk") ∈ lw_all := lw_g (lw_at lw_m0 1 rfl) rfl
theorem q11 : (Jvm.Cond.instantiable "BarValueDesk" (1 : Nat)) ∈ lw_all := lw_g (lw_at lw_m0 5 rfl) rfl
theorem q13 : (Jvm.Cond.instanceMethod ({ cls := "BarValueDesk", name := "<init>", desc := "()V" } : Jvm.MethodName)) ∈ lw_all := lw_g (lw_at lw_m0 7 rfl) rfl
theorem q14 : (Jvm.Cond.code ({ cls := "BarValueDesk", name := "<init>", desc := "()V" } : Jvm.MethodName) prog_1_method_1_code (1 : Nat) (Option.none : Option Jvm.ClassFile.FieldType)) ∈ lw_all := lw_g (lw_at lw_m0 8 rfl) rfl
theorem q15 : (Jvm.Cond.methodLink "BarValueDesk" (1 : Nat) ({ cls := "java/lang/Object", name := "<init>", desc := "()V" } : Jvm.MethodName)) ∈ lw_all := lw_g (lw_at lw_m0 9 rfl) rfl
theorem q18 : (Jvm.Cond.fieldLink "BarValueDesk" (7 : Nat) "BarValueDesk" "widths" "[I") ∈ lw_all := lw_g (lw_at lw_m0 12 rfl) rfl
theorem q19 : (Jvm.Cond.laysFinal "BarValueDesk" "BarValueDesk" "widths" "[I") ∈ lw_all := lw_g (lw_at lw_m0 13 rfl) rfl
theorem q20 : (Jvm.Cond.soleField "BarValueDesk" "widths") ∈ lw_all := lw_g (lw_at lw_m0 14 rfl) rfl
theorem q21 : (Jvm.Cond.superclass "BarValueDesk" "java/lang/Object") ∈ lw_all := lw_g (lw_at lw_m0 15 rfl) rfl
theorem q24 : (Jvm.Cond.instanceMethod ({ cls := "BarValueDesk", name := "width", desc := "(II)V" } : Jvm.MethodName)) ∈ lw_all := lw_g (lw_at lw_m0 18 rfl) rfl
theorem q25 : (Jvm.Cond.selects "BarValueDesk" ({ cls := "BarValueDesk", name := "width", desc := "(II)V" } : Jvm.MethodName) ({ cls := "BarValueDesk", name := "width", desc := "(II)V" } : Jvm.MethodName)) ∈ lw_all := lw_g (lw_at lw_m0 19 rfl) rfl
theorem q26 : (Jvm.Cond.code ({ cls := "BarValueDesk", name := "width", desc := "(II)V" } : Jvm.MethodName) prog_1_method_2_code (3 : Nat) (Option.none : Option Jvm.ClassFile.FieldType)) ∈ lw_all := lw_g (lw_at lw_m0 20 rfl) rfl
theorem q28 : (Jvm.Cond.instanceMethod ({ cls := "BarValueDesk", name := "widths", desc := "(IIII)V" } : Jvm.MethodName)) ∈ lw_all := lw_g (lw_at lw_m0 22 rfl) rfl
theorem q29 : (Jvm.Cond.selects "BarValueDesk" ({ cls := "BarValueDesk", name := "widths", desc := "(IIII)V" } : Jvm.MethodName) ({ cls := "BarValueDesk", name := "widths", desc := "(IIII)V" } : Jvm.MethodName)) ∈ lw_all := lw_g (lw_at lw_m0 23 rfl) rfl
theorem q30 : (Jvm.Cond.code ({ cls := "BarValueDesk", name := "widths", desc := "(IIII)V" } : Jvm.MethodName) prog_1_method_3_code (5 : Nat) (Option.none : Option Jvm.ClassFile.FieldType)) ∈ lw_all := lw_g (lw_at lw_m0 24 rfl) rfl
theorem q32 : (Jvm.Cond.instanceMethod ({ cls := "BarValueDesk", name := "value", desc := "(I)I" } : Jvm.MethodName)) ∈ lw_all := lw_g (lw_at lw_m0 26 rfl) rfl
theorem q33 : (Jvm.Cond.selects "BarValueDesk" ({ cls := "BarValueDesk", name := "value", desc := "(I)I" } : Jvm.MethodName) ({ cls := "BarValueDesk", name := "value", desc := "(I)I" } : Jvm.MethodName)) ∈ lw_all := lw_g (lw_at lw_m0 27 rfl) rfl
theorem q34 : (Jvm.Cond.code ({ cls := "BarValueDesk", name := "value", desc := "(I)I" } : Jvm.MethodName) prog_1_method_7_code (4 : Nat) (Option.some Jvm.ClassFile.FieldType.int)) ∈ lw_all := lw_g (lw_at lw_m0 28 rfl) rfl
theorem q35 : (Jvm.Cond.methodLink "BarValueDesk" (13 : Nat) ({ cls := "BarValueDesk", name := "widest", desc := "()I" } : Jvm.MethodName)) ∈ lw_all := lw_g (lw_at lw_m0 29 rfl) rfl
theorem q36 : (Jvm.Cond.privateMethod ({ cls := "BarValueDesk", name := "widest", desc := "()I" } : Jvm.MethodName)) ∈ lw_tbl := lw_at lw_m0 30 rfl
theorem q37 : (Jvm.Cond.instanceMethod ({ cls := "BarValueDesk", name := "widest", desc := "()I" } : Jvm.MethodName)) ∈ lw_all := lw_g (lw_at lw_m0 31 rfl) rfl
theorem q38 : (Jvm.Cond.code ({ cls := "BarValueDesk", name := "widest", desc := "()I" } : Jvm.MethodName) prog_1_method_4_code (6 : Nat) (Option.some Jvm.ClassFile.FieldType.int)) ∈ lw_all := lw_g (lw_at lw_m0 32 rfl) rfl
theorem q39 : (Jvm.Cond.constant "BarValueDesk" (17 : Nat) (2147483647 : Int32)) ∈ lw_all := lw_g (lw_at lw_m0 33 rfl) rfl
theorem q40 : (Jvm.Cond.methodLink "BarValueDesk" (18 : Nat) ({ cls := "BarValueDesk", name := "sum", desc := "()I" } : Jvm.MethodName)) ∈ lw_all := lw_g (lw_at lw_m0 34 rfl) rfl
theorem q41 : (Jvm.Cond.privateMethod ({ cls := "BarValueDesk", name := "sum", desc := "()I" } : Jvm.MethodName)) ∈ lw_tbl := lw_at lw_m0 35 rfl
theorem q42 : (Jvm.Cond.instanceMethod ({ cls := "BarValueDesk", name := "sum", desc := "()I" } : Jvm.MethodName)) ∈ lw_all := lw_g (lw_at lw_m0 36 rfl) rfl
theorem q43 : (Jvm.Cond.code ({ cls := "BarValueDesk", name := "sum", desc := "()I" } : Jvm.MethodName) prog_1_method_6_code (1 : Nat) (Option.some Jvm.ClassFile.FieldType.int)) ∈ lw_all := lw_g (lw_at lw_m0 37 rfl) rfl
theorem q44 : (Jvm.Cond.methodLink "BarValueDesk" (21 : Nat) ({ cls := "RSSUtils", name := "getRSSvalue", desc := "([IIZ)I" } : Jvm.MethodName)) ∈ lw_all := lw_g (lw_at lw_m0 38 rfl) rfl
theorem q51 : (Jvm.Cond.instanceMethod ({ cls := "BarValueDesk", name := "withNarrow", desc := "(I)I" } : Jvm.MethodName)) ∈ lw_all := lw_g (lw_at lw_m0 45 rfl) rfl
theorem q52 : (Jvm.Cond.selects "BarValueDesk" ({ cls := "BarValueDesk", name := "withNarrow", desc := "(I)I" } : Jvm.MethodName) ({ cls := "BarValueDesk", name := "withNarrow", desc := "(I)I" } : Jvm.MethodName)) ∈ lw_all := lw_g (lw_at lw_m0 46 rfl) rfl
theorem q53 : (Jvm.Cond.code ({ cls := "BarValueDesk", name := "withNarrow", desc := "(I)I" } : Jvm.MethodName) prog_1_method_8_code (4 : Nat) (Option.some Jvm.ClassFile.FieldType.int)) ∈ lw_all := lw_g (lw_at lw_m0 47 rfl) rfl
theorem q54 : (Jvm.Cond.methodLink "BarValueDesk" (27 : Nat) ({ cls := "BarValueDesk", name := "narrow", desc := "()Z" } : Jvm.MethodName)) ∈ lw_all := lw_g (lw_at lw_m0 48 rfl) rfl
theorem q55 : (Jvm.Cond.privateMethod ({ cls := "BarValueDesk", name := "narrow", desc := "()Z" } : Jvm.MethodName)) ∈ lw_tbl := lw_at lw_m0 49 rfl
theorem q56 : (Jvm.Cond.instanceMethod ({ cls := "BarValueDesk", name := "narrow", desc := "()Z" } : Jvm.MethodName)) ∈ lw_all := lw_g (lw_at lw_m0 50 rfl) rfl
theorem q57 : (Jvm.Cond.code ({ cls := "BarValueDesk", name := "narrow", desc := "()Z" } : Jvm.MethodName) prog_1_method_5_code (5 : Nat) (Option.some Jvm.ClassFile.FieldType.boolean)) ∈ lw_all := lw_g (lw_at lw_m0 51 rfl) rfl
theorem q59 : (Jvm.Cond.instanceMethod ({ cls := "BarValueDesk", name := "width", desc := "(I)I" } : Jvm.MethodName)) ∈ lw_all := lw_g (lw_at lw_m0 53 rfl) rfl
theorem q60 : (Jvm.Cond.selects "BarValueDesk" ({ cls := "BarValueDesk", name := "width", desc := "(I)I" } : Jvm.MethodName) ({ cls := "BarValueDesk", name := "width", desc := "(I)I" } : Jvm.MethodName)) ∈ lw_all := lw_g (lw_at lw_m0 54 rfl) rfl
theorem q61 : (Jvm.Cond.code ({ cls := "BarValueDesk", name := "width", desc := "(I)I" } : Jvm.MethodName) prog_1_method_9_code (2 : Nat) (Option.some Jvm.ClassFile.FieldType.int)) ∈ lw_all := lw_g (lw_at lw_m0 55 rfl) rfl
theorem in_X0 : ∀ w ∈ wsX00, w ∈ lw_all := lw_in wsX00 [19] (by decide +kernel) (by decide +kernel)

/-! BarValueDeskModel -/
set_option maxRecDepth 100000
def RX1 : String := "BarValueDeskModel"
def TX1 : u_T := fun k => match k with
  | _ => ("BarValueDeskModel", "widths", "[I", true)
def tyX1 : Nat → FieldType := fun k => match k with
  | _ => .array .int
abbrev wsX10 : List Cond := u_ws RX1 TX1 1
theorem nmX1 : ∀ a, a < 1 → ∀ b, b < 1 → a ≠ b → (TX1 a).2.1 ≠ (TX1 b).2.1 := by decide +kernel
theorem tyX1_ok : ∀ k, k < 1 → parseFieldDescriptor (TX1 k).2.2.1 = some (tyX1 k) := by decide +kernel
abbrev cX1_init : ByteArray := prog_3_method_1_code
def yX1_init : MethodName := ⟨RX1, "<init>", "()V"⟩
def dkwX1_init_1 : List UInt8 := [181, 0, 7, 177]
abbrev dktX1_init_1 : List UInt8 := dkwX1_init_1 ++ []
def dkwX1_init_0 : List UInt8 := [42, 183, 0, 1, 42, 7, 188, 10, 89, 3, 4, 79, 89, 4, 4, 79, 89, 5, 4, 79, 89, 6, 4, 79]
abbrev dktX1_init_0 : List UInt8 := dkwX1_init_0 ++ dktX1_init_1
theorem dksX1_init_0 : cX1_init.data.toList.drop 0 = dktX1_init_0 := by decide +kernel
theorem dksX1_init_1 : cX1_init.data.toList.drop 24 = dktX1_init_1 := dk_seg dksX1_init_0 24 rfl rfl
theorem dX1_init_0 : decode cX1_init 0 = .ok (.aload_n 0, 1) := dk_42 (dk_at dksX1_init_0 0 rfl rfl)
theorem dX1_init_1 : decode cX1_init 1 = .ok (.invokespecial 1, 3) := dk_183 0 1 (dk_at dksX1_init_0 1 rfl rfl)
theorem dX1_init_4 : decode cX1_init 4 = .ok (.aload_n 0, 1) := dk_42 (dk_at dksX1_init_0 4 rfl rfl)
theorem dX1_init_5 : decode cX1_init 5 = .ok (.iconst 4, 1) := dk_7 (dk_at dksX1_init_0 5 rfl rfl)
theorem dX1_init_6 : decode cX1_init 6 = .ok (.newarray .int, 2) := dk_188_10 (dk_at dksX1_init_0 6 rfl rfl)
theorem dX1_init_8 : decode cX1_init 8 = .ok (.dup, 1) := dk_89 (dk_at dksX1_init_0 8 rfl rfl)
theorem dX1_init_9 : decode cX1_init 9 = .ok (.iconst 0, 1) := dk_3 (dk_at dksX1_init_0 9 rfl rfl)
theorem dX1_init_10 : decode cX1_init 10 = .ok (.iconst 1, 1) := dk_4 (dk_at dksX1_init_0 10 rfl rfl)
theorem dX1_init_11 : decode cX1_init 11 = .ok (.iastore, 1) := dk_79 (dk_at dksX1_init_0 11 rfl rfl)
theorem dX1_init_12 : decode cX1_init 12 = .ok (.dup, 1) := dk_89 (dk_at dksX1_init_0 12 rfl rfl)
theorem dX1_init_13 : decode cX1_init 13 = .ok (.iconst 1, 1) := dk_4 (dk_at dksX1_init_0 13 rfl rfl)
theorem dX1_init_14 : decode cX1_init 14 = .ok (.iconst 1, 1) := dk_4 (dk_at dksX1_init_0 14 rfl rfl)
theorem dX1_init_15 : decode cX1_init 15 = .ok (.iastore, 1) := dk_79 (dk_at dksX1_init_0 15 rfl rfl)
theorem dX1_init_16 : decode cX1_init 16 = .ok (.dup, 1) := dk_89 (dk_at dksX1_init_0 16 rfl rfl)
theorem dX1_init_17 : decode cX1_init 17 = .ok (.iconst 2, 1) := dk_5 (dk_at dksX1_init_0 17 rfl rfl)
theorem dX1_init_18 : decode cX1_init 18 = .ok (.iconst 1, 1) := dk_4 (dk_at dksX1_init_0 18 rfl rfl)
theorem dX1_init_19 : decode cX1_init 19 = .ok (.iastore, 1) := dk_79 (dk_at dksX1_init_0 19 rfl rfl)
theorem dX1_init_20 : decode cX1_init 20 = .ok (.dup, 1) := dk_89 (dk_at dksX1_init_0 20 rfl rfl)
theorem dX1_init_21 : decode cX1_init 21 = .ok (.iconst 3, 1) := dk_6 (dk_at dksX1_init_0 21 rfl rfl)
theorem dX1_init_22 : decode cX1_init 22 = .ok (.iconst 1, 1) := dk_4 (dk_at dksX1_init_0 22 rfl rfl)
theorem dX1_init_23 : decode cX1_init 23 = .ok (.iastore, 1) := dk_79 (dk_at dksX1_init_0 23 rfl rfl)
theorem dX1_init_24 : decode cX1_init 24 = .ok (.putfield 7, 3) := dk_181 0 7 (dk_at dksX1_init_1 0 rfl rfl)
theorem dX1_init_27 : decode cX1_init 27 = .ok (.return_, 1) := dk_177 (dk_at dksX1_init_1 3 rfl rfl)
abbrev cX1_width : ByteArray := prog_3_method_2_code
def yX1_width : MethodName := ⟨RX1, "width", "(II)V"⟩
def dkwX1_width_0 : List UInt8 := [42, 180, 0, 7, 27, 6, 126, 4, 28, 16, 7, 126, 96, 79, 177]
abbrev dktX1_width_0 : List UInt8 := dkwX1_width_0 ++ []
theorem dksX1_width_0 : cX1_width.data.toList.drop 0 = dktX1_width_0 := by decide +kernel
theorem dX1_width_0 : decode cX1_width 0 = .ok (.aload_n 0, 1) := dk_42 (dk_at dksX1_width_0 0 rfl rfl)
theorem dX1_width_1 : decode cX1_width 1 = .ok (.getfield 7, 3) := dk_180 0 7 (dk_at dksX1_width_0 1 rfl rfl)
theorem dX1_width_4 : decode cX1_width 4 = .ok (.iload_n 1, 1) := dk_27 (dk_at dksX1_width_0 4 rfl rfl)
theorem dX1_width_5 : decode cX1_width 5 = .ok (.iconst 3, 1) := dk_6 (dk_at dksX1_width_0 5 rfl rfl)
theorem dX1_width_6 : decode cX1_width 6 = .ok (.iand, 1) := dk_126 (dk_at dksX1_width_0 6 rfl rfl)
theorem dX1_width_7 : decode cX1_width 7 = .ok (.iconst 1, 1) := dk_4 (dk_at dksX1_width_0 7 rfl rfl)
theorem dX1_width_8 : decode cX1_width 8 = .ok (.iload_n 2, 1) := dk_28 (dk_at dksX1_width_0 8 rfl rfl)
theorem dX1_width_9 : decode cX1_width 9 = .ok (.bipush 7, 2) := dk_16 7 (dk_at dksX1_width_0 9 rfl rfl)
theorem dX1_width_11 : decode cX1_width 11 = .ok (.iand, 1) := dk_126 (dk_at dksX1_width_0 11 rfl rfl)
theorem dX1_width_12 : decode cX1_width 12 = .ok (.iadd, 1) := dk_96 (dk_at dksX1_width_0 12 rfl rfl)
theorem dX1_width_13 : decode cX1_width 13 = .ok (.iastore, 1) := dk_79 (dk_at dksX1_width_0 13 rfl rfl)
theorem dX1_width_14 : decode cX1_width 14 = .ok (.return_, 1) := dk_177 (dk_at dksX1_width_0 14 rfl rfl)
abbrev cX1_widths : ByteArray := prog_3_method_3_code
def yX1_widths : MethodName := ⟨RX1, "widths", "(IIII)V"⟩
def dkwX1_widths_1 : List UInt8 := [182, 0, 13, 177]
abbrev dktX1_widths_1 : List UInt8 := dkwX1_widths_1 ++ []
def dkwX1_widths_0 : List UInt8 := [42, 3, 27, 182, 0, 13, 42, 4, 28, 182, 0, 13, 42, 5, 29, 182, 0, 13, 42, 6, 21, 4]
abbrev dktX1_widths_0 : List UInt8 := dkwX1_widths_0 ++ dktX1_widths_1
theorem dksX1_widths_0 : cX1_widths.data.toList.drop 0 = dktX1_widths_0 := by decide +kernel
theorem dksX1_widths_1 : cX1_widths.data.toList.drop 22 = dktX1_widths_1 := dk_seg dksX1_widths_0 22 rfl rfl
theorem dX1_widths_0 : decode cX1_widths 0 = .ok (.aload_n 0, 1) := dk_42 (dk_at dksX1_widths_0 0 rfl rfl)
theorem dX1_widths_1 : decode cX1_widths 1 = .ok (.iconst 0, 1) := dk_3 (dk_at dksX1_widths_0 1 rfl rfl)
theorem dX1_widths_2 : decode cX1_widths 2 = .ok (.iload_n 1, 1) := dk_27 (dk_at dksX1_widths_0 2 rfl rfl)
theorem dX1_widths_3 : decode cX1_widths 3 = .ok (.invokevirtual 13, 3) := dk_182 0 13 (dk_at dksX1_widths_0 3 rfl rfl)
theorem dX1_widths_6 : decode cX1_widths 6 = .ok (.aload_n 0, 1) := dk_42 (dk_at dksX1_widths_0 6 rfl rfl)
theorem dX1_widths_7 : decode cX1_widths 7 = .ok (.iconst 1, 1) := dk_4 (dk_at dksX1_widths_0 7 rfl rfl)
theorem dX1_widths_8 : decode cX1_widths 8 = .ok (.iload_n 2, 1) := dk_28 (dk_at dksX1_widths_0 8 rfl rfl)
theorem dX1_widths_9 : decode cX1_widths 9 = .ok (.invokevirtual 13, 3) := dk_182 0 13 (dk_at dksX1_widths_0 9 rfl rfl)
theorem dX1_widths_12 : decode cX1_widths 12 = .ok (.aload_n 0, 1) := dk_42 (dk_at dksX1_widths_0 12 rfl rfl)
theorem dX1_widths_13 : decode cX1_widths 13 = .ok (.iconst 2, 1) := dk_5 (dk_at dksX1_widths_0 13 rfl rfl)
theorem dX1_widths_14 : decode cX1_widths 14 = .ok (.iload_n 3, 1) := dk_29 (dk_at dksX1_widths_0 14 rfl rfl)
theorem dX1_widths_15 : decode cX1_widths 15 = .ok (.invokevirtual 13, 3) := dk_182 0 13 (dk_at dksX1_widths_0 15 rfl rfl)
theorem dX1_widths_18 : decode cX1_widths 18 = .ok (.aload_n 0, 1) := dk_42 (dk_at dksX1_widths_0 18 rfl rfl)
theorem dX1_widths_19 : decode cX1_widths 19 = .ok (.iconst 3, 1) := dk_6 (dk_at dksX1_widths_0 19 rfl rfl)
theorem dX1_widths_20 : decode cX1_widths 20 = .ok (.iload 4, 2) := dk_21 4 (dk_at dksX1_widths_0 20 rfl rfl)
theorem dX1_widths_22 : decode cX1_widths 22 = .ok (.invokevirtual 13, 3) := dk_182 0 13 (dk_at dksX1_widths_1 0 rfl rfl)
theorem dX1_widths_25 : decode cX1_widths 25 = .ok (.return_, 1) := dk_177 (dk_at dksX1_widths_1 3 rfl rfl)
abbrev cX1_width_2 : ByteArray := prog_3_method_4_code
def yX1_width_2 : MethodName := ⟨RX1, "width", "(I)I"⟩
def dkwX1_width_2_0 : List UInt8 := [42, 180, 0, 7, 27, 6, 126, 46, 172]
abbrev dktX1_width_2_0 : List UInt8 := dkwX1_width_2_0 ++ []
theorem dksX1_width_2_0 : cX1_width_2.data.toList.drop 0 = dktX1_width_2_0 := by decide +kernel
theorem dX1_width_2_0 : decode cX1_width_2 0 = .ok (.aload_n 0, 1) := dk_42 (dk_at dksX1_width_2_0 0 rfl rfl)
theorem dX1_width_2_1 : decode cX1_width_2 1 = .ok (.getfield 7, 3) := dk_180 0 7 (dk_at dksX1_width_2_0 1 rfl rfl)
theorem dX1_width_2_4 : decode cX1_width_2 4 = .ok (.iload_n 1, 1) := dk_27 (dk_at dksX1_width_2_0 4 rfl rfl)
theorem dX1_width_2_5 : decode cX1_width_2 5 = .ok (.iconst 3, 1) := dk_6 (dk_at dksX1_width_2_0 5 rfl rfl)
theorem dX1_width_2_6 : decode cX1_width_2 6 = .ok (.iand, 1) := dk_126 (dk_at dksX1_width_2_0 6 rfl rfl)
theorem dX1_width_2_7 : decode cX1_width_2 7 = .ok (.iaload, 1) := dk_46 (dk_at dksX1_width_2_0 7 rfl rfl)
theorem dX1_width_2_8 : decode cX1_width_2 8 = .ok (.ireturn, 1) := dk_172 (dk_at dksX1_width_2_0 8 rfl rfl)
abbrev cX1_value : ByteArray := prog_3_method_8_code
def yX1_value : MethodName := ⟨RX1, "value", "(I)I"⟩
def dkwX1_value_1 : List UInt8 := [167, 0, 4, 2, 172]
abbrev dktX1_value_1 : List UInt8 := dkwX1_value_1 ++ []
def dkwX1_value_0 : List UInt8 := [42, 27, 182, 0, 22, 61, 42, 182, 0, 18, 5, 28, 104, 7, 96, 162, 0, 12, 42, 28, 3, 182, 0, 26]
abbrev dktX1_value_0 : List UInt8 := dkwX1_value_0 ++ dktX1_value_1
theorem dksX1_value_0 : cX1_value.data.toList.drop 0 = dktX1_value_0 := by decide +kernel
theorem dksX1_value_1 : cX1_value.data.toList.drop 24 = dktX1_value_1 := dk_seg dksX1_value_0 24 rfl rfl
theorem dX1_value_0 : decode cX1_value 0 = .ok (.aload_n 0, 1) := dk_42 (dk_at dksX1_value_0 0 rfl rfl)
theorem dX1_value_1 : decode cX1_value 1 = .ok (.iload_n 1, 1) := dk_27 (dk_at dksX1_value_0 1 rfl rfl)
theorem dX1_value_2 : decode cX1_value 2 = .ok (.invokevirtual 22, 3) := dk_182 0 22 (dk_at dksX1_value_0 2 rfl rfl)
theorem dX1_value_5 : decode cX1_value 5 = .ok (.istore_n 2, 1) := dk_61 (dk_at dksX1_value_0 5 rfl rfl)
theorem dX1_value_6 : decode cX1_value 6 = .ok (.aload_n 0, 1) := dk_42 (dk_at dksX1_value_0 6 rfl rfl)
theorem dX1_value_7 : decode cX1_value 7 = .ok (.invokevirtual 18, 3) := dk_182 0 18 (dk_at dksX1_value_0 7 rfl rfl)
theorem dX1_value_10 : decode cX1_value 10 = .ok (.iconst 2, 1) := dk_5 (dk_at dksX1_value_0 10 rfl rfl)
theorem dX1_value_11 : decode cX1_value 11 = .ok (.iload_n 2, 1) := dk_28 (dk_at dksX1_value_0 11 rfl rfl)
theorem dX1_value_12 : decode cX1_value 12 = .ok (.imul, 1) := dk_104 (dk_at dksX1_value_0 12 rfl rfl)
theorem dX1_value_13 : decode cX1_value 13 = .ok (.iconst 4, 1) := dk_7 (dk_at dksX1_value_0 13 rfl rfl)
theorem dX1_value_14 : decode cX1_value 14 = .ok (.iadd, 1) := dk_96 (dk_at dksX1_value_0 14 rfl rfl)
theorem dX1_value_15 : decode cX1_value 15 = .ok (.if_icmp .ge 12, 3) := dk_162 0 12 (dk_at dksX1_value_0 15 rfl rfl)
theorem dX1_value_18 : decode cX1_value 18 = .ok (.aload_n 0, 1) := dk_42 (dk_at dksX1_value_0 18 rfl rfl)
theorem dX1_value_19 : decode cX1_value 19 = .ok (.iload_n 2, 1) := dk_28 (dk_at dksX1_value_0 19 rfl rfl)
theorem dX1_value_20 : decode cX1_value 20 = .ok (.iconst 0, 1) := dk_3 (dk_at dksX1_value_0 20 rfl rfl)
theorem dX1_value_21 : decode cX1_value 21 = .ok (.invokevirtual 26, 3) := dk_182 0 26 (dk_at dksX1_value_0 21 rfl rfl)
theorem dX1_value_24 : decode cX1_value 24 = .ok (.goto 4, 3) := dk_167 0 4 (dk_at dksX1_value_1 0 rfl rfl)
theorem dX1_value_27 : decode cX1_value 27 = .ok (.iconst (-1), 1) := dk_2 (dk_at dksX1_value_1 3 rfl rfl)
theorem dX1_value_28 : decode cX1_value 28 = .ok (.ireturn, 1) := dk_172 (dk_at dksX1_value_1 4 rfl rfl)
abbrev cX1_most : ByteArray := prog_3_method_5_code
def yX1_most : MethodName := ⟨RX1, "most", "(I)I"⟩
def dkwX1_most_2 : List UInt8 := [18, 17, 126, 16, 9, 28, 100, 112, 96, 172]
abbrev dktX1_most_2 : List UInt8 := dkwX1_most_2 ++ []
def dkwX1_most_1 : List UInt8 := [46, 54, 6, 21, 6, 28, 164, 0, 8, 21, 6, 167, 0, 4, 28, 61, 132, 5, 1, 167, 255, 227, 28, 27]
abbrev dktX1_most_1 : List UInt8 := dkwX1_most_1 ++ dktX1_most_2
def dkwX1_most_0 : List UInt8 := [4, 61, 42, 180, 0, 7, 78, 45, 190, 54, 4, 3, 54, 5, 21, 5, 21, 4, 162, 0, 28, 45, 21, 5]
abbrev dktX1_most_0 : List UInt8 := dkwX1_most_0 ++ dktX1_most_1
theorem dksX1_most_0 : cX1_most.data.toList.drop 0 = dktX1_most_0 := by decide +kernel
theorem dksX1_most_1 : cX1_most.data.toList.drop 24 = dktX1_most_1 := dk_seg dksX1_most_0 24 rfl rfl
theorem dksX1_most_2 : cX1_most.data.toList.drop 48 = dktX1_most_2 := dk_seg dksX1_most_1 24 rfl rfl
theorem dX1_most_0 : decode cX1_most 0 = .ok (.iconst 1, 1) := dk_4 (dk_at dksX1_most_0 0 rfl rfl)
theorem dX1_most_1 : decode cX1_most 1 = .ok (.istore_n 2, 1) := dk_61 (dk_at dksX1_most_0 1 rfl rfl)
theorem dX1_most_2 : decode cX1_most 2 = .ok (.aload_n 0, 1) := dk_42 (dk_at dksX1_most_0 2 rfl rfl)
theorem dX1_most_3 : decode cX1_most 3 = .ok (.getfield 7, 3) := dk_180 0 7 (dk_at dksX1_most_0 3 rfl rfl)
theorem dX1_most_6 : decode cX1_most 6 = .ok (.astore_n 3, 1) := dk_78 (dk_at dksX1_most_0 6 rfl rfl)
theorem dX1_most_7 : decode cX1_most 7 = .ok (.aload_n 3, 1) := dk_45 (dk_at dksX1_most_0 7 rfl rfl)
theorem dX1_most_8 : decode cX1_most 8 = .ok (.arraylength, 1) := dk_190 (dk_at dksX1_most_0 8 rfl rfl)
theorem dX1_most_9 : decode cX1_most 9 = .ok (.istore 4, 2) := dk_54 4 (dk_at dksX1_most_0 9 rfl rfl)
theorem dX1_most_11 : decode cX1_most 11 = .ok (.iconst 0, 1) := dk_3 (dk_at dksX1_most_0 11 rfl rfl)
theorem dX1_most_12 : decode cX1_most 12 = .ok (.istore 5, 2) := dk_54 5 (dk_at dksX1_most_0 12 rfl rfl)
theorem dX1_most_14 : decode cX1_most 14 = .ok (.iload 5, 2) := dk_21 5 (dk_at dksX1_most_0 14 rfl rfl)
theorem dX1_most_16 : decode cX1_most 16 = .ok (.iload 4, 2) := dk_21 4 (dk_at dksX1_most_0 16 rfl rfl)
theorem dX1_most_18 : decode cX1_most 18 = .ok (.if_icmp .ge 28, 3) := dk_162 0 28 (dk_at dksX1_most_0 18 rfl rfl)
theorem dX1_most_21 : decode cX1_most 21 = .ok (.aload_n 3, 1) := dk_45 (dk_at dksX1_most_0 21 rfl rfl)
theorem dX1_most_22 : decode cX1_most 22 = .ok (.iload 5, 2) := dk_21 5 (dk_at dksX1_most_0 22 rfl rfl)
theorem dX1_most_24 : decode cX1_most 24 = .ok (.iaload, 1) := dk_46 (dk_at dksX1_most_1 0 rfl rfl)
theorem dX1_most_25 : decode cX1_most 25 = .ok (.istore 6, 2) := dk_54 6 (dk_at dksX1_most_1 1 rfl rfl)
theorem dX1_most_27 : decode cX1_most 27 = .ok (.iload 6, 2) := dk_21 6 (dk_at dksX1_most_1 3 rfl rfl)
theorem dX1_most_29 : decode cX1_most 29 = .ok (.iload_n 2, 1) := dk_28 (dk_at dksX1_most_1 5 rfl rfl)
theorem dX1_most_30 : decode cX1_most 30 = .ok (.if_icmp .le 8, 3) := dk_164 0 8 (dk_at dksX1_most_1 6 rfl rfl)
theorem dX1_most_33 : decode cX1_most 33 = .ok (.iload 6, 2) := dk_21 6 (dk_at dksX1_most_1 9 rfl rfl)
theorem dX1_most_35 : decode cX1_most 35 = .ok (.goto 4, 3) := dk_167 0 4 (dk_at dksX1_most_1 11 rfl rfl)
theorem dX1_most_38 : decode cX1_most 38 = .ok (.iload_n 2, 1) := dk_28 (dk_at dksX1_most_1 14 rfl rfl)
theorem dX1_most_39 : decode cX1_most 39 = .ok (.istore_n 2, 1) := dk_61 (dk_at dksX1_most_1 15 rfl rfl)
theorem dX1_most_40 : decode cX1_most 40 = .ok (.iinc 5 1, 3) := dk_132 5 1 (dk_at dksX1_most_1 16 rfl rfl)
theorem dX1_most_43 : decode cX1_most 43 = .ok (.goto (-29), 3) := dk_167 255 227 (dk_at dksX1_most_1 19 rfl rfl)
theorem dX1_most_46 : decode cX1_most 46 = .ok (.iload_n 2, 1) := dk_28 (dk_at dksX1_most_1 22 rfl rfl)
theorem dX1_most_47 : decode cX1_most 47 = .ok (.iload_n 1, 1) := dk_27 (dk_at dksX1_most_1 23 rfl rfl)
theorem dX1_most_48 : decode cX1_most 48 = .ok (.ldc 17, 2) := dk_18 17 (dk_at dksX1_most_2 0 rfl rfl)
theorem dX1_most_50 : decode cX1_most 50 = .ok (.iand, 1) := dk_126 (dk_at dksX1_most_2 2 rfl rfl)
theorem dX1_most_51 : decode cX1_most 51 = .ok (.bipush 9, 2) := dk_16 9 (dk_at dksX1_most_2 3 rfl rfl)
theorem dX1_most_53 : decode cX1_most 53 = .ok (.iload_n 2, 1) := dk_28 (dk_at dksX1_most_2 5 rfl rfl)
theorem dX1_most_54 : decode cX1_most 54 = .ok (.isub, 1) := dk_100 (dk_at dksX1_most_2 6 rfl rfl)
theorem dX1_most_55 : decode cX1_most 55 = .ok (.irem, 1) := dk_112 (dk_at dksX1_most_2 7 rfl rfl)
theorem dX1_most_56 : decode cX1_most 56 = .ok (.iadd, 1) := dk_96 (dk_at dksX1_most_2 8 rfl rfl)
theorem dX1_most_57 : decode cX1_most 57 = .ok (.ireturn, 1) := dk_172 (dk_at dksX1_most_2 9 rfl rfl)
abbrev cX1_sum : ByteArray := prog_3_method_7_code
def yX1_sum : MethodName := ⟨RX1, "sum", "()I"⟩
def dkwX1_sum_1 : List UInt8 := [6, 46, 96, 172]
abbrev dktX1_sum_1 : List UInt8 := dkwX1_sum_1 ++ []
def dkwX1_sum_0 : List UInt8 := [42, 180, 0, 7, 3, 46, 42, 180, 0, 7, 4, 46, 96, 42, 180, 0, 7, 5, 46, 96, 42, 180, 0, 7]
abbrev dktX1_sum_0 : List UInt8 := dkwX1_sum_0 ++ dktX1_sum_1
theorem dksX1_sum_0 : cX1_sum.data.toList.drop 0 = dktX1_sum_0 := by decide +kernel
theorem dksX1_sum_1 : cX1_sum.data.toList.drop 24 = dktX1_sum_1 := dk_seg dksX1_sum_0 24 rfl rfl
theorem dX1_sum_0 : decode cX1_sum 0 = .ok (.aload_n 0, 1) := dk_42 (dk_at dksX1_sum_0 0 rfl rfl)
theorem dX1_sum_1 : decode cX1_sum 1 = .ok (.getfield 7, 3) := dk_180 0 7 (dk_at dksX1_sum_0 1 rfl rfl)
theorem dX1_sum_4 : decode cX1_sum 4 = .ok (.iconst 0, 1) := dk_3 (dk_at dksX1_sum_0 4 rfl rfl)
theorem dX1_sum_5 : decode cX1_sum 5 = .ok (.iaload, 1) := dk_46 (dk_at dksX1_sum_0 5 rfl rfl)
theorem dX1_sum_6 : decode cX1_sum 6 = .ok (.aload_n 0, 1) := dk_42 (dk_at dksX1_sum_0 6 rfl rfl)
theorem dX1_sum_7 : decode cX1_sum 7 = .ok (.getfield 7, 3) := dk_180 0 7 (dk_at dksX1_sum_0 7 rfl rfl)
theorem dX1_sum_10 : decode cX1_sum 10 = .ok (.iconst 1, 1) := dk_4 (dk_at dksX1_sum_0 10 rfl rfl)
theorem dX1_sum_11 : decode cX1_sum 11 = .ok (.iaload, 1) := dk_46 (dk_at dksX1_sum_0 11 rfl rfl)
theorem dX1_sum_12 : decode cX1_sum 12 = .ok (.iadd, 1) := dk_96 (dk_at dksX1_sum_0 12 rfl rfl)
theorem dX1_sum_13 : decode cX1_sum 13 = .ok (.aload_n 0, 1) := dk_42 (dk_at dksX1_sum_0 13 rfl rfl)
theorem dX1_sum_14 : decode cX1_sum 14 = .ok (.getfield 7, 3) := dk_180 0 7 (dk_at dksX1_sum_0 14 rfl rfl)
theorem dX1_sum_17 : decode cX1_sum 17 = .ok (.iconst 2, 1) := dk_5 (dk_at dksX1_sum_0 17 rfl rfl)
theorem dX1_sum_18 : decode cX1_sum 18 = .ok (.iaload, 1) := dk_46 (dk_at dksX1_sum_0 18 rfl rfl)
theorem dX1_sum_19 : decode cX1_sum 19 = .ok (.iadd, 1) := dk_96 (dk_at dksX1_sum_0 19 rfl rfl)
theorem dX1_sum_20 : decode cX1_sum 20 = .ok (.aload_n 0, 1) := dk_42 (dk_at dksX1_sum_0 20 rfl rfl)
theorem dX1_sum_21 : decode cX1_sum 21 = .ok (.getfield 7, 3) := dk_180 0 7 (dk_at dksX1_sum_0 21 rfl rfl)
theorem dX1_sum_24 : decode cX1_sum 24 = .ok (.iconst 3, 1) := dk_6 (dk_at dksX1_sum_1 0 rfl rfl)
theorem dX1_sum_25 : decode cX1_sum 25 = .ok (.iaload, 1) := dk_46 (dk_at dksX1_sum_1 1 rfl rfl)
theorem dX1_sum_26 : decode cX1_sum 26 = .ok (.iadd, 1) := dk_96 (dk_at dksX1_sum_1 2 rfl rfl)
theorem dX1_sum_27 : decode cX1_sum 27 = .ok (.ireturn, 1) := dk_172 (dk_at dksX1_sum_1 3 rfl rfl)
abbrev cX1_ahead : ByteArray := prog_3_method_6_code
def yX1_ahead : MethodName := ⟨RX1, "ahead", "(IZ)I"⟩
def dkwX1_ahead_8 : List UInt8 := [96, 54, 4, 132, 7, 1, 167, 255, 90, 132, 6, 1, 167, 255, 75, 132, 5, 1, 167, 255, 60, 21, 4, 172]
abbrev dktX1_ahead_8 : List UInt8 := dkwX1_ahead_8 ++ []
def dkwX1_ahead_7 : List UInt8 := [4, 167, 0, 4, 3, 54, 10, 21, 4, 21, 9, 153, 0, 12, 21, 10, 153, 0, 7, 4, 167, 0, 4, 3]
abbrev dktX1_ahead_7 : List UInt8 := dkwX1_ahead_7 ++ dktX1_ahead_8
def dkwX1_ahead_6 : List UInt8 := [4, 46, 162, 0, 7, 4, 167, 0, 23, 3, 167, 0, 19, 21, 7, 42, 180, 0, 7, 5, 46, 162, 0, 7]
abbrev dktX1_ahead_6 : List UInt8 := dkwX1_ahead_6 ++ dktX1_ahead_7
def dkwX1_ahead_5 : List UInt8 := [167, 0, 53, 3, 167, 0, 49, 21, 6, 42, 180, 0, 7, 4, 46, 159, 0, 22, 21, 6, 42, 180, 0, 7]
abbrev dktX1_ahead_5 : List UInt8 := dkwX1_ahead_5 ++ dktX1_ahead_6
def dkwX1_ahead_4 : List UInt8 := [21, 5, 42, 180, 0, 7, 3, 46, 159, 0, 22, 21, 5, 42, 180, 0, 7, 3, 46, 162, 0, 7, 4]
abbrev dktX1_ahead_4 : List UInt8 := dkwX1_ahead_4 ++ dktX1_ahead_5
def dkwX1_ahead_3 : List UInt8 := [4, 159, 0, 15, 21, 7, 4, 159, 0, 9, 21, 8, 4, 160, 0, 7, 4, 167, 0, 4, 3, 54, 9]
abbrev dktX1_ahead_3 : List UInt8 := dkwX1_ahead_3 ++ dktX1_ahead_4
def dkwX1_ahead_2 : List UInt8 := [21, 8, 4, 161, 0, 41, 21, 8, 27, 163, 0, 35, 28, 153, 0, 27, 21, 5, 4, 159, 0, 21, 21, 6]
abbrev dktX1_ahead_2 : List UInt8 := dkwX1_ahead_2 ++ dktX1_ahead_3
def dkwX1_ahead_1 : List UInt8 := [163, 0, 181, 4, 54, 7, 21, 7, 27, 163, 0, 166, 29, 21, 5, 100, 21, 6, 100, 21, 7, 100, 54, 8]
abbrev dktX1_ahead_1 : List UInt8 := dkwX1_ahead_1 ++ dktX1_ahead_2
def dkwX1_ahead_0 : List UInt8 := [42, 182, 0, 18, 62, 3, 54, 4, 4, 54, 5, 21, 5, 27, 163, 0, 196, 4, 54, 6, 21, 6, 27]
abbrev dktX1_ahead_0 : List UInt8 := dkwX1_ahead_0 ++ dktX1_ahead_1
theorem dksX1_ahead_0 : cX1_ahead.data.toList.drop 0 = dktX1_ahead_0 := by decide +kernel
theorem dksX1_ahead_1 : cX1_ahead.data.toList.drop 23 = dktX1_ahead_1 := dk_seg dksX1_ahead_0 23 rfl rfl
theorem dksX1_ahead_2 : cX1_ahead.data.toList.drop 47 = dktX1_ahead_2 := dk_seg dksX1_ahead_1 24 rfl rfl
theorem dksX1_ahead_3 : cX1_ahead.data.toList.drop 71 = dktX1_ahead_3 := dk_seg dksX1_ahead_2 24 rfl rfl
theorem dksX1_ahead_4 : cX1_ahead.data.toList.drop 94 = dktX1_ahead_4 := dk_seg dksX1_ahead_3 23 rfl rfl
theorem dksX1_ahead_5 : cX1_ahead.data.toList.drop 117 = dktX1_ahead_5 := dk_seg dksX1_ahead_4 23 rfl rfl
theorem dksX1_ahead_6 : cX1_ahead.data.toList.drop 141 = dktX1_ahead_6 := dk_seg dksX1_ahead_5 24 rfl rfl
theorem dksX1_ahead_7 : cX1_ahead.data.toList.drop 165 = dktX1_ahead_7 := dk_seg dksX1_ahead_6 24 rfl rfl
theorem dksX1_ahead_8 : cX1_ahead.data.toList.drop 189 = dktX1_ahead_8 := dk_seg dksX1_ahead_7 24 rfl rfl
theorem dX1_ahead_0 : decode cX1_ahead 0 = .ok (.aload_n 0, 1) := dk_42 (dk_at dksX1_ahead_0 0 rfl rfl)
theorem dX1_ahead_1 : decode cX1_ahead 1 = .ok (.invokevirtual 18, 3) := dk_182 0 18 (dk_at dksX1_ahead_0 1 rfl rfl)
theorem dX1_ahead_4 : decode cX1_ahead 4 = .ok (.istore_n 3, 1) := dk_62 (dk_at dksX1_ahead_0 4 rfl rfl)
theorem dX1_ahead_5 : decode cX1_ahead 5 = .ok (.iconst 0, 1) := dk_3 (dk_at dksX1_ahead_0 5 rfl rfl)
theorem dX1_ahead_6 : decode cX1_ahead 6 = .ok (.istore 4, 2) := dk_54 4 (dk_at dksX1_ahead_0 6 rfl rfl)
theorem dX1_ahead_8 : decode cX1_ahead 8 = .ok (.iconst 1, 1) := dk_4 (dk_at dksX1_ahead_0 8 rfl rfl)
theorem dX1_ahead_9 : decode cX1_ahead 9 = .ok (.istore 5, 2) := dk_54 5 (dk_at dksX1_ahead_0 9 rfl rfl)
theorem dX1_ahead_11 : decode cX1_ahead 11 = .ok (.iload 5, 2) := dk_21 5 (dk_at dksX1_ahead_0 11 rfl rfl)
theorem dX1_ahead_13 : decode cX1_ahead 13 = .ok (.iload_n 1, 1) := dk_27 (dk_at dksX1_ahead_0 13 rfl rfl)
theorem dX1_ahead_14 : decode cX1_ahead 14 = .ok (.if_icmp .gt 196, 3) := dk_163 0 196 (dk_at dksX1_ahead_0 14 rfl rfl)
theorem dX1_ahead_17 : decode cX1_ahead 17 = .ok (.iconst 1, 1) := dk_4 (dk_at dksX1_ahead_0 17 rfl rfl)
theorem dX1_ahead_18 : decode cX1_ahead 18 = .ok (.istore 6, 2) := dk_54 6 (dk_at dksX1_ahead_0 18 rfl rfl)
theorem dX1_ahead_20 : decode cX1_ahead 20 = .ok (.iload 6, 2) := dk_21 6 (dk_at dksX1_ahead_0 20 rfl rfl)
theorem dX1_ahead_22 : decode cX1_ahead 22 = .ok (.iload_n 1, 1) := dk_27 (dk_at dksX1_ahead_0 22 rfl rfl)
theorem dX1_ahead_23 : decode cX1_ahead 23 = .ok (.if_icmp .gt 181, 3) := dk_163 0 181 (dk_at dksX1_ahead_1 0 rfl rfl)
theorem dX1_ahead_26 : decode cX1_ahead 26 = .ok (.iconst 1, 1) := dk_4 (dk_at dksX1_ahead_1 3 rfl rfl)
theorem dX1_ahead_27 : decode cX1_ahead 27 = .ok (.istore 7, 2) := dk_54 7 (dk_at dksX1_ahead_1 4 rfl rfl)
theorem dX1_ahead_29 : decode cX1_ahead 29 = .ok (.iload 7, 2) := dk_21 7 (dk_at dksX1_ahead_1 6 rfl rfl)
theorem dX1_ahead_31 : decode cX1_ahead 31 = .ok (.iload_n 1, 1) := dk_27 (dk_at dksX1_ahead_1 8 rfl rfl)
theorem dX1_ahead_32 : decode cX1_ahead 32 = .ok (.if_icmp .gt 166, 3) := dk_163 0 166 (dk_at dksX1_ahead_1 9 rfl rfl)
theorem dX1_ahead_35 : decode cX1_ahead 35 = .ok (.iload_n 3, 1) := dk_29 (dk_at dksX1_ahead_1 12 rfl rfl)
theorem dX1_ahead_36 : decode cX1_ahead 36 = .ok (.iload 5, 2) := dk_21 5 (dk_at dksX1_ahead_1 13 rfl rfl)
theorem dX1_ahead_38 : decode cX1_ahead 38 = .ok (.isub, 1) := dk_100 (dk_at dksX1_ahead_1 15 rfl rfl)
theorem dX1_ahead_39 : decode cX1_ahead 39 = .ok (.iload 6, 2) := dk_21 6 (dk_at dksX1_ahead_1 16 rfl rfl)
theorem dX1_ahead_41 : decode cX1_ahead 41 = .ok (.isub, 1) := dk_100 (dk_at dksX1_ahead_1 18 rfl rfl)
theorem dX1_ahead_42 : decode cX1_ahead 42 = .ok (.iload 7, 2) := dk_21 7 (dk_at dksX1_ahead_1 19 rfl rfl)
theorem dX1_ahead_44 : decode cX1_ahead 44 = .ok (.isub, 1) := dk_100 (dk_at dksX1_ahead_1 21 rfl rfl)
theorem dX1_ahead_45 : decode cX1_ahead 45 = .ok (.istore 8, 2) := dk_54 8 (dk_at dksX1_ahead_1 22 rfl rfl)
theorem dX1_ahead_47 : decode cX1_ahead 47 = .ok (.iload 8, 2) := dk_21 8 (dk_at dksX1_ahead_2 0 rfl rfl)
theorem dX1_ahead_49 : decode cX1_ahead 49 = .ok (.iconst 1, 1) := dk_4 (dk_at dksX1_ahead_2 2 rfl rfl)
theorem dX1_ahead_50 : decode cX1_ahead 50 = .ok (.if_icmp .lt 41, 3) := dk_161 0 41 (dk_at dksX1_ahead_2 3 rfl rfl)
theorem dX1_ahead_53 : decode cX1_ahead 53 = .ok (.iload 8, 2) := dk_21 8 (dk_at dksX1_ahead_2 6 rfl rfl)
theorem dX1_ahead_55 : decode cX1_ahead 55 = .ok (.iload_n 1, 1) := dk_27 (dk_at dksX1_ahead_2 8 rfl rfl)
theorem dX1_ahead_56 : decode cX1_ahead 56 = .ok (.if_icmp .gt 35, 3) := dk_163 0 35 (dk_at dksX1_ahead_2 9 rfl rfl)
theorem dX1_ahead_59 : decode cX1_ahead 59 = .ok (.iload_n 2, 1) := dk_28 (dk_at dksX1_ahead_2 12 rfl rfl)
theorem dX1_ahead_60 : decode cX1_ahead 60 = .ok (.ifCond .eq 27, 3) := dk_153 0 27 (dk_at dksX1_ahead_2 13 rfl rfl)
theorem dX1_ahead_63 : decode cX1_ahead 63 = .ok (.iload 5, 2) := dk_21 5 (dk_at dksX1_ahead_2 16 rfl rfl)
theorem dX1_ahead_65 : decode cX1_ahead 65 = .ok (.iconst 1, 1) := dk_4 (dk_at dksX1_ahead_2 18 rfl rfl)
theorem dX1_ahead_66 : decode cX1_ahead 66 = .ok (.if_icmp .eq 21, 3) := dk_159 0 21 (dk_at dksX1_ahead_2 19 rfl rfl)
theorem dX1_ahead_69 : decode cX1_ahead 69 = .ok (.iload 6, 2) := dk_21 6 (dk_at dksX1_ahead_2 22 rfl rfl)
theorem dX1_ahead_71 : decode cX1_ahead 71 = .ok (.iconst 1, 1) := dk_4 (dk_at dksX1_ahead_3 0 rfl rfl)
theorem dX1_ahead_72 : decode cX1_ahead 72 = .ok (.if_icmp .eq 15, 3) := dk_159 0 15 (dk_at dksX1_ahead_3 1 rfl rfl)
theorem dX1_ahead_75 : decode cX1_ahead 75 = .ok (.iload 7, 2) := dk_21 7 (dk_at dksX1_ahead_3 4 rfl rfl)
theorem dX1_ahead_77 : decode cX1_ahead 77 = .ok (.iconst 1, 1) := dk_4 (dk_at dksX1_ahead_3 6 rfl rfl)
theorem dX1_ahead_78 : decode cX1_ahead 78 = .ok (.if_icmp .eq 9, 3) := dk_159 0 9 (dk_at dksX1_ahead_3 7 rfl rfl)
theorem dX1_ahead_81 : decode cX1_ahead 81 = .ok (.iload 8, 2) := dk_21 8 (dk_at dksX1_ahead_3 10 rfl rfl)
theorem dX1_ahead_83 : decode cX1_ahead 83 = .ok (.iconst 1, 1) := dk_4 (dk_at dksX1_ahead_3 12 rfl rfl)
theorem dX1_ahead_84 : decode cX1_ahead 84 = .ok (.if_icmp .ne 7, 3) := dk_160 0 7 (dk_at dksX1_ahead_3 13 rfl rfl)
theorem dX1_ahead_87 : decode cX1_ahead 87 = .ok (.iconst 1, 1) := dk_4 (dk_at dksX1_ahead_3 16 rfl rfl)
theorem dX1_ahead_88 : decode cX1_ahead 88 = .ok (.goto 4, 3) := dk_167 0 4 (dk_at dksX1_ahead_3 17 rfl rfl)
theorem dX1_ahead_91 : decode cX1_ahead 91 = .ok (.iconst 0, 1) := dk_3 (dk_at dksX1_ahead_3 20 rfl rfl)
theorem dX1_ahead_92 : decode cX1_ahead 92 = .ok (.istore 9, 2) := dk_54 9 (dk_at dksX1_ahead_3 21 rfl rfl)
theorem dX1_ahead_94 : decode cX1_ahead 94 = .ok (.iload 5, 2) := dk_21 5 (dk_at dksX1_ahead_4 0 rfl rfl)
theorem dX1_ahead_96 : decode cX1_ahead 96 = .ok (.aload_n 0, 1) := dk_42 (dk_at dksX1_ahead_4 2 rfl rfl)
theorem dX1_ahead_97 : decode cX1_ahead 97 = .ok (.getfield 7, 3) := dk_180 0 7 (dk_at dksX1_ahead_4 3 rfl rfl)
theorem dX1_ahead_100 : decode cX1_ahead 100 = .ok (.iconst 0, 1) := dk_3 (dk_at dksX1_ahead_4 6 rfl rfl)
theorem dX1_ahead_101 : decode cX1_ahead 101 = .ok (.iaload, 1) := dk_46 (dk_at dksX1_ahead_4 7 rfl rfl)
theorem dX1_ahead_102 : decode cX1_ahead 102 = .ok (.if_icmp .eq 22, 3) := dk_159 0 22 (dk_at dksX1_ahead_4 8 rfl rfl)
theorem dX1_ahead_105 : decode cX1_ahead 105 = .ok (.iload 5, 2) := dk_21 5 (dk_at dksX1_ahead_4 11 rfl rfl)
theorem dX1_ahead_107 : decode cX1_ahead 107 = .ok (.aload_n 0, 1) := dk_42 (dk_at dksX1_ahead_4 13 rfl rfl)
theorem dX1_ahead_108 : decode cX1_ahead 108 = .ok (.getfield 7, 3) := dk_180 0 7 (dk_at dksX1_ahead_4 14 rfl rfl)
theorem dX1_ahead_111 : decode cX1_ahead 111 = .ok (.iconst 0, 1) := dk_3 (dk_at dksX1_ahead_4 17 rfl rfl)
theorem dX1_ahead_112 : decode cX1_ahead 112 = .ok (.iaload, 1) := dk_46 (dk_at dksX1_ahead_4 18 rfl rfl)
theorem dX1_ahead_113 : decode cX1_ahead 113 = .ok (.if_icmp .ge 7, 3) := dk_162 0 7 (dk_at dksX1_ahead_4 19 rfl rfl)
theorem dX1_ahead_116 : decode cX1_ahead 116 = .ok (.iconst 1, 1) := dk_4 (dk_at dksX1_ahead_4 22 rfl rfl)
theorem dX1_ahead_117 : decode cX1_ahead 117 = .ok (.goto 53, 3) := dk_167 0 53 (dk_at dksX1_ahead_5 0 rfl rfl)
theorem dX1_ahead_120 : decode cX1_ahead 120 = .ok (.iconst 0, 1) := dk_3 (dk_at dksX1_ahead_5 3 rfl rfl)
theorem dX1_ahead_121 : decode cX1_ahead 121 = .ok (.goto 49, 3) := dk_167 0 49 (dk_at dksX1_ahead_5 4 rfl rfl)
theorem dX1_ahead_124 : decode cX1_ahead 124 = .ok (.iload 6, 2) := dk_21 6 (dk_at dksX1_ahead_5 7 rfl rfl)
theorem dX1_ahead_126 : decode cX1_ahead 126 = .ok (.aload_n 0, 1) := dk_42 (dk_at dksX1_ahead_5 9 rfl rfl)
theorem dX1_ahead_127 : decode cX1_ahead 127 = .ok (.getfield 7, 3) := dk_180 0 7 (dk_at dksX1_ahead_5 10 rfl rfl)
theorem dX1_ahead_130 : decode cX1_ahead 130 = .ok (.iconst 1, 1) := dk_4 (dk_at dksX1_ahead_5 13 rfl rfl)
theorem dX1_ahead_131 : decode cX1_ahead 131 = .ok (.iaload, 1) := dk_46 (dk_at dksX1_ahead_5 14 rfl rfl)
theorem dX1_ahead_132 : decode cX1_ahead 132 = .ok (.if_icmp .eq 22, 3) := dk_159 0 22 (dk_at dksX1_ahead_5 15 rfl rfl)
theorem dX1_ahead_135 : decode cX1_ahead 135 = .ok (.iload 6, 2) := dk_21 6 (dk_at dksX1_ahead_5 18 rfl rfl)
theorem dX1_ahead_137 : decode cX1_ahead 137 = .ok (.aload_n 0, 1) := dk_42 (dk_at dksX1_ahead_5 20 rfl rfl)
theorem dX1_ahead_138 : decode cX1_ahead 138 = .ok (.getfield 7, 3) := dk_180 0 7 (dk_at dksX1_ahead_5 21 rfl rfl)
theorem dX1_ahead_141 : decode cX1_ahead 141 = .ok (.iconst 1, 1) := dk_4 (dk_at dksX1_ahead_6 0 rfl rfl)
theorem dX1_ahead_142 : decode cX1_ahead 142 = .ok (.iaload, 1) := dk_46 (dk_at dksX1_ahead_6 1 rfl rfl)
theorem dX1_ahead_143 : decode cX1_ahead 143 = .ok (.if_icmp .ge 7, 3) := dk_162 0 7 (dk_at dksX1_ahead_6 2 rfl rfl)
theorem dX1_ahead_146 : decode cX1_ahead 146 = .ok (.iconst 1, 1) := dk_4 (dk_at dksX1_ahead_6 5 rfl rfl)
theorem dX1_ahead_147 : decode cX1_ahead 147 = .ok (.goto 23, 3) := dk_167 0 23 (dk_at dksX1_ahead_6 6 rfl rfl)
theorem dX1_ahead_150 : decode cX1_ahead 150 = .ok (.iconst 0, 1) := dk_3 (dk_at dksX1_ahead_6 9 rfl rfl)
theorem dX1_ahead_151 : decode cX1_ahead 151 = .ok (.goto 19, 3) := dk_167 0 19 (dk_at dksX1_ahead_6 10 rfl rfl)
theorem dX1_ahead_154 : decode cX1_ahead 154 = .ok (.iload 7, 2) := dk_21 7 (dk_at dksX1_ahead_6 13 rfl rfl)
theorem dX1_ahead_156 : decode cX1_ahead 156 = .ok (.aload_n 0, 1) := dk_42 (dk_at dksX1_ahead_6 15 rfl rfl)
theorem dX1_ahead_157 : decode cX1_ahead 157 = .ok (.getfield 7, 3) := dk_180 0 7 (dk_at dksX1_ahead_6 16 rfl rfl)
theorem dX1_ahead_160 : decode cX1_ahead 160 = .ok (.iconst 2, 1) := dk_5 (dk_at dksX1_ahead_6 19 rfl rfl)
theorem dX1_ahead_161 : decode cX1_ahead 161 = .ok (.iaload, 1) := dk_46 (dk_at dksX1_ahead_6 20 rfl rfl)
theorem dX1_ahead_162 : decode cX1_ahead 162 = .ok (.if_icmp .ge 7, 3) := dk_162 0 7 (dk_at dksX1_ahead_6 21 rfl rfl)
theorem dX1_ahead_165 : decode cX1_ahead 165 = .ok (.iconst 1, 1) := dk_4 (dk_at dksX1_ahead_7 0 rfl rfl)
theorem dX1_ahead_166 : decode cX1_ahead 166 = .ok (.goto 4, 3) := dk_167 0 4 (dk_at dksX1_ahead_7 1 rfl rfl)
theorem dX1_ahead_169 : decode cX1_ahead 169 = .ok (.iconst 0, 1) := dk_3 (dk_at dksX1_ahead_7 4 rfl rfl)
theorem dX1_ahead_170 : decode cX1_ahead 170 = .ok (.istore 10, 2) := dk_54 10 (dk_at dksX1_ahead_7 5 rfl rfl)
theorem dX1_ahead_172 : decode cX1_ahead 172 = .ok (.iload 4, 2) := dk_21 4 (dk_at dksX1_ahead_7 7 rfl rfl)
theorem dX1_ahead_174 : decode cX1_ahead 174 = .ok (.iload 9, 2) := dk_21 9 (dk_at dksX1_ahead_7 9 rfl rfl)
theorem dX1_ahead_176 : decode cX1_ahead 176 = .ok (.ifCond .eq 12, 3) := dk_153 0 12 (dk_at dksX1_ahead_7 11 rfl rfl)
theorem dX1_ahead_179 : decode cX1_ahead 179 = .ok (.iload 10, 2) := dk_21 10 (dk_at dksX1_ahead_7 14 rfl rfl)
theorem dX1_ahead_181 : decode cX1_ahead 181 = .ok (.ifCond .eq 7, 3) := dk_153 0 7 (dk_at dksX1_ahead_7 16 rfl rfl)
theorem dX1_ahead_184 : decode cX1_ahead 184 = .ok (.iconst 1, 1) := dk_4 (dk_at dksX1_ahead_7 19 rfl rfl)
theorem dX1_ahead_185 : decode cX1_ahead 185 = .ok (.goto 4, 3) := dk_167 0 4 (dk_at dksX1_ahead_7 20 rfl rfl)
theorem dX1_ahead_188 : decode cX1_ahead 188 = .ok (.iconst 0, 1) := dk_3 (dk_at dksX1_ahead_7 23 rfl rfl)
theorem dX1_ahead_189 : decode cX1_ahead 189 = .ok (.iadd, 1) := dk_96 (dk_at dksX1_ahead_8 0 rfl rfl)
theorem dX1_ahead_190 : decode cX1_ahead 190 = .ok (.istore 4, 2) := dk_54 4 (dk_at dksX1_ahead_8 1 rfl rfl)
theorem dX1_ahead_192 : decode cX1_ahead 192 = .ok (.iinc 7 1, 3) := dk_132 7 1 (dk_at dksX1_ahead_8 3 rfl rfl)
theorem dX1_ahead_195 : decode cX1_ahead 195 = .ok (.goto (-166), 3) := dk_167 255 90 (dk_at dksX1_ahead_8 6 rfl rfl)
theorem dX1_ahead_198 : decode cX1_ahead 198 = .ok (.iinc 6 1, 3) := dk_132 6 1 (dk_at dksX1_ahead_8 9 rfl rfl)
theorem dX1_ahead_201 : decode cX1_ahead 201 = .ok (.goto (-181), 3) := dk_167 255 75 (dk_at dksX1_ahead_8 12 rfl rfl)
theorem dX1_ahead_204 : decode cX1_ahead 204 = .ok (.iinc 5 1, 3) := dk_132 5 1 (dk_at dksX1_ahead_8 15 rfl rfl)
theorem dX1_ahead_207 : decode cX1_ahead 207 = .ok (.goto (-196), 3) := dk_167 255 60 (dk_at dksX1_ahead_8 18 rfl rfl)
theorem dX1_ahead_210 : decode cX1_ahead 210 = .ok (.iload 4, 2) := dk_21 4 (dk_at dksX1_ahead_8 21 rfl rfl)
theorem dX1_ahead_212 : decode cX1_ahead 212 = .ok (.ireturn, 1) := dk_172 (dk_at dksX1_ahead_8 23 rfl rfl)
abbrev cX1_withNarrow : ByteArray := prog_3_method_9_code
def yX1_withNarrow : MethodName := ⟨RX1, "withNarrow", "(I)I"⟩
def dkwX1_withNarrow_3 : List UInt8 := [5, 29, 104, 7, 96, 162, 0, 12, 42, 29, 4, 182, 0, 26, 167, 0, 4, 2, 172]
abbrev dktX1_withNarrow_3 : List UInt8 := dkwX1_withNarrow_3 ++ []
def dkwX1_withNarrow_2 : List UInt8 := [27, 182, 0, 22, 62, 28, 153, 0, 35, 42, 182, 0, 18, 29, 16, 7, 96, 162, 0, 24, 42, 182, 0, 18]
abbrev dktX1_withNarrow_2 : List UInt8 := dkwX1_withNarrow_2 ++ dktX1_withNarrow_3
def dkwX1_withNarrow_1 : List UInt8 := [46, 54, 6, 28, 21, 6, 4, 160, 0, 7, 4, 167, 0, 4, 3, 128, 61, 132, 5, 1, 167, 255, 226, 42]
abbrev dktX1_withNarrow_1 : List UInt8 := dkwX1_withNarrow_1 ++ dktX1_withNarrow_2
def dkwX1_withNarrow_0 : List UInt8 := [3, 61, 42, 180, 0, 7, 78, 45, 190, 54, 4, 3, 54, 5, 21, 5, 21, 4, 162, 0, 29, 45, 21, 5]
abbrev dktX1_withNarrow_0 : List UInt8 := dkwX1_withNarrow_0 ++ dktX1_withNarrow_1
theorem dksX1_withNarrow_0 : cX1_withNarrow.data.toList.drop 0 = dktX1_withNarrow_0 := by decide +kernel
theorem dksX1_withNarrow_1 : cX1_withNarrow.data.toList.drop 24 = dktX1_withNarrow_1 := dk_seg dksX1_withNarrow_0 24 rfl rfl
theorem dksX1_withNarrow_2 : cX1_withNarrow.data.toList.drop 48 = dktX1_withNarrow_2 := dk_seg dksX1_withNarrow_1 24 rfl rfl
theorem dksX1_withNarrow_3 : cX1_withNarrow.data.toList.drop 72 = dktX1_withNarrow_3 := dk_seg dksX1_withNarrow_2 24 rfl rfl
theorem dX1_withNarrow_0 : decode cX1_withNarrow 0 = .ok (.iconst 0, 1) := dk_3 (dk_at dksX1_withNarrow_0 0 rfl rfl)
theorem dX1_withNarrow_1 : decode cX1_withNarrow 1 = .ok (.istore_n 2, 1) := dk_61 (dk_at dksX1_withNarrow_0 1 rfl rfl)
theorem dX1_withNarrow_2 : decode cX1_withNarrow 2 = .ok (.aload_n 0, 1) := dk_42 (dk_at dksX1_withNarrow_0 2 rfl rfl)
theorem dX1_withNarrow_3 : decode cX1_withNarrow 3 = .ok (.getfield 7, 3) := dk_180 0 7 (dk_at dksX1_withNarrow_0 3 rfl rfl)
theorem dX1_withNarrow_6 : decode cX1_withNarrow 6 = .ok (.astore_n 3, 1) := dk_78 (dk_at dksX1_withNarrow_0 6 rfl rfl)
theorem dX1_withNarrow_7 : decode cX1_withNarrow 7 = .ok (.aload_n 3, 1) := dk_45 (dk_at dksX1_withNarrow_0 7 rfl rfl)
theorem dX1_withNarrow_8 : decode cX1_withNarrow 8 = .ok (.arraylength, 1) := dk_190 (dk_at dksX1_withNarrow_0 8 rfl rfl)
theorem dX1_withNarrow_9 : decode cX1_withNarrow 9 = .ok (.istore 4, 2) := dk_54 4 (dk_at dksX1_withNarrow_0 9 rfl rfl)
theorem dX1_withNarrow_11 : decode cX1_withNarrow 11 = .ok (.iconst 0, 1) := dk_3 (dk_at dksX1_withNarrow_0 11 rfl rfl)
theorem dX1_withNarrow_12 : decode cX1_withNarrow 12 = .ok (.istore 5, 2) := dk_54 5 (dk_at dksX1_withNarrow_0 12 rfl rfl)
theorem dX1_withNarrow_14 : decode cX1_withNarrow 14 = .ok (.iload 5, 2) := dk_21 5 (dk_at dksX1_withNarrow_0 14 rfl rfl)
theorem dX1_withNarrow_16 : decode cX1_withNarrow 16 = .ok (.iload 4, 2) := dk_21 4 (dk_at dksX1_withNarrow_0 16 rfl rfl)
theorem dX1_withNarrow_18 : decode cX1_withNarrow 18 = .ok (.if_icmp .ge 29, 3) := dk_162 0 29 (dk_at dksX1_withNarrow_0 18 rfl rfl)
theorem dX1_withNarrow_21 : decode cX1_withNarrow 21 = .ok (.aload_n 3, 1) := dk_45 (dk_at dksX1_withNarrow_0 21 rfl rfl)
theorem dX1_withNarrow_22 : decode cX1_withNarrow 22 = .ok (.iload 5, 2) := dk_21 5 (dk_at dksX1_withNarrow_0 22 rfl rfl)
theorem dX1_withNarrow_24 : decode cX1_withNarrow 24 = .ok (.iaload, 1) := dk_46 (dk_at dksX1_withNarrow_1 0 rfl rfl)
theorem dX1_withNarrow_25 : decode cX1_withNarrow 25 = .ok (.istore 6, 2) := dk_54 6 (dk_at dksX1_withNarrow_1 1 rfl rfl)
theorem dX1_withNarrow_27 : decode cX1_withNarrow 27 = .ok (.iload_n 2, 1) := dk_28 (dk_at dksX1_withNarrow_1 3 rfl rfl)
theorem dX1_withNarrow_28 : decode cX1_withNarrow 28 = .ok (.iload 6, 2) := dk_21 6 (dk_at dksX1_withNarrow_1 4 rfl rfl)
theorem dX1_withNarrow_30 : decode cX1_withNarrow 30 = .ok (.iconst 1, 1) := dk_4 (dk_at dksX1_withNarrow_1 6 rfl rfl)
theorem dX1_withNarrow_31 : decode cX1_withNarrow 31 = .ok (.if_icmp .ne 7, 3) := dk_160 0 7 (dk_at dksX1_withNarrow_1 7 rfl rfl)
theorem dX1_withNarrow_34 : decode cX1_withNarrow 34 = .ok (.iconst 1, 1) := dk_4 (dk_at dksX1_withNarrow_1 10 rfl rfl)
theorem dX1_withNarrow_35 : decode cX1_withNarrow 35 = .ok (.goto 4, 3) := dk_167 0 4 (dk_at dksX1_withNarrow_1 11 rfl rfl)
theorem dX1_withNarrow_38 : decode cX1_withNarrow 38 = .ok (.iconst 0, 1) := dk_3 (dk_at dksX1_withNarrow_1 14 rfl rfl)
theorem dX1_withNarrow_39 : decode cX1_withNarrow 39 = .ok (.ior, 1) := dk_128 (dk_at dksX1_withNarrow_1 15 rfl rfl)
theorem dX1_withNarrow_40 : decode cX1_withNarrow 40 = .ok (.istore_n 2, 1) := dk_61 (dk_at dksX1_withNarrow_1 16 rfl rfl)
theorem dX1_withNarrow_41 : decode cX1_withNarrow 41 = .ok (.iinc 5 1, 3) := dk_132 5 1 (dk_at dksX1_withNarrow_1 17 rfl rfl)
theorem dX1_withNarrow_44 : decode cX1_withNarrow 44 = .ok (.goto (-30), 3) := dk_167 255 226 (dk_at dksX1_withNarrow_1 20 rfl rfl)
theorem dX1_withNarrow_47 : decode cX1_withNarrow 47 = .ok (.aload_n 0, 1) := dk_42 (dk_at dksX1_withNarrow_1 23 rfl rfl)
theorem dX1_withNarrow_48 : decode cX1_withNarrow 48 = .ok (.iload_n 1, 1) := dk_27 (dk_at dksX1_withNarrow_2 0 rfl rfl)
theorem dX1_withNarrow_49 : decode cX1_withNarrow 49 = .ok (.invokevirtual 22, 3) := dk_182 0 22 (dk_at dksX1_withNarrow_2 1 rfl rfl)
theorem dX1_withNarrow_52 : decode cX1_withNarrow 52 = .ok (.istore_n 3, 1) := dk_62 (dk_at dksX1_withNarrow_2 4 rfl rfl)
theorem dX1_withNarrow_53 : decode cX1_withNarrow 53 = .ok (.iload_n 2, 1) := dk_28 (dk_at dksX1_withNarrow_2 5 rfl rfl)
theorem dX1_withNarrow_54 : decode cX1_withNarrow 54 = .ok (.ifCond .eq 35, 3) := dk_153 0 35 (dk_at dksX1_withNarrow_2 6 rfl rfl)
theorem dX1_withNarrow_57 : decode cX1_withNarrow 57 = .ok (.aload_n 0, 1) := dk_42 (dk_at dksX1_withNarrow_2 9 rfl rfl)
theorem dX1_withNarrow_58 : decode cX1_withNarrow 58 = .ok (.invokevirtual 18, 3) := dk_182 0 18 (dk_at dksX1_withNarrow_2 10 rfl rfl)
theorem dX1_withNarrow_61 : decode cX1_withNarrow 61 = .ok (.iload_n 3, 1) := dk_29 (dk_at dksX1_withNarrow_2 13 rfl rfl)
theorem dX1_withNarrow_62 : decode cX1_withNarrow 62 = .ok (.bipush 7, 2) := dk_16 7 (dk_at dksX1_withNarrow_2 14 rfl rfl)
theorem dX1_withNarrow_64 : decode cX1_withNarrow 64 = .ok (.iadd, 1) := dk_96 (dk_at dksX1_withNarrow_2 16 rfl rfl)
theorem dX1_withNarrow_65 : decode cX1_withNarrow 65 = .ok (.if_icmp .ge 24, 3) := dk_162 0 24 (dk_at dksX1_withNarrow_2 17 rfl rfl)
theorem dX1_withNarrow_68 : decode cX1_withNarrow 68 = .ok (.aload_n 0, 1) := dk_42 (dk_at dksX1_withNarrow_2 20 rfl rfl)
theorem dX1_withNarrow_69 : decode cX1_withNarrow 69 = .ok (.invokevirtual 18, 3) := dk_182 0 18 (dk_at dksX1_withNarrow_2 21 rfl rfl)
theorem dX1_withNarrow_72 : decode cX1_withNarrow 72 = .ok (.iconst 2, 1) := dk_5 (dk_at dksX1_withNarrow_3 0 rfl rfl)
theorem dX1_withNarrow_73 : decode cX1_withNarrow 73 = .ok (.iload_n 3, 1) := dk_29 (dk_at dksX1_withNarrow_3 1 rfl rfl)
theorem dX1_withNarrow_74 : decode cX1_withNarrow 74 = .ok (.imul, 1) := dk_104 (dk_at dksX1_withNarrow_3 2 rfl rfl)
theorem dX1_withNarrow_75 : decode cX1_withNarrow 75 = .ok (.iconst 4, 1) := dk_7 (dk_at dksX1_withNarrow_3 3 rfl rfl)
theorem dX1_withNarrow_76 : decode cX1_withNarrow 76 = .ok (.iadd, 1) := dk_96 (dk_at dksX1_withNarrow_3 4 rfl rfl)
theorem dX1_withNarrow_77 : decode cX1_withNarrow 77 = .ok (.if_icmp .ge 12, 3) := dk_162 0 12 (dk_at dksX1_withNarrow_3 5 rfl rfl)
theorem dX1_withNarrow_80 : decode cX1_withNarrow 80 = .ok (.aload_n 0, 1) := dk_42 (dk_at dksX1_withNarrow_3 8 rfl rfl)
theorem dX1_withNarrow_81 : decode cX1_withNarrow 81 = .ok (.iload_n 3, 1) := dk_29 (dk_at dksX1_withNarrow_3 9 rfl rfl)
theorem dX1_withNarrow_82 : decode cX1_withNarrow 82 = .ok (.iconst 1, 1) := dk_4 (dk_at dksX1_withNarrow_3 10 rfl rfl)
theorem dX1_withNarrow_83 : decode cX1_withNarrow 83 = .ok (.invokevirtual 26, 3) := dk_182 0 26 (dk_at dksX1_withNarrow_3 11 rfl rfl)
theorem dX1_withNarrow_86 : decode cX1_withNarrow 86 = .ok (.goto 4, 3) := dk_167 0 4 (dk_at dksX1_withNarrow_3 14 rfl rfl)
theorem dX1_withNarrow_89 : decode cX1_withNarrow 89 = .ok (.iconst (-1), 1) := dk_2 (dk_at dksX1_withNarrow_3 17 rfl rfl)
theorem dX1_withNarrow_90 : decode cX1_withNarrow 90 = .ok (.ireturn, 1) := dk_172 (dk_at dksX1_withNarrow_3 18 rfl rfl)
theorem q8 : (Jvm.Cond.initialized "BarValueDeskModel") ∈ lw_all := lw_g (lw_at lw_m0 2 rfl) rfl
theorem q63 : (Jvm.Cond.instantiable "BarValueDeskModel" (1 : Nat)) ∈ lw_all := lw_g (lw_at lw_m0 57 rfl) rfl
theorem q65 : (Jvm.Cond.instanceMethod ({ cls := "BarValueDeskModel", name := "<init>", desc := "()V" } : Jvm.MethodName)) ∈ lw_all := lw_g (lw_at lw_m0 59 rfl) rfl
theorem q66 : (Jvm.Cond.code ({ cls := "BarValueDeskModel", name := "<init>", desc := "()V" } : Jvm.MethodName) prog_3_method_1_code (1 : Nat) (Option.none : Option Jvm.ClassFile.FieldType)) ∈ lw_all := lw_g (lw_at lw_m0 60 rfl) rfl
theorem q67 : (Jvm.Cond.methodLink "BarValueDeskModel" (1 : Nat) ({ cls := "java/lang/Object", name := "<init>", desc := "()V" } : Jvm.MethodName)) ∈ lw_all := lw_g (lw_at lw_m0 61 rfl) rfl
theorem q68 : (Jvm.Cond.fieldLink "BarValueDeskModel" (7 : Nat) "BarValueDeskModel" "widths" "[I") ∈ lw_all := lw_g (lw_at lw_m0 62 rfl) rfl
theorem q69 : (Jvm.Cond.laysFinal "BarValueDeskModel" "BarValueDeskModel" "widths" "[I") ∈ lw_all := lw_g (lw_at lw_m0 63 rfl) rfl
theorem q70 : (Jvm.Cond.soleField "BarValueDeskModel" "widths") ∈ lw_all := lw_g (lw_at lw_m0 64 rfl) rfl
theorem q71 : (Jvm.Cond.superclass "BarValueDeskModel" "java/lang/Object") ∈ lw_all := lw_g (lw_at lw_m0 65 rfl) rfl
theorem q73 : (Jvm.Cond.instanceMethod ({ cls := "BarValueDeskModel", name := "width", desc := "(II)V" } : Jvm.MethodName)) ∈ lw_all := lw_g (lw_at lw_m0 67 rfl) rfl
theorem q74 : (Jvm.Cond.selects "BarValueDeskModel" ({ cls := "BarValueDeskModel", name := "width", desc := "(II)V" } : Jvm.MethodName) ({ cls := "BarValueDeskModel", name := "width", desc := "(II)V" } : Jvm.MethodName)) ∈ lw_all := lw_g (lw_at lw_m0 68 rfl) rfl
theorem q75 : (Jvm.Cond.code ({ cls := "BarValueDeskModel", name := "width", desc := "(II)V" } : Jvm.MethodName) prog_3_method_2_code (3 : Nat) (Option.none : Option Jvm.ClassFile.FieldType)) ∈ lw_all := lw_g (lw_at lw_m0 69 rfl) rfl
theorem q77 : (Jvm.Cond.instanceMethod ({ cls := "BarValueDeskModel", name := "widths", desc := "(IIII)V" } : Jvm.MethodName)) ∈ lw_all := lw_g (lw_at lw_m0 71 rfl) rfl
theorem q78 : (Jvm.Cond.selects "BarValueDeskModel" ({ cls := "BarValueDeskModel", name := "widths", desc := "(IIII)V" } : Jvm.MethodName) ({ cls := "BarValueDeskModel", name := "widths", desc := "(IIII)V" } : Jvm.MethodName)) ∈ lw_all := lw_g (lw_at lw_m0 72 rfl) rfl
theorem q79 : (Jvm.Cond.code ({ cls := "BarValueDeskModel", name := "widths", desc := "(IIII)V" } : Jvm.MethodName) prog_3_method_3_code (5 : Nat) (Option.none : Option Jvm.ClassFile.FieldType)) ∈ lw_all := lw_g (lw_at lw_m0 73 rfl) rfl
theorem q80 : (Jvm.Cond.methodLink "BarValueDeskModel" (13 : Nat) ({ cls := "BarValueDeskModel", name := "width", desc := "(II)V" } : Jvm.MethodName)) ∈ lw_all := lw_g (lw_at lw_m0 74 rfl) rfl
theorem q82 : (Jvm.Cond.instanceMethod ({ cls := "BarValueDeskModel", name := "width", desc := "(I)I" } : Jvm.MethodName)) ∈ lw_all := lw_g (lw_at lw_m0 76 rfl) rfl
theorem q83 : (Jvm.Cond.selects "BarValueDeskModel" ({ cls := "BarValueDeskModel", name := "width", desc := "(I)I" } : Jvm.MethodName) ({ cls := "BarValueDeskModel", name := "width", desc := "(I)I" } : Jvm.MethodName)) ∈ lw_all := lw_g (lw_at lw_m0 77 rfl) rfl
theorem q84 : (Jvm.Cond.code ({ cls := "BarValueDeskModel", name := "width", desc := "(I)I" } : Jvm.MethodName) prog_3_method_4_code (2 : Nat) (Option.some Jvm.ClassFile.FieldType.int)) ∈ lw_all := lw_g (lw_at lw_m0 78 rfl) rfl
theorem q86 : (Jvm.Cond.instanceMethod ({ cls := "BarValueDeskModel", name := "value", desc := "(I)I" } : Jvm.MethodName)) ∈ lw_all := lw_g (lw_at lw_m0 80 rfl) rfl
theorem q87 : (Jvm.Cond.selects "BarValueDeskModel" ({ cls := "BarValueDeskModel", name := "value", desc := "(I)I" } : Jvm.MethodName) ({ cls := "BarValueDeskModel", name := "value", desc := "(I)I" } : Jvm.MethodName)) ∈ lw_all := lw_g (lw_at lw_m0 81 rfl) rfl
theorem q88 : (Jvm.Cond.code ({ cls := "BarValueDeskModel", name := "value", desc := "(I)I" } : Jvm.MethodName) prog_3_method_8_code (3 : Nat) (Option.some Jvm.ClassFile.FieldType.int)) ∈ lw_all := lw_g (lw_at lw_m0 82 rfl) rfl
theorem q89 : (Jvm.Cond.methodLink "BarValueDeskModel" (22 : Nat) ({ cls := "BarValueDeskModel", name := "most", desc := "(I)I" } : Jvm.MethodName)) ∈ lw_all := lw_g (lw_at lw_m0 83 rfl) rfl
theorem q90 : (Jvm.Cond.privateMethod ({ cls := "BarValueDeskModel", name := "most", desc := "(I)I" } : Jvm.MethodName)) ∈ lw_tbl := lw_at lw_m0 84 rfl
theorem q91 : (Jvm.Cond.instanceMethod ({ cls := "BarValueDeskModel", name := "most", desc := "(I)I" } : Jvm.MethodName)) ∈ lw_all := lw_g (lw_at lw_m0 85 rfl) rfl
theorem q92 : (Jvm.Cond.code ({ cls := "BarValueDeskModel", name := "most", desc := "(I)I" } : Jvm.MethodName) prog_3_method_5_code (7 : Nat) (Option.some Jvm.ClassFile.FieldType.int)) ∈ lw_all := lw_g (lw_at lw_m0 86 rfl) rfl
theorem q93 : (Jvm.Cond.constant "BarValueDeskModel" (17 : Nat) (2147483647 : Int32)) ∈ lw_all := lw_g (lw_at lw_m0 87 rfl) rfl
theorem q94 : (Jvm.Cond.methodLink "BarValueDeskModel" (18 : Nat) ({ cls := "BarValueDeskModel", name := "sum", desc := "()I" } : Jvm.MethodName)) ∈ lw_all := lw_g (lw_at lw_m0 88 rfl) rfl
theorem q95 : (Jvm.Cond.privateMethod ({ cls := "BarValueDeskModel", name := "sum", desc := "()I" } : Jvm.MethodName)) ∈ lw_tbl := lw_at lw_m0 89 rfl
theorem q96 : (Jvm.Cond.instanceMethod ({ cls := "BarValueDeskModel", name := "sum", desc := "()I" } : Jvm.MethodName)) ∈ lw_all := lw_g (lw_at lw_m0 90 rfl) rfl
theorem q97 : (Jvm.Cond.code ({ cls := "BarValueDeskModel", name := "sum", desc := "()I" } : Jvm.MethodName) prog_3_method_7_code (1 : Nat) (Option.some Jvm.ClassFile.FieldType.int)) ∈ lw_all := lw_g (lw_at lw_m0 91 rfl) rfl
theorem q98 : (Jvm.Cond.methodLink "BarValueDeskModel" (26 : Nat) ({ cls := "BarValueDeskModel", name := "ahead", desc := "(IZ)I" } : Jvm.MethodName)) ∈ lw_all := lw_g (lw_at lw_m0 92 rfl) rfl
theorem q99 : (Jvm.Cond.privateMethod ({ cls := "BarValueDeskModel", name := "ahead", desc := "(IZ)I" } : Jvm.MethodName)) ∈ lw_tbl := lw_at lw_m0 93 rfl
theorem q100 : (Jvm.Cond.instanceMethod ({ cls := "BarValueDeskModel", name := "ahead", desc := "(IZ)I" } : Jvm.MethodName)) ∈ lw_all := lw_g (lw_at lw_m0 94 rfl) rfl
theorem q101 : (Jvm.Cond.code ({ cls := "BarValueDeskModel", name := "ahead", desc := "(IZ)I" } : Jvm.MethodName) prog_3_method_6_code (11 : Nat) (Option.some Jvm.ClassFile.FieldType.int)) ∈ lw_all := lw_g (lw_at lw_m0 95 rfl) rfl
theorem q103 : (Jvm.Cond.instanceMethod ({ cls := "BarValueDeskModel", name := "withNarrow", desc := "(I)I" } : Jvm.MethodName)) ∈ lw_all := lw_g (lw_at lw_m0 97 rfl) rfl
theorem q104 : (Jvm.Cond.selects "BarValueDeskModel" ({ cls := "BarValueDeskModel", name := "withNarrow", desc := "(I)I" } : Jvm.MethodName) ({ cls := "BarValueDeskModel", name := "withNarrow", desc := "(I)I" } : Jvm.MethodName)) ∈ lw_all := lw_g (lw_at lw_m0 98 rfl) rfl
theorem q105 : (Jvm.Cond.code ({ cls := "BarValueDeskModel", name := "withNarrow", desc := "(I)I" } : Jvm.MethodName) prog_3_method_9_code (7 : Nat) (Option.some Jvm.ClassFile.FieldType.int)) ∈ lw_all := lw_g (lw_at lw_m0 99 rfl) rfl
theorem in_X1 : ∀ w ∈ wsX10, w ∈ lw_all := lw_in wsX10 [69] (by decide +kernel) (by decide +kernel)

/-! the law's own entry -/
set_option maxRecDepth 100000
abbrev cL_law : ByteArray := code
def dkwL_law_9 : List UInt8 := [182, 0, 34, 159, 0, 5, 3, 172, 132, 3, 6, 167, 255, 52, 4, 172]
abbrev dktL_law_9 : List UInt8 := dkwL_law_9 ++ []
def dkwL_law_8 : List UInt8 := [182, 0, 31, 159, 0, 28, 3, 172, 43, 42, 29, 4, 96, 46, 182, 0, 32, 44, 42, 29, 4, 96, 46]
abbrev dktL_law_8 : List UInt8 := dkwL_law_8 ++ dktL_law_9
def dkwL_law_7 : List UInt8 := [46, 182, 0, 27, 159, 0, 51, 3, 172, 43, 42, 29, 4, 96, 46, 182, 0, 28, 44, 42, 29, 4, 96, 46]
abbrev dktL_law_7 : List UInt8 := dkwL_law_7 ++ dktL_law_8
def dkwL_law_6 : List UInt8 := [29, 7, 96, 46, 182, 0, 22, 167, 0, 72, 43, 42, 29, 4, 96, 46, 182, 0, 23, 44, 42, 29, 4, 96]
abbrev dktL_law_6 : List UInt8 := dkwL_law_6 ++ dktL_law_7
def dkwL_law_5 : List UInt8 := [29, 7, 96, 46, 182, 0, 18, 44, 42, 29, 4, 96, 46, 42, 29, 5, 96, 46, 42, 29, 6, 96, 46, 42]
abbrev dktL_law_5 : List UInt8 := dkwL_law_5 ++ dktL_law_6
def dkwL_law_4 : List UInt8 := [46, 182, 0, 17, 167, 0, 123, 43, 42, 29, 4, 96, 46, 42, 29, 5, 96, 46, 42, 29, 6, 96, 46, 42]
abbrev dktL_law_4 : List UInt8 := dkwL_law_4 ++ dktL_law_5
def dkwL_law_3 : List UInt8 := [43, 42, 29, 4, 96, 46, 42, 29, 5, 96, 46, 182, 0, 13, 44, 42, 29, 4, 96, 46, 42, 29, 5, 96]
abbrev dktL_law_3 : List UInt8 := dkwL_law_3 ++ dktL_law_4
def dkwL_law_2 : List UInt8 := [170, 0, 0, 0, 0, 0, 186, 0, 0, 0, 0, 0, 0, 0, 4, 0, 0, 0, 35, 0, 0, 0, 66, 0, 0, 0, 117, 0, 0, 0, 140, 0, 0, 0, 163]
abbrev dktL_law_2 : List UInt8 := dkwL_law_2 ++ dktL_law_3
def dkwL_law_1 : List UInt8 := [163, 0, 201, 42, 29, 46, 16, 7, 126]
abbrev dktL_law_1 : List UInt8 := dkwL_law_1 ++ dktL_law_2
def dkwL_law_0 : List UInt8 := [187, 0, 7, 89, 183, 0, 9, 76, 187, 0, 10, 89, 183, 0, 12, 77, 3, 62, 29, 42, 190, 16, 6, 100]
abbrev dktL_law_0 : List UInt8 := dkwL_law_0 ++ dktL_law_1
theorem dksL_law_0 : cL_law.data.toList.drop 0 = dktL_law_0 := by decide +kernel
theorem dksL_law_1 : cL_law.data.toList.drop 24 = dktL_law_1 := dk_seg dksL_law_0 24 rfl rfl
theorem dksL_law_2 : cL_law.data.toList.drop 33 = dktL_law_2 := dk_seg dksL_law_1 9 rfl rfl
theorem dksL_law_3 : cL_law.data.toList.drop 68 = dktL_law_3 := dk_seg dksL_law_2 35 rfl rfl
theorem dksL_law_4 : cL_law.data.toList.drop 92 = dktL_law_4 := dk_seg dksL_law_3 24 rfl rfl
theorem dksL_law_5 : cL_law.data.toList.drop 116 = dktL_law_5 := dk_seg dksL_law_4 24 rfl rfl
theorem dksL_law_6 : cL_law.data.toList.drop 140 = dktL_law_6 := dk_seg dksL_law_5 24 rfl rfl
theorem dksL_law_7 : cL_law.data.toList.drop 164 = dktL_law_7 := dk_seg dksL_law_6 24 rfl rfl
theorem dksL_law_8 : cL_law.data.toList.drop 188 = dktL_law_8 := dk_seg dksL_law_7 24 rfl rfl
theorem dksL_law_9 : cL_law.data.toList.drop 211 = dktL_law_9 := dk_seg dksL_law_8 23 rfl rfl
theorem dL_law_0 : decode cL_law 0 = .ok (.new 7, 3) := dk_187 0 7 (dk_at dksL_law_0 0 rfl rfl)
theorem dL_law_3 : decode cL_law 3 = .ok (.dup, 1) := dk_89 (dk_at dksL_law_0 3 rfl rfl)
theorem dL_law_4 : decode cL_law 4 = .ok (.invokespecial 9, 3) := dk_183 0 9 (dk_at dksL_law_0 4 rfl rfl)
theorem dL_law_7 : decode cL_law 7 = .ok (.astore_n 1, 1) := dk_76 (dk_at dksL_law_0 7 rfl rfl)
theorem dL_law_8 : decode cL_law 8 = .ok (.new 10, 3) := dk_187 0 10 (dk_at dksL_law_0 8 rfl rfl)
theorem dL_law_11 : decode cL_law 11 = .ok (.dup, 1) := dk_89 (dk_at dksL_law_0 11 rfl rfl)
theorem dL_law_12 : decode cL_law 12 = .ok (.invokespecial 12, 3) := dk_183 0 12 (dk_at dksL_law_0 12 rfl rfl)
theorem dL_law_15 : decode cL_law 15 = .ok (.astore_n 2, 1) := dk_77 (dk_at dksL_law_0 15 rfl rfl)
theorem dL_law_16 : decode cL_law 16 = .ok (.iconst 0, 1) := dk_3 (dk_at dksL_law_0 16 rfl rfl)
theorem dL_law_17 : decode cL_law 17 = .ok (.istore_n 3, 1) := dk_62 (dk_at dksL_law_0 17 rfl rfl)
theorem dL_law_18 : decode cL_law 18 = .ok (.iload_n 3, 1) := dk_29 (dk_at dksL_law_0 18 rfl rfl)
theorem dL_law_19 : decode cL_law 19 = .ok (.aload_n 0, 1) := dk_42 (dk_at dksL_law_0 19 rfl rfl)
theorem dL_law_20 : decode cL_law 20 = .ok (.arraylength, 1) := dk_190 (dk_at dksL_law_0 20 rfl rfl)
theorem dL_law_21 : decode cL_law 21 = .ok (.bipush 6, 2) := dk_16 6 (dk_at dksL_law_0 21 rfl rfl)
theorem dL_law_23 : decode cL_law 23 = .ok (.isub, 1) := dk_100 (dk_at dksL_law_0 23 rfl rfl)
theorem dL_law_24 : decode cL_law 24 = .ok (.if_icmp .gt 201, 3) := dk_163 0 201 (dk_at dksL_law_1 0 rfl rfl)
theorem dL_law_27 : decode cL_law 27 = .ok (.aload_n 0, 1) := dk_42 (dk_at dksL_law_1 3 rfl rfl)
theorem dL_law_28 : decode cL_law 28 = .ok (.iload_n 3, 1) := dk_29 (dk_at dksL_law_1 4 rfl rfl)
theorem dL_law_29 : decode cL_law 29 = .ok (.iaload, 1) := dk_46 (dk_at dksL_law_1 5 rfl rfl)
theorem dL_law_30 : decode cL_law 30 = .ok (.bipush 7, 2) := dk_16 7 (dk_at dksL_law_1 6 rfl rfl)
theorem dL_law_32 : decode cL_law 32 = .ok (.iand, 1) := dk_126 (dk_at dksL_law_1 8 rfl rfl)
theorem dL_law_33 : decode cL_law 33 = .ok (.tableswitch 186 0 4 #[35, 66, 117, 140, 163], 35) := by decide +kernel
theorem dL_law_68 : decode cL_law 68 = .ok (.aload_n 1, 1) := dk_43 (dk_at dksL_law_3 0 rfl rfl)
theorem dL_law_69 : decode cL_law 69 = .ok (.aload_n 0, 1) := dk_42 (dk_at dksL_law_3 1 rfl rfl)
theorem dL_law_70 : decode cL_law 70 = .ok (.iload_n 3, 1) := dk_29 (dk_at dksL_law_3 2 rfl rfl)
theorem dL_law_71 : decode cL_law 71 = .ok (.iconst 1, 1) := dk_4 (dk_at dksL_law_3 3 rfl rfl)
theorem dL_law_72 : decode cL_law 72 = .ok (.iadd, 1) := dk_96 (dk_at dksL_law_3 4 rfl rfl)
theorem dL_law_73 : decode cL_law 73 = .ok (.iaload, 1) := dk_46 (dk_at dksL_law_3 5 rfl rfl)
theorem dL_law_74 : decode cL_law 74 = .ok (.aload_n 0, 1) := dk_42 (dk_at dksL_law_3 6 rfl rfl)
theorem dL_law_75 : decode cL_law 75 = .ok (.iload_n 3, 1) := dk_29 (dk_at dksL_law_3 7 rfl rfl)
theorem dL_law_76 : decode cL_law 76 = .ok (.iconst 2, 1) := dk_5 (dk_at dksL_law_3 8 rfl rfl)
theorem dL_law_77 : decode cL_law 77 = .ok (.iadd, 1) := dk_96 (dk_at dksL_law_3 9 rfl rfl)
theorem dL_law_78 : decode cL_law 78 = .ok (.iaload, 1) := dk_46 (dk_at dksL_law_3 10 rfl rfl)
theorem dL_law_79 : decode cL_law 79 = .ok (.invokevirtual 13, 3) := dk_182 0 13 (dk_at dksL_law_3 11 rfl rfl)
theorem dL_law_82 : decode cL_law 82 = .ok (.aload_n 2, 1) := dk_44 (dk_at dksL_law_3 14 rfl rfl)
theorem dL_law_83 : decode cL_law 83 = .ok (.aload_n 0, 1) := dk_42 (dk_at dksL_law_3 15 rfl rfl)
theorem dL_law_84 : decode cL_law 84 = .ok (.iload_n 3, 1) := dk_29 (dk_at dksL_law_3 16 rfl rfl)
theorem dL_law_85 : decode cL_law 85 = .ok (.iconst 1, 1) := dk_4 (dk_at dksL_law_3 17 rfl rfl)
theorem dL_law_86 : decode cL_law 86 = .ok (.iadd, 1) := dk_96 (dk_at dksL_law_3 18 rfl rfl)
theorem dL_law_87 : decode cL_law 87 = .ok (.iaload, 1) := dk_46 (dk_at dksL_law_3 19 rfl rfl)
theorem dL_law_88 : decode cL_law 88 = .ok (.aload_n 0, 1) := dk_42 (dk_at dksL_law_3 20 rfl rfl)
theorem dL_law_89 : decode cL_law 89 = .ok (.iload_n 3, 1) := dk_29 (dk_at dksL_law_3 21 rfl rfl)
theorem dL_law_90 : decode cL_law 90 = .ok (.iconst 2, 1) := dk_5 (dk_at dksL_law_3 22 rfl rfl)
theorem dL_law_91 : decode cL_law 91 = .ok (.iadd, 1) := dk_96 (dk_at dksL_law_3 23 rfl rfl)
theorem dL_law_92 : decode cL_law 92 = .ok (.iaload, 1) := dk_46 (dk_at dksL_law_4 0 rfl rfl)
theorem dL_law_93 : decode cL_law 93 = .ok (.invokevirtual 17, 3) := dk_182 0 17 (dk_at dksL_law_4 1 rfl rfl)
theorem dL_law_96 : decode cL_law 96 = .ok (.goto 123, 3) := dk_167 0 123 (dk_at dksL_law_4 4 rfl rfl)
theorem dL_law_99 : decode cL_law 99 = .ok (.aload_n 1, 1) := dk_43 (dk_at dksL_law_4 7 rfl rfl)
theorem dL_law_100 : decode cL_law 100 = .ok (.aload_n 0, 1) := dk_42 (dk_at dksL_law_4 8 rfl rfl)
theorem dL_law_101 : decode cL_law 101 = .ok (.iload_n 3, 1) := dk_29 (dk_at dksL_law_4 9 rfl rfl)
theorem dL_law_102 : decode cL_law 102 = .ok (.iconst 1, 1) := dk_4 (dk_at dksL_law_4 10 rfl rfl)
theorem dL_law_103 : decode cL_law 103 = .ok (.iadd, 1) := dk_96 (dk_at dksL_law_4 11 rfl rfl)
theorem dL_law_104 : decode cL_law 104 = .ok (.iaload, 1) := dk_46 (dk_at dksL_law_4 12 rfl rfl)
theorem dL_law_105 : decode cL_law 105 = .ok (.aload_n 0, 1) := dk_42 (dk_at dksL_law_4 13 rfl rfl)
theorem dL_law_106 : decode cL_law 106 = .ok (.iload_n 3, 1) := dk_29 (dk_at dksL_law_4 14 rfl rfl)
theorem dL_law_107 : decode cL_law 107 = .ok (.iconst 2, 1) := dk_5 (dk_at dksL_law_4 15 rfl rfl)
theorem dL_law_108 : decode cL_law 108 = .ok (.iadd, 1) := dk_96 (dk_at dksL_law_4 16 rfl rfl)
theorem dL_law_109 : decode cL_law 109 = .ok (.iaload, 1) := dk_46 (dk_at dksL_law_4 17 rfl rfl)
theorem dL_law_110 : decode cL_law 110 = .ok (.aload_n 0, 1) := dk_42 (dk_at dksL_law_4 18 rfl rfl)
theorem dL_law_111 : decode cL_law 111 = .ok (.iload_n 3, 1) := dk_29 (dk_at dksL_law_4 19 rfl rfl)
theorem dL_law_112 : decode cL_law 112 = .ok (.iconst 3, 1) := dk_6 (dk_at dksL_law_4 20 rfl rfl)
theorem dL_law_113 : decode cL_law 113 = .ok (.iadd, 1) := dk_96 (dk_at dksL_law_4 21 rfl rfl)
theorem dL_law_114 : decode cL_law 114 = .ok (.iaload, 1) := dk_46 (dk_at dksL_law_4 22 rfl rfl)
theorem dL_law_115 : decode cL_law 115 = .ok (.aload_n 0, 1) := dk_42 (dk_at dksL_law_4 23 rfl rfl)
theorem dL_law_116 : decode cL_law 116 = .ok (.iload_n 3, 1) := dk_29 (dk_at dksL_law_5 0 rfl rfl)
theorem dL_law_117 : decode cL_law 117 = .ok (.iconst 4, 1) := dk_7 (dk_at dksL_law_5 1 rfl rfl)
theorem dL_law_118 : decode cL_law 118 = .ok (.iadd, 1) := dk_96 (dk_at dksL_law_5 2 rfl rfl)
theorem dL_law_119 : decode cL_law 119 = .ok (.iaload, 1) := dk_46 (dk_at dksL_law_5 3 rfl rfl)
theorem dL_law_120 : decode cL_law 120 = .ok (.invokevirtual 18, 3) := dk_182 0 18 (dk_at dksL_law_5 4 rfl rfl)
theorem dL_law_123 : decode cL_law 123 = .ok (.aload_n 2, 1) := dk_44 (dk_at dksL_law_5 7 rfl rfl)
theorem dL_law_124 : decode cL_law 124 = .ok (.aload_n 0, 1) := dk_42 (dk_at dksL_law_5 8 rfl rfl)
theorem dL_law_125 : decode cL_law 125 = .ok (.iload_n 3, 1) := dk_29 (dk_at dksL_law_5 9 rfl rfl)
theorem dL_law_126 : decode cL_law 126 = .ok (.iconst 1, 1) := dk_4 (dk_at dksL_law_5 10 rfl rfl)
theorem dL_law_127 : decode cL_law 127 = .ok (.iadd, 1) := dk_96 (dk_at dksL_law_5 11 rfl rfl)
theorem dL_law_128 : decode cL_law 128 = .ok (.iaload, 1) := dk_46 (dk_at dksL_law_5 12 rfl rfl)
theorem dL_law_129 : decode cL_law 129 = .ok (.aload_n 0, 1) := dk_42 (dk_at dksL_law_5 13 rfl rfl)
theorem dL_law_130 : decode cL_law 130 = .ok (.iload_n 3, 1) := dk_29 (dk_at dksL_law_5 14 rfl rfl)
theorem dL_law_131 : decode cL_law 131 = .ok (.iconst 2, 1) := dk_5 (dk_at dksL_law_5 15 rfl rfl)
theorem dL_law_132 : decode cL_law 132 = .ok (.iadd, 1) := dk_96 (dk_at dksL_law_5 16 rfl rfl)
theorem dL_law_133 : decode cL_law 133 = .ok (.iaload, 1) := dk_46 (dk_at dksL_law_5 17 rfl rfl)
theorem dL_law_134 : decode cL_law 134 = .ok (.aload_n 0, 1) := dk_42 (dk_at dksL_law_5 18 rfl rfl)
theorem dL_law_135 : decode cL_law 135 = .ok (.iload_n 3, 1) := dk_29 (dk_at dksL_law_5 19 rfl rfl)
theorem dL_law_136 : decode cL_law 136 = .ok (.iconst 3, 1) := dk_6 (dk_at dksL_law_5 20 rfl rfl)
theorem dL_law_137 : decode cL_law 137 = .ok (.iadd, 1) := dk_96 (dk_at dksL_law_5 21 rfl rfl)
theorem dL_law_138 : decode cL_law 138 = .ok (.iaload, 1) := dk_46 (dk_at dksL_law_5 22 rfl rfl)
theorem dL_law_139 : decode cL_law 139 = .ok (.aload_n 0, 1) := dk_42 (dk_at dksL_law_5 23 rfl rfl)
theorem dL_law_140 : decode cL_law 140 = .ok (.iload_n 3, 1) := dk_29 (dk_at dksL_law_6 0 rfl rfl)
theorem dL_law_141 : decode cL_law 141 = .ok (.iconst 4, 1) := dk_7 (dk_at dksL_law_6 1 rfl rfl)
theorem dL_law_142 : decode cL_law 142 = .ok (.iadd, 1) := dk_96 (dk_at dksL_law_6 2 rfl rfl)
theorem dL_law_143 : decode cL_law 143 = .ok (.iaload, 1) := dk_46 (dk_at dksL_law_6 3 rfl rfl)
theorem dL_law_144 : decode cL_law 144 = .ok (.invokevirtual 22, 3) := dk_182 0 22 (dk_at dksL_law_6 4 rfl rfl)
theorem dL_law_147 : decode cL_law 147 = .ok (.goto 72, 3) := dk_167 0 72 (dk_at dksL_law_6 7 rfl rfl)
theorem dL_law_150 : decode cL_law 150 = .ok (.aload_n 1, 1) := dk_43 (dk_at dksL_law_6 10 rfl rfl)
theorem dL_law_151 : decode cL_law 151 = .ok (.aload_n 0, 1) := dk_42 (dk_at dksL_law_6 11 rfl rfl)
theorem dL_law_152 : decode cL_law 152 = .ok (.iload_n 3, 1) := dk_29 (dk_at dksL_law_6 12 rfl rfl)
theorem dL_law_153 : decode cL_law 153 = .ok (.iconst 1, 1) := dk_4 (dk_at dksL_law_6 13 rfl rfl)
theorem dL_law_154 : decode cL_law 154 = .ok (.iadd, 1) := dk_96 (dk_at dksL_law_6 14 rfl rfl)
theorem dL_law_155 : decode cL_law 155 = .ok (.iaload, 1) := dk_46 (dk_at dksL_law_6 15 rfl rfl)
theorem dL_law_156 : decode cL_law 156 = .ok (.invokevirtual 23, 3) := dk_182 0 23 (dk_at dksL_law_6 16 rfl rfl)
theorem dL_law_159 : decode cL_law 159 = .ok (.aload_n 2, 1) := dk_44 (dk_at dksL_law_6 19 rfl rfl)
theorem dL_law_160 : decode cL_law 160 = .ok (.aload_n 0, 1) := dk_42 (dk_at dksL_law_6 20 rfl rfl)
theorem dL_law_161 : decode cL_law 161 = .ok (.iload_n 3, 1) := dk_29 (dk_at dksL_law_6 21 rfl rfl)
theorem dL_law_162 : decode cL_law 162 = .ok (.iconst 1, 1) := dk_4 (dk_at dksL_law_6 22 rfl rfl)
theorem dL_law_163 : decode cL_law 163 = .ok (.iadd, 1) := dk_96 (dk_at dksL_law_6 23 rfl rfl)
theorem dL_law_164 : decode cL_law 164 = .ok (.iaload, 1) := dk_46 (dk_at dksL_law_7 0 rfl rfl)
theorem dL_law_165 : decode cL_law 165 = .ok (.invokevirtual 27, 3) := dk_182 0 27 (dk_at dksL_law_7 1 rfl rfl)
theorem dL_law_168 : decode cL_law 168 = .ok (.if_icmp .eq 51, 3) := dk_159 0 51 (dk_at dksL_law_7 4 rfl rfl)
theorem dL_law_171 : decode cL_law 171 = .ok (.iconst 0, 1) := dk_3 (dk_at dksL_law_7 7 rfl rfl)
theorem dL_law_172 : decode cL_law 172 = .ok (.ireturn, 1) := dk_172 (dk_at dksL_law_7 8 rfl rfl)
theorem dL_law_173 : decode cL_law 173 = .ok (.aload_n 1, 1) := dk_43 (dk_at dksL_law_7 9 rfl rfl)
theorem dL_law_174 : decode cL_law 174 = .ok (.aload_n 0, 1) := dk_42 (dk_at dksL_law_7 10 rfl rfl)
theorem dL_law_175 : decode cL_law 175 = .ok (.iload_n 3, 1) := dk_29 (dk_at dksL_law_7 11 rfl rfl)
theorem dL_law_176 : decode cL_law 176 = .ok (.iconst 1, 1) := dk_4 (dk_at dksL_law_7 12 rfl rfl)
theorem dL_law_177 : decode cL_law 177 = .ok (.iadd, 1) := dk_96 (dk_at dksL_law_7 13 rfl rfl)
theorem dL_law_178 : decode cL_law 178 = .ok (.iaload, 1) := dk_46 (dk_at dksL_law_7 14 rfl rfl)
theorem dL_law_179 : decode cL_law 179 = .ok (.invokevirtual 28, 3) := dk_182 0 28 (dk_at dksL_law_7 15 rfl rfl)
theorem dL_law_182 : decode cL_law 182 = .ok (.aload_n 2, 1) := dk_44 (dk_at dksL_law_7 18 rfl rfl)
theorem dL_law_183 : decode cL_law 183 = .ok (.aload_n 0, 1) := dk_42 (dk_at dksL_law_7 19 rfl rfl)
theorem dL_law_184 : decode cL_law 184 = .ok (.iload_n 3, 1) := dk_29 (dk_at dksL_law_7 20 rfl rfl)
theorem dL_law_185 : decode cL_law 185 = .ok (.iconst 1, 1) := dk_4 (dk_at dksL_law_7 21 rfl rfl)
theorem dL_law_186 : decode cL_law 186 = .ok (.iadd, 1) := dk_96 (dk_at dksL_law_7 22 rfl rfl)
theorem dL_law_187 : decode cL_law 187 = .ok (.iaload, 1) := dk_46 (dk_at dksL_law_7 23 rfl rfl)
theorem dL_law_188 : decode cL_law 188 = .ok (.invokevirtual 31, 3) := dk_182 0 31 (dk_at dksL_law_8 0 rfl rfl)
theorem dL_law_191 : decode cL_law 191 = .ok (.if_icmp .eq 28, 3) := dk_159 0 28 (dk_at dksL_law_8 3 rfl rfl)
theorem dL_law_194 : decode cL_law 194 = .ok (.iconst 0, 1) := dk_3 (dk_at dksL_law_8 6 rfl rfl)
theorem dL_law_195 : decode cL_law 195 = .ok (.ireturn, 1) := dk_172 (dk_at dksL_law_8 7 rfl rfl)
theorem dL_law_196 : decode cL_law 196 = .ok (.aload_n 1, 1) := dk_43 (dk_at dksL_law_8 8 rfl rfl)
theorem dL_law_197 : decode cL_law 197 = .ok (.aload_n 0, 1) := dk_42 (dk_at dksL_law_8 9 rfl rfl)
theorem dL_law_198 : decode cL_law 198 = .ok (.iload_n 3, 1) := dk_29 (dk_at dksL_law_8 10 rfl rfl)
theorem dL_law_199 : decode cL_law 199 = .ok (.iconst 1, 1) := dk_4 (dk_at dksL_law_8 11 rfl rfl)
theorem dL_law_200 : decode cL_law 200 = .ok (.iadd, 1) := dk_96 (dk_at dksL_law_8 12 rfl rfl)
theorem dL_law_201 : decode cL_law 201 = .ok (.iaload, 1) := dk_46 (dk_at dksL_law_8 13 rfl rfl)
theorem dL_law_202 : decode cL_law 202 = .ok (.invokevirtual 32, 3) := dk_182 0 32 (dk_at dksL_law_8 14 rfl rfl)
theorem dL_law_205 : decode cL_law 205 = .ok (.aload_n 2, 1) := dk_44 (dk_at dksL_law_8 17 rfl rfl)
theorem dL_law_206 : decode cL_law 206 = .ok (.aload_n 0, 1) := dk_42 (dk_at dksL_law_8 18 rfl rfl)
theorem dL_law_207 : decode cL_law 207 = .ok (.iload_n 3, 1) := dk_29 (dk_at dksL_law_8 19 rfl rfl)
theorem dL_law_208 : decode cL_law 208 = .ok (.iconst 1, 1) := dk_4 (dk_at dksL_law_8 20 rfl rfl)
theorem dL_law_209 : decode cL_law 209 = .ok (.iadd, 1) := dk_96 (dk_at dksL_law_8 21 rfl rfl)
theorem dL_law_210 : decode cL_law 210 = .ok (.iaload, 1) := dk_46 (dk_at dksL_law_8 22 rfl rfl)
theorem dL_law_211 : decode cL_law 211 = .ok (.invokevirtual 34, 3) := dk_182 0 34 (dk_at dksL_law_9 0 rfl rfl)
theorem dL_law_214 : decode cL_law 214 = .ok (.if_icmp .eq 5, 3) := dk_159 0 5 (dk_at dksL_law_9 3 rfl rfl)
theorem dL_law_217 : decode cL_law 217 = .ok (.iconst 0, 1) := dk_3 (dk_at dksL_law_9 6 rfl rfl)
theorem dL_law_218 : decode cL_law 218 = .ok (.ireturn, 1) := dk_172 (dk_at dksL_law_9 7 rfl rfl)
theorem dL_law_219 : decode cL_law 219 = .ok (.iinc 3 6, 3) := dk_132 3 6 (dk_at dksL_law_9 8 rfl rfl)
theorem dL_law_222 : decode cL_law 222 = .ok (.goto (-204), 3) := dk_167 255 52 (dk_at dksL_law_9 11 rfl rfl)
theorem dL_law_225 : decode cL_law 225 = .ok (.iconst 1, 1) := dk_4 (dk_at dksL_law_9 14 rfl rfl)
theorem dL_law_226 : decode cL_law 226 = .ok (.ireturn, 1) := dk_172 (dk_at dksL_law_9 15 rfl rfl)

theorem q22 : (Jvm.Cond.arrayClass Jvm.ClassFile.FieldType.int) ∈ lw_all := lw_g (lw_at lw_m0 16 rfl) rfl
set_option maxRecDepth 100000

theorem q6 : (Jvm.Cond.initialized "BarValueDeskLaw") ∈ lw_all := lw_g (lw_at lw_m0 0 rfl) rfl
set_option maxRecDepth 100000
theorem q10 : (Jvm.Cond.classLink "BarValueDeskLaw" (7 : Nat) "BarValueDesk") ∈ lw_all := lw_g (lw_at lw_m0 4 rfl) rfl
theorem q12 : (Jvm.Cond.methodLink "BarValueDeskLaw" (9 : Nat) ({ cls := "BarValueDesk", name := "<init>", desc := "()V" } : Jvm.MethodName)) ∈ lw_all := lw_g (lw_at lw_m0 6 rfl) rfl
theorem q23 : (Jvm.Cond.methodLink "BarValueDeskLaw" (13 : Nat) ({ cls := "BarValueDesk", name := "width", desc := "(II)V" } : Jvm.MethodName)) ∈ lw_all := lw_g (lw_at lw_m0 17 rfl) rfl
theorem q27 : (Jvm.Cond.methodLink "BarValueDeskLaw" (18 : Nat) ({ cls := "BarValueDesk", name := "widths", desc := "(IIII)V" } : Jvm.MethodName)) ∈ lw_all := lw_g (lw_at lw_m0 21 rfl) rfl
theorem q31 : (Jvm.Cond.methodLink "BarValueDeskLaw" (23 : Nat) ({ cls := "BarValueDesk", name := "value", desc := "(I)I" } : Jvm.MethodName)) ∈ lw_all := lw_g (lw_at lw_m0 25 rfl) rfl
theorem q50 : (Jvm.Cond.methodLink "BarValueDeskLaw" (28 : Nat) ({ cls := "BarValueDesk", name := "withNarrow", desc := "(I)I" } : Jvm.MethodName)) ∈ lw_all := lw_g (lw_at lw_m0 44 rfl) rfl
theorem q58 : (Jvm.Cond.methodLink "BarValueDeskLaw" (32 : Nat) ({ cls := "BarValueDesk", name := "width", desc := "(I)I" } : Jvm.MethodName)) ∈ lw_all := lw_g (lw_at lw_m0 52 rfl) rfl
theorem q62 : (Jvm.Cond.classLink "BarValueDeskLaw" (10 : Nat) "BarValueDeskModel") ∈ lw_all := lw_g (lw_at lw_m0 56 rfl) rfl
theorem q64 : (Jvm.Cond.methodLink "BarValueDeskLaw" (12 : Nat) ({ cls := "BarValueDeskModel", name := "<init>", desc := "()V" } : Jvm.MethodName)) ∈ lw_all := lw_g (lw_at lw_m0 58 rfl) rfl
theorem q72 : (Jvm.Cond.methodLink "BarValueDeskLaw" (17 : Nat) ({ cls := "BarValueDeskModel", name := "width", desc := "(II)V" } : Jvm.MethodName)) ∈ lw_all := lw_g (lw_at lw_m0 66 rfl) rfl
theorem q76 : (Jvm.Cond.methodLink "BarValueDeskLaw" (22 : Nat) ({ cls := "BarValueDeskModel", name := "widths", desc := "(IIII)V" } : Jvm.MethodName)) ∈ lw_all := lw_g (lw_at lw_m0 70 rfl) rfl
theorem q81 : (Jvm.Cond.methodLink "BarValueDeskLaw" (34 : Nat) ({ cls := "BarValueDeskModel", name := "width", desc := "(I)I" } : Jvm.MethodName)) ∈ lw_all := lw_g (lw_at lw_m0 75 rfl) rfl
theorem q85 : (Jvm.Cond.methodLink "BarValueDeskLaw" (27 : Nat) ({ cls := "BarValueDeskModel", name := "value", desc := "(I)I" } : Jvm.MethodName)) ∈ lw_all := lw_g (lw_at lw_m0 79 rfl) rfl
theorem q102 : (Jvm.Cond.methodLink "BarValueDeskLaw" (31 : Nat) ({ cls := "BarValueDeskModel", name := "withNarrow", desc := "(I)I" } : Jvm.MethodName)) ∈ lw_all := lw_g (lw_at lw_m0 96 rfl) rfl

/-- the classes whose objects the worlds hold -/
abbrev vwCl : List vw_C := [(RX0, TX0, 1), (RX1, TX1, 1)]
end
section
/-! THE PLAIN LAW: numbers alone, no machine -/
/-- the sum of g 1 .. g k -/
def sumE (g : Nat → Int) : Nat → Int
  | 0 => 0
  | k + 1 => sumE g k + g (k + 1)
/-- what combins answers, for r up to 2 -/
def cb (n r : Int) : Int := if r = 0 then 1 else if r = 1 then n else n * (n - 1) / 2
/-- the loop over mxwElement: m + K, .., m + 1 -/
def lessK (b t m : Int) : Nat → Int
  | 0 => 0
  | K + 1 => cb (t - (m + (K : Int) + 1) - 1) (4 - b - 3) + lessK b t m K
/-- subVal as far as the narrow condition goes (t: the sum that is left) -/
def s1Z (b t np : Int) : Int := cb (t - 1) (4 - b - 2) - (if np ≠ 0 ∧ 4 - b - 1 ≤ t - (4 - b - 1) then cb (t - (4 - b)) (4 - b - 2) else 0)
/-- .. and behind the widest -/
def tailZ (b t m s1 : Int) : Int := if 1 < 4 - b - 1 then s1 - lessK b t m (t - (4 - b - 2) - m).toNat * (4 - 1 - b) else if m < t then s1 - 1 else s1
/-- one step of the inner loop's sum -/
def subZ (b t m np : Int) : Int := tailZ b t m (s1Z b t np)
theorem s1Z_no {b t np : Int} (h : np = 0 ∨ t - (4 - b - 1) < 4 - b - 1) : s1Z b t np = cb (t - 1) (4 - b - 2) := by
  unfold s1Z
  rw [if_neg (by omega), Int.sub_zero]
theorem s1Z_yes {b t np : Int} (h : np ≠ 0) (h2 : 4 - b - 1 ≤ t - (4 - b - 1)) : s1Z b t np = cb (t - 1) (4 - b - 2) - cb (t - (4 - b)) (4 - b - 2) := by
  unfold s1Z
  rw [if_pos ⟨h, h2⟩]
theorem tailZ_1 {b t m s1 : Int} (h : 1 < 4 - b - 1) : tailZ b t m s1 = s1 - lessK b t m (t - (4 - b - 2) - m).toNat * (4 - 1 - b) := by
  unfold tailZ
  rw [if_pos h]
theorem tailZ_2 {b t m s1 : Int} (h : 4 - b - 1 ≤ 1) (h2 : m < t) : tailZ b t m s1 = s1 + (-1) := by
  unfold tailZ
  rw [if_neg (by omega), if_pos h2]
  rfl
theorem tailZ_3 {b t m s1 : Int} (h : 4 - b - 1 ≤ 1) (h2 : t ≤ m) : tailZ b t m s1 = s1 := by
  unfold tailZ
  rw [if_neg (by omega), if_neg (by omega)]
/-- does the narrow condition still ask, at the element width e -/
def npF (nn pn : Int) (e : Nat) : Int := if pn = 0 ∧ e ≠ 1 then nn else 0
def pnF (pn : Int) (w : Nat) : Int := if w = 1 then 1 else pn
def barZ (b n m nn pn : Int) (w : Nat) : Int := sumE (fun e => subZ b (n - (e : Int)) m (npF nn pn e)) (w - 1)
def rssZ (w0 w1 w2 w3 : Nat) (m nn : Int) : Int :=
  barZ 0 ((w0 : Int) + w1 + w2 + w3) m nn 0 w0 + barZ 1 ((w1 : Int) + w2 + w3) m nn (pnF 0 w0) w1 + barZ 2 ((w2 : Int) + w3) m nn (pnF (pnF 0 w0) w1) w2
/-- one row of the reference's count -/
def rowZ (s m nn w0 w1 w2 a b c : Int) : Int :=
  if (1 ≤ s - a - b - c ∧ s - a - b - c ≤ m ∧ (nn = 0 ∨ a = 1 ∨ b = 1 ∨ c = 1 ∨ s - a - b - c = 1)) ∧ (a < w0 ∨ (a = w0 ∧ (b < w1 ∨ (b = w1 ∧ c < w2)))) then 1 else 0
def aheadZ (w0 w1 w2 : Nat) (s : Int) (m : Nat) (nn : Int) : Int :=
  sumE (fun a => sumE (fun b => sumE (fun c => rowZ s m nn w0 w1 w2 a b c) m) m) m
/-! sums -/
theorem sumE_congr {g h : Nat → Int} : ∀ k : Nat, (∀ e, 1 ≤ e → e ≤ k → g e = h e) → sumE g k = sumE h k
  | 0, _ => rfl
  | k + 1, H => by
    show sumE g k + g (k + 1) = sumE h k + h (k + 1)
    rw [sumE_congr k (fun e h1 h2 => H e h1 (by omega)), H (k + 1) (by omega) (by omega)]
theorem sumE_zero {g : Nat → Int} : ∀ k : Nat, (∀ e, 1 ≤ e → e ≤ k → g e = 0) → sumE g k = 0
  | 0, _ => rfl
  | k + 1, H => by
    show sumE g k + g (k + 1) = 0
    rw [sumE_zero k (fun e h1 h2 => H e h1 (by omega)), H (k + 1) (by omega) (by omega)]
    rfl
theorem sumE_cut {g : Nat → Int} {w : Nat} (h1 : 1 ≤ w) : ∀ m : Nat, w ≤ m → (∀ e, w < e → e ≤ m → g e = 0) → sumE g m = sumE g (w - 1) + g w
  | 0, h, _ => by omega
  | m + 1, h, H => by
    show sumE g m + g (m + 1) = _
    by_cases e : w = m + 1
    · subst e
      rfl
    · rw [sumE_cut h1 m (by omega) (fun e a b => H e a (by omega)), H (m + 1) (by omega) (by omega), Int.add_zero]
/-! the counts of the rows behind a first element, and what the subtractions come to -/
def R2 (t m np : Int) : Int := if 1 ≤ t ∧ t ≤ m ∧ (np = 0 ∨ t = 1) then 1 else 0
def R1 (t : Int) (m : Nat) (np : Int) : Int := sumE (fun c => if 1 ≤ t - (c : Int) ∧ t - (c : Int) ≤ m ∧ (np = 0 ∨ (c : Int) = 1 ∨ t - (c : Int) = 1) then 1 else 0) m
def R0 (t : Int) (m : Nat) (np : Int) : Int := sumE (fun b => sumE (fun c => if 1 ≤ t - (b : Int) - (c : Int) ∧ t - (b : Int) - (c : Int) ≤ m ∧ (np = 0 ∨ (b : Int) = 1 ∨ (c : Int) = 1 ∨ t - (b : Int) - (c : Int) = 1) then 1 else 0) m) m
set_option maxRecDepth 100000 in
theorem chk0_0 : ∀ m : Nat, m < 9 → ∀ t : Nat, t < 19 → (1 ≤ m ∧ 3 ≤ t ∧ t ≤ 2 * m + 2) → subZ 0 (t : Int) (m : Int) 0 = R0 (t : Int) m 0 := by decide +kernel
set_option maxRecDepth 100000 in
theorem chk0_1 : ∀ m : Nat, m < 9 → ∀ t : Nat, t < 19 → (1 ≤ m ∧ 3 ≤ t ∧ t ≤ 2 * m + 2 ∧ t ≤ m + 4) → subZ 0 (t : Int) (m : Int) 1 = R0 (t : Int) m 1 := by decide +kernel
set_option maxRecDepth 100000 in
theorem chk1_0 : ∀ m : Nat, m < 9 → ∀ t : Nat, t < 19 → (1 ≤ m ∧ 2 ≤ t ∧ t ≤ 2 * m + 1) → subZ 1 (t : Int) (m : Int) 0 = R1 (t : Int) m 0 := by decide +kernel
set_option maxRecDepth 100000 in
theorem chk1_1 : ∀ m : Nat, m < 9 → ∀ t : Nat, t < 19 → (1 ≤ m ∧ 2 ≤ t ∧ t ≤ m + 2) → subZ 1 (t : Int) (m : Int) 1 = R1 (t : Int) m 1 := by decide +kernel
set_option maxRecDepth 100000 in
theorem chk2_0 : ∀ m : Nat, m < 9 → ∀ t : Nat, t < 19 → (1 ≤ m ∧ 1 ≤ t) → subZ 2 (t : Int) (m : Int) 0 = R2 (t : Int) (m : Int) 0 := by decide +kernel
set_option maxRecDepth 100000 in
theorem chk2_1 : ∀ m : Nat, m < 9 → ∀ t : Nat, t < 19 → (1 ≤ m ∧ 1 ≤ t ∧ t ≤ m) → subZ 2 (t : Int) (m : Int) 1 = R2 (t : Int) (m : Int) 1 := by decide +kernel
theorem sub_0 {t np : Int} {m : Nat} (hm : 1 ≤ m ∧ m ≤ 8) (ht : 3 ≤ t ∧ t ≤ 2 * m + 2) (hnp : np = 0 ∨ (np = 1 ∧ t ≤ m + 4)) : subZ 0 t m np = R0 t m np := by
  obtain ⟨k, rfl⟩ := Int.eq_ofNat_of_zero_le (a := t) (by omega)
  rcases hnp with rfl | ⟨rfl, h⟩
  · exact chk0_0 m (by omega) k (by omega) (by omega)
  · exact chk0_1 m (by omega) k (by omega) (by omega)
theorem sub_1 {t np : Int} {m : Nat} (hm : 1 ≤ m ∧ m ≤ 8) (ht : 2 ≤ t ∧ t ≤ 2 * m + 1) (hnp : np = 0 ∨ (np = 1 ∧ t ≤ m + 2)) : subZ 1 t m np = R1 t m np := by
  obtain ⟨k, rfl⟩ := Int.eq_ofNat_of_zero_le (a := t) (by omega)
  rcases hnp with rfl | ⟨rfl, h⟩
  · exact chk1_0 m (by omega) k (by omega) (by omega)
  · exact chk1_1 m (by omega) k (by omega) (by omega)
theorem sub_2 {t np : Int} {m : Nat} (hm : 1 ≤ m ∧ m ≤ 8) (ht : 1 ≤ t ∧ t ≤ 18) (hnp : np = 0 ∨ (np = 1 ∧ t ≤ m)) : subZ 2 t m np = R2 t m np := by
  obtain ⟨k, rfl⟩ := Int.eq_ofNat_of_zero_le (a := t) (by omega)
  rcases hnp with rfl | ⟨rfl, h⟩
  · exact chk2_0 m (by omega) k (by omega) (by omega)
  · exact chk2_1 m (by omega) k (by omega) (by omega)
theorem ite_iff {P Q : Prop} [Decidable P] [Decidable Q] (h : P ↔ Q) : (if P then (1 : Int) else 0) = if Q then 1 else 0 := by
  by_cases p : P
  · rw [if_pos p, if_pos (h.mp p)]
  · rw [if_neg p, if_neg (fun q => p (h.mpr q))]
theorem npF_0 (nn pn : Int) (e : Nat) : npF nn pn e = 0 ↔ (nn = 0 ∨ pn ≠ 0 ∨ e = 1) := by
  unfold npF
  by_cases h : pn = 0 ∧ e ≠ 1
  · rw [if_pos h]; omega
  · rw [if_neg h]; omega
theorem npF_01 {nn pn : Int} {e : Nat} (h : nn = 0 ∨ nn = 1) : npF nn pn e = 0 ∨ (npF nn pn e = 1 ∧ nn = 1 ∧ pn = 0 ∧ e ≠ 1) := by
  unfold npF
  by_cases g : pn = 0 ∧ e ≠ 1
  · rw [if_pos g]; omega
  · rw [if_neg g]; omega
theorem pnF_0 (pn : Int) (w : Nat) : pnF pn w = 0 ↔ (pn = 0 ∧ w ≠ 1) := by
  unfold pnF
  by_cases h : w = 1
  · rw [if_pos h]; omega
  · rw [if_neg h]; omega
theorem rowZ_0 {s m nn w0 w1 w2 a b c : Int} (h : ¬ (a < w0 ∨ (a = w0 ∧ (b < w1 ∨ (b = w1 ∧ c < w2))))) : rowZ s m nn w0 w1 w2 a b c = 0 := by
  unfold rowZ
  rw [if_neg (fun g => h g.2)]
/-- THE PLAIN LAW: what the library computes is the reference's count -/
theorem law_plain (w0 w1 w2 w3 m : Nat) (nn : Int) (h0 : 1 ≤ w0 ∧ w0 ≤ m) (h1 : 1 ≤ w1 ∧ w1 ≤ m) (h2 : 1 ≤ w2 ∧ w2 ≤ m) (h3 : 1 ≤ w3 ∧ w3 ≤ m) (hm : m ≤ 8) (hs : w0 + w1 + w2 + w3 < 2 * m + 4) (hn : nn = 0 ∨ (nn = 1 ∧ w0 + w1 + w2 + w3 < m + 7)) :
    rssZ w0 w1 w2 w3 m nn = aheadZ w0 w1 w2 ((w0 : Int) + w1 + w2 + w3) m nn := by
  have hm1 : 1 ≤ m ∧ m ≤ 8 := by omega
  have hn1 : nn = 0 ∨ nn = 1 := by omega
  have c0 : sumE (fun a => sumE (fun b => sumE (fun c => rowZ ((w0 : Int) + w1 + w2 + w3) m nn w0 w1 w2 a b c) m) m) m = sumE (fun a => sumE (fun b => sumE (fun c => rowZ ((w0 : Int) + w1 + w2 + w3) m nn w0 w1 w2 a b c) m) m) (w0 - 1) + sumE (fun b => sumE (fun c => rowZ ((w0 : Int) + w1 + w2 + w3) m nn w0 w1 w2 w0 b c) m) m :=
    sumE_cut (g := fun a => sumE (fun b => sumE (fun c => rowZ ((w0 : Int) + w1 + w2 + w3) m nn w0 w1 w2 a b c) m) m) h0.1 m h0.2 (fun e a b => sumE_zero m (fun x _ _ => sumE_zero m (fun y _ _ => rowZ_0 (by omega))))
  have c1 : sumE (fun b => sumE (fun c => rowZ ((w0 : Int) + w1 + w2 + w3) m nn w0 w1 w2 w0 b c) m) m = sumE (fun b => sumE (fun c => rowZ ((w0 : Int) + w1 + w2 + w3) m nn w0 w1 w2 w0 b c) m) (w1 - 1) + sumE (fun c => rowZ ((w0 : Int) + w1 + w2 + w3) m nn w0 w1 w2 w0 w1 c) m :=
    sumE_cut (g := fun b => sumE (fun c => rowZ ((w0 : Int) + w1 + w2 + w3) m nn w0 w1 w2 w0 b c) m) h1.1 m h1.2 (fun e a b => sumE_zero m (fun y _ _ => rowZ_0 (by omega)))
  have c2 : sumE (fun c => rowZ ((w0 : Int) + w1 + w2 + w3) m nn w0 w1 w2 w0 w1 c) m = sumE (fun c => rowZ ((w0 : Int) + w1 + w2 + w3) m nn w0 w1 w2 w0 w1 c) (w2 - 1) + rowZ ((w0 : Int) + w1 + w2 + w3) m nn w0 w1 w2 w0 w1 w2 :=
    sumE_cut (g := fun c => rowZ ((w0 : Int) + w1 + w2 + w3) m nn w0 w1 w2 w0 w1 c) h2.1 m h2.2 (fun e a b => rowZ_0 (by omega))
  have z : rowZ ((w0 : Int) + w1 + w2 + w3) m nn w0 w1 w2 w0 w1 w2 = 0 := rowZ_0 (by omega)
  rw [z, Int.add_zero] at c2
  have e0 : barZ 0 ((w0 : Int) + w1 + w2 + w3) m nn 0 w0 = sumE (fun a => sumE (fun b => sumE (fun c => rowZ ((w0 : Int) + w1 + w2 + w3) m nn w0 w1 w2 a b c) m) m) (w0 - 1) := by
    unfold barZ
    refine sumE_congr _ (fun a a1 a2 => ?_)
    have hp := npF_0 nn 0 a
    have hq := npF_01 (pn := 0) (e := a) hn1
    rw [sub_0 hm1 (by omega) (by omega)]
    unfold R0
    refine sumE_congr _ (fun b b1 b2 => sumE_congr _ (fun c c1 c2 => ?_))
    unfold rowZ
    refine ite_iff ?_
    omega
  have e1 : barZ 1 ((w1 : Int) + w2 + w3) m nn (pnF 0 w0) w1 = sumE (fun b => sumE (fun c => rowZ ((w0 : Int) + w1 + w2 + w3) m nn w0 w1 w2 w0 b c) m) (w1 - 1) := by
    unfold barZ
    refine sumE_congr _ (fun b b1 b2 => ?_)
    have hg := pnF_0 0 w0
    have hp := npF_0 nn (pnF 0 w0) b
    have hq := npF_01 (pn := pnF 0 w0) (e := b) hn1
    rw [sub_1 hm1 (by omega) (by omega)]
    unfold R1
    refine sumE_congr _ (fun c c1 c2 => ?_)
    unfold rowZ
    refine ite_iff ?_
    omega
  have e2 : barZ 2 ((w2 : Int) + w3) m nn (pnF (pnF 0 w0) w1) w2 = sumE (fun c => rowZ ((w0 : Int) + w1 + w2 + w3) m nn w0 w1 w2 w0 w1 c) (w2 - 1) := by
    unfold barZ
    refine sumE_congr _ (fun c c1 c2 => ?_)
    have hg := pnF_0 0 w0
    have hg2 := pnF_0 (pnF 0 w0) w1
    have hp := npF_0 nn (pnF (pnF 0 w0) w1) c
    have hq := npF_01 (pn := pnF (pnF 0 w0) w1) (e := c) hn1
    rw [sub_2 hm1 (by omega) (by omega)]
    unfold R2 rowZ
    refine ite_iff ?_
    omega
  unfold rssZ aheadZ
  rw [c0, c1, c2, e0, e1, e2, Int.add_assoc]
/-! the widest, and the most: as both classes compute them -/
def mxF (z : Nat) (w : Nat → Nat) : Nat → Nat
  | 0 => z
  | k + 1 => if mxF z w k < w k then w k else mxF z w k
def mstF (W q : Nat) : Nat := W + q % (9 - W)
def s4 (w : Nat → Nat) : Int := (w 0 : Int) + w 1 + w 2 + w 3
theorem mxF_10 {w : Nat → Nat} (h : 1 ≤ w 0) : ∀ k, mxF 1 w (k + 1) = mxF 0 w (k + 1)
  | 0 => by
    show (if 1 < w 0 then w 0 else 1) = if 0 < w 0 then w 0 else 0
    rw [if_pos (show 0 < w 0 by omega)]
    by_cases g : 1 < w 0
    · rw [if_pos g]
    · rw [if_neg g]; omega
  | k + 1 => by
    show (if mxF 1 w (k + 1) < w (k + 1) then w (k + 1) else mxF 1 w (k + 1)) = if mxF 0 w (k + 1) < w (k + 1) then w (k + 1) else mxF 0 w (k + 1)
    rw [mxF_10 h k]
theorem mxF_ge {z : Nat} {w : Nat → Nat} : ∀ k j, j < k → w j ≤ mxF z w k
  | 0, _, h => by omega
  | k + 1, j, h => by
    show w j ≤ if mxF z w k < w k then w k else mxF z w k
    by_cases e : j = k
    · subst e
      by_cases g : mxF z w j < w j
      · rw [if_pos g]; omega
      · rw [if_neg g]; omega
    · have := mxF_ge (z := z) (w := w) k j (by omega)
      by_cases g : mxF z w k < w k
      · rw [if_pos g]; omega
      · rw [if_neg g]; omega
theorem mxF_le {z N : Nat} {w : Nat → Nat} (hz : z ≤ N) : ∀ k, (∀ j, j < k → w j ≤ N) → mxF z w k ≤ N
  | 0, _ => hz
  | k + 1, h => by
    show (if mxF z w k < w k then w k else mxF z w k) ≤ N
    have h1 := h k (by omega)
    have h2 := mxF_le hz k (fun j hj => h j (by omega))
    by_cases g : mxF z w k < w k
    · rw [if_pos g]; exact h1
    · rw [if_neg g]; exact h2
theorem mstF_in {W q : Nat} (h : W ≤ 8) : W ≤ mstF W q ∧ mstF W q ≤ 8 := by
  unfold mstF
  have := Nat.mod_lt q (show 0 < 9 - W by omega)
  omega
/-- what both answer to value and to withNarrow -/
def valA (w : Nat → Nat) (m : Nat) : Int := if s4 w < 2 * (m : Int) + 4 then rssZ (w 0) (w 1) (w 2) (w 3) m 0 else -1
def valB (w : Nat → Nat) (m : Nat) : Int := if s4 w < 2 * (m : Int) + 4 then aheadZ (w 0) (w 1) (w 2) (s4 w) m 0 else -1
def narA (w : Nat → Nat) (m : Nat) : Int := if (w 0 = 1 ∨ w 1 = 1 ∨ w 2 = 1 ∨ w 3 = 1) ∧ s4 w < (m : Int) + 7 ∧ s4 w < 2 * (m : Int) + 4 then rssZ (w 0) (w 1) (w 2) (w 3) m 1 else -1
def narB (w : Nat → Nat) (m : Nat) : Int := if (w 0 = 1 ∨ w 1 = 1 ∨ w 2 = 1 ∨ w 3 = 1) ∧ s4 w < (m : Int) + 7 ∧ s4 w < 2 * (m : Int) + 4 then aheadZ (w 0) (w 1) (w 2) (s4 w) m 1 else -1
theorem val_eq {w : Nat → Nat} {m : Nat} (h : ∀ j, j < 4 → 1 ≤ w j ∧ w j ≤ m) (hm : m ≤ 8) : valA w m = valB w m := by
  have hs : s4 w = (w 0 : Int) + w 1 + w 2 + w 3 := rfl
  unfold valA valB
  by_cases c : s4 w < 2 * (m : Int) + 4
  · rw [if_pos c, if_pos c]
    exact law_plain (w 0) (w 1) (w 2) (w 3) m 0 (h 0 (by omega)) (h 1 (by omega)) (h 2 (by omega)) (h 3 (by omega)) hm (by omega) (Or.inl rfl)
  · rw [if_neg c, if_neg c]
theorem nar_eq {w : Nat → Nat} {m : Nat} (h : ∀ j, j < 4 → 1 ≤ w j ∧ w j ≤ m) (hm : m ≤ 8) : narA w m = narB w m := by
  have hs : s4 w = (w 0 : Int) + w 1 + w 2 + w 3 := rfl
  unfold narA narB
  by_cases c : (w 0 = 1 ∨ w 1 = 1 ∨ w 2 = 1 ∨ w 3 = 1) ∧ s4 w < (m : Int) + 7 ∧ s4 w < 2 * (m : Int) + 4
  · rw [if_pos c, if_pos c]
    obtain ⟨-, c1, c2⟩ := c
    exact law_plain (w 0) (w 1) (w 2) (w 3) m 1 (h 0 (by omega)) (h 1 (by omega)) (h 2 (by omega)) (h 3 (by omega)) hm (by omega) (Or.inr ⟨rfl, by omega⟩)
  · rw [if_neg c, if_neg c]
end
section
/-! the machine's ints as whole numbers: zI z is the int of z -/
def zI (z : Int) : Int32 := Int32.ofInt z
theorem zI_add (a b : Int) : zI a + zI b = zI (a + b) := (Int32.ofInt_add a b).symm
theorem zI_sub (a b : Int) : zI a - zI b = zI (a - b) := (Int32.ofInt_sub a b).symm
theorem zI_mul (a b : Int) : zI a * zI b = zI (a * b) := (Int32.ofInt_mul a b).symm
theorem zI_nat (n : Nat) : nI n = zI (n : Int) := (Int32.ofInt_eq_ofNat (n := n)).symm
theorem zI_toInt {a : Int} (h : -2147483648 ≤ a ∧ a < 2147483648) : (zI a).toInt = a := Int32.toInt_ofInt_of_le (by omega) (by omega)
theorem zI_le {a b : Int} (ha : -2147483648 ≤ a ∧ a < 2147483648) (hb : -2147483648 ≤ b ∧ b < 2147483648) : zI a ≤ zI b ↔ a ≤ b := by
  rw [Int32.le_iff_toInt_le, zI_toInt ha, zI_toInt hb]
theorem zI_lt {a b : Int} (ha : -2147483648 ≤ a ∧ a < 2147483648) (hb : -2147483648 ≤ b ∧ b < 2147483648) : zI a < zI b ↔ a < b := by
  rw [Int32.lt_iff_toInt_lt, zI_toInt ha, zI_toInt hb]
theorem zI_eq {a b : Int} (ha : -2147483648 ≤ a ∧ a < 2147483648) (hb : -2147483648 ≤ b ∧ b < 2147483648) : zI a = zI b ↔ a = b := by
  rw [← Int32.toInt_inj, zI_toInt ha, zI_toInt hb]
theorem zI_clamp {a : Int} {n : Nat} (h : a = n) (hn : n < 2147483648) : (zI a).toNatClampNeg = n := by
  subst h
  rw [← zI_nat]
  exact nI_clamp (by omega)
theorem zI_in {a : Int} {n : Nat} (h0 : 0 ≤ a) (h1 : a < n) (hn : n < 2147483648) : vp_in (zI a) n := by
  refine vp_in_iff.mpr ?_
  rw [zI_toInt (by omega)]
  exact ⟨h0, h1⟩
theorem zI_div {a b : Int} (ha : 0 ≤ a ∧ a < 2147483648) (hb : 0 < b ∧ b < 2147483648) : zI a / zI b = zI (a / b) := by
  obtain ⟨x, rfl⟩ := Int.eq_ofNat_of_zero_le ha.1
  obtain ⟨y, rfl⟩ := Int.eq_ofNat_of_zero_le (Int.le_of_lt hb.1)
  rw [← zI_nat, ← zI_nat, pk_div (by omega) (by omega) (by omega), zI_nat]
  rfl
theorem zI_rem {a b : Int} (ha : 0 ≤ a ∧ a < 2147483648) (hb : 0 < b ∧ b < 2147483648) : zI a - zI a / zI b * zI b = zI (a % b) := by
  obtain ⟨x, rfl⟩ := Int.eq_ofNat_of_zero_le ha.1
  obtain ⟨y, rfl⟩ := Int.eq_ofNat_of_zero_le (Int.le_of_lt hb.1)
  rw [← zI_nat, ← zI_nat, pk_rem (by omega) (by omega) (by omega), zI_nat]
  rfl
theorem zI_ne0 {b : Int} (hb : 0 < b ∧ b < 2147483648) : ¬ zI b = 0 := fun h => by
  have h2 : zI b = zI 0 := h
  rw [zI_eq (by omega) (by omega)] at h2
  omega
/-- the four widths, each in 1..8 -/
def okw (f : Nat → Int32) (w : Nat → Nat) : Prop := ∀ j, j < 4 → f j = zI (w j : Int) ∧ 1 ≤ w j ∧ w j ≤ 8
/-- the number that is asked for, under the mask of 31 ones -/
def qF (x : Int32) : Nat := x.toBitVec.toNat % 2 ^ 31
theorem qF_and (x : Int32) : x &&& 2147483647 = zI (qF x : Int) := by
  rw [pk_and x 31 (by decide), zI_nat]
  rfl
theorem qF_lt (x : Int32) : qF x < 2147483648 := Nat.mod_lt _ (by decide)
section zrows
variable {p : Program} {l : Launch} {e : Env} {R : Room} {s : State} {m : MethodId} {args : Array Value} {below : List Frame} {meth : Method} {c : Code} {H : Heap} {locs : List Loc} {cells slots : Nat} {Q : State → Prop}
variable {cc : ByteArray} {pc : Nat} {ls : Array Slot} {rest : List Value}
theorem zw_top {x y : Int32} (h : x = y) (k : W p l e R s m args below meth c H locs cells slots Q (F0 m pc ls (.int y :: rest))) : W p l e R s m args below meth c H locs cells slots Q (F0 m pc ls (.int x :: rest)) := by
  subst h
  exact k
theorem zw_iadd (hexec : p.tables.exec = Jvm.exec) (hb : c.code = cc) {x y : Int} (hdg : decode cc pc = .ok (.iadd, 1)) (k : W p l e R s m args below meth c H locs cells slots Q (F0 m (pc + 1) ls (.int (zI (x + y)) :: rest))) : W p l e R s m args below meth c H locs cells slots Q (F0 m pc ls (.int (zI y) :: .int (zI x) :: rest)) :=
  lv_iadd hexec hb hdg (zw_top (zI_add x y) k)
theorem zw_isub (hexec : p.tables.exec = Jvm.exec) (hb : c.code = cc) {x y : Int} (hdg : decode cc pc = .ok (.isub, 1)) (k : W p l e R s m args below meth c H locs cells slots Q (F0 m (pc + 1) ls (.int (zI (x - y)) :: rest))) : W p l e R s m args below meth c H locs cells slots Q (F0 m pc ls (.int (zI y) :: .int (zI x) :: rest)) :=
  lv_isub hexec hb hdg (zw_top (zI_sub x y) k)
theorem zw_imul (hexec : p.tables.exec = Jvm.exec) (hb : c.code = cc) {x y : Int} (hdg : decode cc pc = .ok (.imul, 1)) (k : W p l e R s m args below meth c H locs cells slots Q (F0 m (pc + 1) ls (.int (zI (x * y)) :: rest))) : W p l e R s m args below meth c H locs cells slots Q (F0 m pc ls (.int (zI y) :: .int (zI x) :: rest)) :=
  lv_imul hexec hb hdg (zw_top (zI_mul x y) k)
theorem zw_idiv (hexec : p.tables.exec = Jvm.exec) (hb : c.code = cc) {x y z : Int} (hB : 0 ≤ x ∧ x < 2147483648 ∧ 0 < y ∧ y < 2147483648) (hz : x / y = z) (hdg : decode cc pc = .ok (.idiv, 1)) (k : W p l e R s m args below meth c H locs cells slots Q (F0 m (pc + 1) ls (.int (zI z) :: rest))) : W p l e R s m args below meth c H locs cells slots Q (F0 m pc ls (.int (zI y) :: .int (zI x) :: rest)) :=
  lv_idiv hexec hb hdg (zI_ne0 hB.2.2) (zw_top ((zI_div ⟨hB.1, hB.2.1⟩ hB.2.2).trans (congrArg zI hz)) k)
theorem zw_irem (hexec : p.tables.exec = Jvm.exec) (hb : c.code = cc) {x y z : Int} (hB : 0 ≤ x ∧ x < 2147483648 ∧ 0 < y ∧ y < 2147483648) (hz : x % y = z) (hdg : decode cc pc = .ok (.irem, 1)) (k : W p l e R s m args below meth c H locs cells slots Q (F0 m (pc + 1) ls (.int (zI z) :: rest))) : W p l e R s m args below meth c H locs cells slots Q (F0 m pc ls (.int (zI y) :: .int (zI x) :: rest)) :=
  lv_irem hexec hb hdg (zI_ne0 hB.2.2) (zw_top ((zI_rem ⟨hB.1, hB.2.1⟩ hB.2.2).trans (congrArg zI hz)) k)
/-- a place of an int array, by the number that is there -/
theorem zw_iald {D : va_G} {cl : List vw_C} {tys : List (ClassId × FieldType)} {ws : va_W} {a : Nat} (hexec : p.tables.exec = Jvm.exec) (hb : c.code = cc) (hK : va_K D cl tys s) (hP : va_P D cl ws H) (q0 t0 : Nat) {cA : ClassId} {n : Nat} {f : Nat → Int32} (ha : ws[q0]? = some (a, .inl (cA, n, .inl f))) (ht : tys[t0]? = some (cA, .int)) {i v : Int} {b : Nat} (hi : i = (b : Int)) (hbn : b < n ∧ n < 2147483648) (hf : f b = zI v) (hdg : decode cc pc = .ok (.iaload, 1))
    (kk : W p l e R s m args below meth c H locs cells slots Q (F0 m (pc + 1) ls (.int (zI v) :: rest))) : W p l e R s m args below meth c H locs cells slots Q (F0 m pc ls (.int (zI i) :: .ref a :: rest)) := by
  refine va_iald hexec hb hK hP q0 t0 ha ht (zI_in (by omega) (by omega) hbn.2) hdg ?_
  rw [zI_clamp hi (by omega), hf]
  exact kk
/-- behind a call that only reads -/
theorem zw_callR {r : Int32} {st0 : List Value} {a : Array Value} (hr : CallRun p l e R s m args below meth c H locs cells slots 0 0 (F0 m pc ls st0) rest (QcRead r a) (fun _ => False)) (kk : W p l e R s m args below meth c H locs cells slots Q (F0 m (pc + 3) ls (.int r :: rest))) : W p l e R s m args below meth c H locs cells slots Q (F0 m pc ls st0) := W.callR hr kk
theorem zw_icmp_eq (hexec : p.tables.exec = Jvm.exec) (hb : c.code = cc) {x y : Int} {off : Int} {tgt : Nat} (hB : -2147483648 ≤ x ∧ x < 2147483648 ∧ -2147483648 ≤ y ∧ y < 2147483648) (ht : (pc : Int) + off = (tgt : Int)) (hdg : decode cc pc = .ok (.if_icmp .eq off, 3)) (kt : x = y → W p l e R s m args below meth c H locs cells slots Q (F0 m tgt ls rest)) (kf : ¬ x = y → W p l e R s m args below meth c H locs cells slots Q (F0 m (pc + 3) ls rest)) : W p l e R s m args below meth c H locs cells slots Q (F0 m pc ls (.int (zI y) :: .int (zI x) :: rest)) :=
  lv_icmp_eq hexec hb hdg ht (fun h => kt ((zI_eq ⟨hB.1, hB.2.1⟩ ⟨hB.2.2.1, hB.2.2.2⟩).mp h)) (fun h => kf (fun g => h ((zI_eq ⟨hB.1, hB.2.1⟩ ⟨hB.2.2.1, hB.2.2.2⟩).mpr g)))
theorem zw_icmp_eq_t (hexec : p.tables.exec = Jvm.exec) (hb : c.code = cc) {x y : Int} {off : Int} {tgt : Nat} (hB : -2147483648 ≤ x ∧ x < 2147483648 ∧ -2147483648 ≤ y ∧ y < 2147483648) (hp : x = y) (ht : (pc : Int) + off = (tgt : Int)) (hdg : decode cc pc = .ok (.if_icmp .eq off, 3)) (k : W p l e R s m args below meth c H locs cells slots Q (F0 m tgt ls rest)) : W p l e R s m args below meth c H locs cells slots Q (F0 m pc ls (.int (zI y) :: .int (zI x) :: rest)) :=
  lv_icmp_eq hexec hb hdg ht (fun _ => k) (fun h => absurd ((zI_eq ⟨hB.1, hB.2.1⟩ ⟨hB.2.2.1, hB.2.2.2⟩).mpr hp) h)
theorem zw_icmp_eq_f (hexec : p.tables.exec = Jvm.exec) (hb : c.code = cc) {x y : Int} {off : Int} {tgt : Nat} (hB : -2147483648 ≤ x ∧ x < 2147483648 ∧ -2147483648 ≤ y ∧ y < 2147483648) (hp : ¬ x = y) (ht : (pc : Int) + off = (tgt : Int)) (hdg : decode cc pc = .ok (.if_icmp .eq off, 3)) (k : W p l e R s m args below meth c H locs cells slots Q (F0 m (pc + 3) ls rest)) : W p l e R s m args below meth c H locs cells slots Q (F0 m pc ls (.int (zI y) :: .int (zI x) :: rest)) :=
  lv_icmp_eq hexec hb hdg ht (fun h => absurd ((zI_eq ⟨hB.1, hB.2.1⟩ ⟨hB.2.2.1, hB.2.2.2⟩).mp h) hp) (fun _ => k)
theorem zw_icmp_ne (hexec : p.tables.exec = Jvm.exec) (hb : c.code = cc) {x y : Int} {off : Int} {tgt : Nat} (hB : -2147483648 ≤ x ∧ x < 2147483648 ∧ -2147483648 ≤ y ∧ y < 2147483648) (ht : (pc : Int) + off = (tgt : Int)) (hdg : decode cc pc = .ok (.if_icmp .ne off, 3)) (kt : ¬ x = y → W p l e R s m args below meth c H locs cells slots Q (F0 m tgt ls rest)) (kf : x = y → W p l e R s m args below meth c H locs cells slots Q (F0 m (pc + 3) ls rest)) : W p l e R s m args below meth c H locs cells slots Q (F0 m pc ls (.int (zI y) :: .int (zI x) :: rest)) :=
  lv_icmp_ne hexec hb hdg ht (fun h => kt (fun g => h ((zI_eq ⟨hB.1, hB.2.1⟩ ⟨hB.2.2.1, hB.2.2.2⟩).mpr g))) (fun h => kf ((zI_eq ⟨hB.1, hB.2.1⟩ ⟨hB.2.2.1, hB.2.2.2⟩).mp h))
theorem zw_icmp_ne_t (hexec : p.tables.exec = Jvm.exec) (hb : c.code = cc) {x y : Int} {off : Int} {tgt : Nat} (hB : -2147483648 ≤ x ∧ x < 2147483648 ∧ -2147483648 ≤ y ∧ y < 2147483648) (hp : ¬ x = y) (ht : (pc : Int) + off = (tgt : Int)) (hdg : decode cc pc = .ok (.if_icmp .ne off, 3)) (k : W p l e R s m args below meth c H locs cells slots Q (F0 m tgt ls rest)) : W p l e R s m args below meth c H locs cells slots Q (F0 m pc ls (.int (zI y) :: .int (zI x) :: rest)) :=
  lv_icmp_ne hexec hb hdg ht (fun _ => k) (fun h => absurd ((zI_eq ⟨hB.1, hB.2.1⟩ ⟨hB.2.2.1, hB.2.2.2⟩).mp h) hp)
theorem zw_icmp_ne_f (hexec : p.tables.exec = Jvm.exec) (hb : c.code = cc) {x y : Int} {off : Int} {tgt : Nat} (hB : -2147483648 ≤ x ∧ x < 2147483648 ∧ -2147483648 ≤ y ∧ y < 2147483648) (hp : x = y) (ht : (pc : Int) + off = (tgt : Int)) (hdg : decode cc pc = .ok (.if_icmp .ne off, 3)) (k : W p l e R s m args below meth c H locs cells slots Q (F0 m (pc + 3) ls rest)) : W p l e R s m args below meth c H locs cells slots Q (F0 m pc ls (.int (zI y) :: .int (zI x) :: rest)) :=
  lv_icmp_ne hexec hb hdg ht (fun h => absurd ((zI_eq ⟨hB.1, hB.2.1⟩ ⟨hB.2.2.1, hB.2.2.2⟩).mpr hp) h) (fun _ => k)
theorem zw_icmp_lt (hexec : p.tables.exec = Jvm.exec) (hb : c.code = cc) {x y : Int} {off : Int} {tgt : Nat} (hB : -2147483648 ≤ x ∧ x < 2147483648 ∧ -2147483648 ≤ y ∧ y < 2147483648) (ht : (pc : Int) + off = (tgt : Int)) (hdg : decode cc pc = .ok (.if_icmp .lt off, 3)) (kt : x < y → W p l e R s m args below meth c H locs cells slots Q (F0 m tgt ls rest)) (kf : y ≤ x → W p l e R s m args below meth c H locs cells slots Q (F0 m (pc + 3) ls rest)) : W p l e R s m args below meth c H locs cells slots Q (F0 m pc ls (.int (zI y) :: .int (zI x) :: rest)) :=
  lv_icmp_lt hexec hb hdg ht (fun h => kt ((zI_lt ⟨hB.1, hB.2.1⟩ ⟨hB.2.2.1, hB.2.2.2⟩).mp h)) (fun h => kf (Int.not_lt.mp (fun z => h ((zI_lt ⟨hB.1, hB.2.1⟩ ⟨hB.2.2.1, hB.2.2.2⟩).mpr z))))
theorem zw_icmp_lt_t (hexec : p.tables.exec = Jvm.exec) (hb : c.code = cc) {x y : Int} {off : Int} {tgt : Nat} (hB : -2147483648 ≤ x ∧ x < 2147483648 ∧ -2147483648 ≤ y ∧ y < 2147483648) (hp : x < y) (ht : (pc : Int) + off = (tgt : Int)) (hdg : decode cc pc = .ok (.if_icmp .lt off, 3)) (k : W p l e R s m args below meth c H locs cells slots Q (F0 m tgt ls rest)) : W p l e R s m args below meth c H locs cells slots Q (F0 m pc ls (.int (zI y) :: .int (zI x) :: rest)) :=
  lv_icmp_lt hexec hb hdg ht (fun _ => k) (fun h => absurd ((zI_lt ⟨hB.1, hB.2.1⟩ ⟨hB.2.2.1, hB.2.2.2⟩).mpr hp) h)
theorem zw_icmp_lt_f (hexec : p.tables.exec = Jvm.exec) (hb : c.code = cc) {x y : Int} {off : Int} {tgt : Nat} (hB : -2147483648 ≤ x ∧ x < 2147483648 ∧ -2147483648 ≤ y ∧ y < 2147483648) (hp : y ≤ x) (ht : (pc : Int) + off = (tgt : Int)) (hdg : decode cc pc = .ok (.if_icmp .lt off, 3)) (k : W p l e R s m args below meth c H locs cells slots Q (F0 m (pc + 3) ls rest)) : W p l e R s m args below meth c H locs cells slots Q (F0 m pc ls (.int (zI y) :: .int (zI x) :: rest)) :=
  lv_icmp_lt hexec hb hdg ht (fun h => absurd ((zI_lt ⟨hB.1, hB.2.1⟩ ⟨hB.2.2.1, hB.2.2.2⟩).mp h) (by omega)) (fun _ => k)
theorem zw_icmp_ge (hexec : p.tables.exec = Jvm.exec) (hb : c.code = cc) {x y : Int} {off : Int} {tgt : Nat} (hB : -2147483648 ≤ x ∧ x < 2147483648 ∧ -2147483648 ≤ y ∧ y < 2147483648) (ht : (pc : Int) + off = (tgt : Int)) (hdg : decode cc pc = .ok (.if_icmp .ge off, 3)) (kt : y ≤ x → W p l e R s m args below meth c H locs cells slots Q (F0 m tgt ls rest)) (kf : x < y → W p l e R s m args below meth c H locs cells slots Q (F0 m (pc + 3) ls rest)) : W p l e R s m args below meth c H locs cells slots Q (F0 m pc ls (.int (zI y) :: .int (zI x) :: rest)) :=
  lv_icmp_ge hexec hb hdg ht (fun h => kt ((zI_le ⟨hB.2.2.1, hB.2.2.2⟩ ⟨hB.1, hB.2.1⟩).mp h)) (fun h => kf (Int.not_le.mp (fun z => h ((zI_le ⟨hB.2.2.1, hB.2.2.2⟩ ⟨hB.1, hB.2.1⟩).mpr z))))
theorem zw_icmp_ge_t (hexec : p.tables.exec = Jvm.exec) (hb : c.code = cc) {x y : Int} {off : Int} {tgt : Nat} (hB : -2147483648 ≤ x ∧ x < 2147483648 ∧ -2147483648 ≤ y ∧ y < 2147483648) (hp : y ≤ x) (ht : (pc : Int) + off = (tgt : Int)) (hdg : decode cc pc = .ok (.if_icmp .ge off, 3)) (k : W p l e R s m args below meth c H locs cells slots Q (F0 m tgt ls rest)) : W p l e R s m args below meth c H locs cells slots Q (F0 m pc ls (.int (zI y) :: .int (zI x) :: rest)) :=
  lv_icmp_ge hexec hb hdg ht (fun _ => k) (fun h => absurd ((zI_le ⟨hB.2.2.1, hB.2.2.2⟩ ⟨hB.1, hB.2.1⟩).mpr hp) h)
theorem zw_icmp_ge_f (hexec : p.tables.exec = Jvm.exec) (hb : c.code = cc) {x y : Int} {off : Int} {tgt : Nat} (hB : -2147483648 ≤ x ∧ x < 2147483648 ∧ -2147483648 ≤ y ∧ y < 2147483648) (hp : x < y) (ht : (pc : Int) + off = (tgt : Int)) (hdg : decode cc pc = .ok (.if_icmp .ge off, 3)) (k : W p l e R s m args below meth c H locs cells slots Q (F0 m (pc + 3) ls rest)) : W p l e R s m args below meth c H locs cells slots Q (F0 m pc ls (.int (zI y) :: .int (zI x) :: rest)) :=
  lv_icmp_ge hexec hb hdg ht (fun h => absurd ((zI_le ⟨hB.2.2.1, hB.2.2.2⟩ ⟨hB.1, hB.2.1⟩).mp h) (by omega)) (fun _ => k)
theorem zw_icmp_gt (hexec : p.tables.exec = Jvm.exec) (hb : c.code = cc) {x y : Int} {off : Int} {tgt : Nat} (hB : -2147483648 ≤ x ∧ x < 2147483648 ∧ -2147483648 ≤ y ∧ y < 2147483648) (ht : (pc : Int) + off = (tgt : Int)) (hdg : decode cc pc = .ok (.if_icmp .gt off, 3)) (kt : y < x → W p l e R s m args below meth c H locs cells slots Q (F0 m tgt ls rest)) (kf : x ≤ y → W p l e R s m args below meth c H locs cells slots Q (F0 m (pc + 3) ls rest)) : W p l e R s m args below meth c H locs cells slots Q (F0 m pc ls (.int (zI y) :: .int (zI x) :: rest)) :=
  lv_icmp_gt hexec hb hdg ht (fun h => kt ((zI_lt ⟨hB.2.2.1, hB.2.2.2⟩ ⟨hB.1, hB.2.1⟩).mp h)) (fun h => kf (Int.not_lt.mp (fun z => h ((zI_lt ⟨hB.2.2.1, hB.2.2.2⟩ ⟨hB.1, hB.2.1⟩).mpr z))))
theorem zw_icmp_gt_t (hexec : p.tables.exec = Jvm.exec) (hb : c.code = cc) {x y : Int} {off : Int} {tgt : Nat} (hB : -2147483648 ≤ x ∧ x < 2147483648 ∧ -2147483648 ≤ y ∧ y < 2147483648) (hp : y < x) (ht : (pc : Int) + off = (tgt : Int)) (hdg : decode cc pc = .ok (.if_icmp .gt off, 3)) (k : W p l e R s m args below meth c H locs cells slots Q (F0 m tgt ls rest)) : W p l e R s m args below meth c H locs cells slots Q (F0 m pc ls (.int (zI y) :: .int (zI x) :: rest)) :=
  lv_icmp_gt hexec hb hdg ht (fun _ => k) (fun h => absurd ((zI_lt ⟨hB.2.2.1, hB.2.2.2⟩ ⟨hB.1, hB.2.1⟩).mpr hp) h)
theorem zw_icmp_gt_f (hexec : p.tables.exec = Jvm.exec) (hb : c.code = cc) {x y : Int} {off : Int} {tgt : Nat} (hB : -2147483648 ≤ x ∧ x < 2147483648 ∧ -2147483648 ≤ y ∧ y < 2147483648) (hp : x ≤ y) (ht : (pc : Int) + off = (tgt : Int)) (hdg : decode cc pc = .ok (.if_icmp .gt off, 3)) (k : W p l e R s m args below meth c H locs cells slots Q (F0 m (pc + 3) ls rest)) : W p l e R s m args below meth c H locs cells slots Q (F0 m pc ls (.int (zI y) :: .int (zI x) :: rest)) :=
  lv_icmp_gt hexec hb hdg ht (fun h => absurd ((zI_lt ⟨hB.2.2.1, hB.2.2.2⟩ ⟨hB.1, hB.2.1⟩).mp h) (by omega)) (fun _ => k)
theorem zw_icmp_le (hexec : p.tables.exec = Jvm.exec) (hb : c.code = cc) {x y : Int} {off : Int} {tgt : Nat} (hB : -2147483648 ≤ x ∧ x < 2147483648 ∧ -2147483648 ≤ y ∧ y < 2147483648) (ht : (pc : Int) + off = (tgt : Int)) (hdg : decode cc pc = .ok (.if_icmp .le off, 3)) (kt : x ≤ y → W p l e R s m args below meth c H locs cells slots Q (F0 m tgt ls rest)) (kf : y < x → W p l e R s m args below meth c H locs cells slots Q (F0 m (pc + 3) ls rest)) : W p l e R s m args below meth c H locs cells slots Q (F0 m pc ls (.int (zI y) :: .int (zI x) :: rest)) :=
  lv_icmp_le hexec hb hdg ht (fun h => kt ((zI_le ⟨hB.1, hB.2.1⟩ ⟨hB.2.2.1, hB.2.2.2⟩).mp h)) (fun h => kf (Int.not_le.mp (fun z => h ((zI_le ⟨hB.1, hB.2.1⟩ ⟨hB.2.2.1, hB.2.2.2⟩).mpr z))))
theorem zw_icmp_le_t (hexec : p.tables.exec = Jvm.exec) (hb : c.code = cc) {x y : Int} {off : Int} {tgt : Nat} (hB : -2147483648 ≤ x ∧ x < 2147483648 ∧ -2147483648 ≤ y ∧ y < 2147483648) (hp : x ≤ y) (ht : (pc : Int) + off = (tgt : Int)) (hdg : decode cc pc = .ok (.if_icmp .le off, 3)) (k : W p l e R s m args below meth c H locs cells slots Q (F0 m tgt ls rest)) : W p l e R s m args below meth c H locs cells slots Q (F0 m pc ls (.int (zI y) :: .int (zI x) :: rest)) :=
  lv_icmp_le hexec hb hdg ht (fun _ => k) (fun h => absurd ((zI_le ⟨hB.1, hB.2.1⟩ ⟨hB.2.2.1, hB.2.2.2⟩).mpr hp) h)
theorem zw_icmp_le_f (hexec : p.tables.exec = Jvm.exec) (hb : c.code = cc) {x y : Int} {off : Int} {tgt : Nat} (hB : -2147483648 ≤ x ∧ x < 2147483648 ∧ -2147483648 ≤ y ∧ y < 2147483648) (hp : y < x) (ht : (pc : Int) + off = (tgt : Int)) (hdg : decode cc pc = .ok (.if_icmp .le off, 3)) (k : W p l e R s m args below meth c H locs cells slots Q (F0 m (pc + 3) ls rest)) : W p l e R s m args below meth c H locs cells slots Q (F0 m pc ls (.int (zI y) :: .int (zI x) :: rest)) :=
  lv_icmp_le hexec hb hdg ht (fun h => absurd ((zI_le ⟨hB.1, hB.2.1⟩ ⟨hB.2.2.1, hB.2.2.2⟩).mp h) (by omega)) (fun _ => k)
theorem zw_if_eq (hexec : p.tables.exec = Jvm.exec) (hb : c.code = cc) {x : Int} {off : Int} {tgt : Nat} (hB : -2147483648 ≤ x ∧ x < 2147483648) (ht : (pc : Int) + off = (tgt : Int)) (hdg : decode cc pc = .ok (.ifCond .eq off, 3)) (kt : x = 0 → W p l e R s m args below meth c H locs cells slots Q (F0 m tgt ls rest)) (kf : ¬ x = 0 → W p l e R s m args below meth c H locs cells slots Q (F0 m (pc + 3) ls rest)) : W p l e R s m args below meth c H locs cells slots Q (F0 m pc ls (.int (zI x) :: rest)) :=
  lv_if_eq hexec hb hdg ht (fun h => kt ((zI_eq hB (b := 0) (by omega)).mp h)) (fun h => kf (fun g => h ((zI_eq hB (b := 0) (by omega)).mpr g)))
theorem zw_if_eq_t (hexec : p.tables.exec = Jvm.exec) (hb : c.code = cc) {x : Int} {off : Int} {tgt : Nat} (hB : -2147483648 ≤ x ∧ x < 2147483648) (hp : x = 0) (ht : (pc : Int) + off = (tgt : Int)) (hdg : decode cc pc = .ok (.ifCond .eq off, 3)) (k : W p l e R s m args below meth c H locs cells slots Q (F0 m tgt ls rest)) : W p l e R s m args below meth c H locs cells slots Q (F0 m pc ls (.int (zI x) :: rest)) :=
  lv_if_eq hexec hb hdg ht (fun _ => k) (fun h => absurd ((zI_eq hB (b := 0) (by omega)).mpr hp) h)
theorem zw_if_eq_f (hexec : p.tables.exec = Jvm.exec) (hb : c.code = cc) {x : Int} {off : Int} {tgt : Nat} (hB : -2147483648 ≤ x ∧ x < 2147483648) (hp : ¬ x = 0) (ht : (pc : Int) + off = (tgt : Int)) (hdg : decode cc pc = .ok (.ifCond .eq off, 3)) (k : W p l e R s m args below meth c H locs cells slots Q (F0 m (pc + 3) ls rest)) : W p l e R s m args below meth c H locs cells slots Q (F0 m pc ls (.int (zI x) :: rest)) :=
  lv_if_eq hexec hb hdg ht (fun h => absurd ((zI_eq hB (b := 0) (by omega)).mp h) hp) (fun _ => k)
theorem zw_if_ne (hexec : p.tables.exec = Jvm.exec) (hb : c.code = cc) {x : Int} {off : Int} {tgt : Nat} (hB : -2147483648 ≤ x ∧ x < 2147483648) (ht : (pc : Int) + off = (tgt : Int)) (hdg : decode cc pc = .ok (.ifCond .ne off, 3)) (kt : ¬ x = 0 → W p l e R s m args below meth c H locs cells slots Q (F0 m tgt ls rest)) (kf : x = 0 → W p l e R s m args below meth c H locs cells slots Q (F0 m (pc + 3) ls rest)) : W p l e R s m args below meth c H locs cells slots Q (F0 m pc ls (.int (zI x) :: rest)) :=
  lv_if_ne hexec hb hdg ht (fun h => kt (fun g => h ((zI_eq hB (b := 0) (by omega)).mpr g))) (fun h => kf ((zI_eq hB (b := 0) (by omega)).mp h))
theorem zw_if_ne_t (hexec : p.tables.exec = Jvm.exec) (hb : c.code = cc) {x : Int} {off : Int} {tgt : Nat} (hB : -2147483648 ≤ x ∧ x < 2147483648) (hp : ¬ x = 0) (ht : (pc : Int) + off = (tgt : Int)) (hdg : decode cc pc = .ok (.ifCond .ne off, 3)) (k : W p l e R s m args below meth c H locs cells slots Q (F0 m tgt ls rest)) : W p l e R s m args below meth c H locs cells slots Q (F0 m pc ls (.int (zI x) :: rest)) :=
  lv_if_ne hexec hb hdg ht (fun _ => k) (fun h => absurd ((zI_eq hB (b := 0) (by omega)).mp h) hp)
theorem zw_if_ne_f (hexec : p.tables.exec = Jvm.exec) (hb : c.code = cc) {x : Int} {off : Int} {tgt : Nat} (hB : -2147483648 ≤ x ∧ x < 2147483648) (hp : x = 0) (ht : (pc : Int) + off = (tgt : Int)) (hdg : decode cc pc = .ok (.ifCond .ne off, 3)) (k : W p l e R s m args below meth c H locs cells slots Q (F0 m (pc + 3) ls rest)) : W p l e R s m args below meth c H locs cells slots Q (F0 m pc ls (.int (zI x) :: rest)) :=
  lv_if_ne hexec hb hdg ht (fun h => absurd ((zI_eq hB (b := 0) (by omega)).mpr hp) h) (fun _ => k)
end zrows
end
section
abbrev wsX2_combins : List Cond := ws_ yX2_combins cX2_combins 7 (some .int)
abbrev rmX2_combins : Room := { frames := 0, cells := 0, slots := 0, locals := 0 }
theorem cb_0 (n : Int) : cb n 0 = 1 := by
  unfold cb
  rw [if_pos rfl]
theorem cb_1 (n : Int) : cb n 1 = n := by
  unfold cb
  rw [if_neg (by decide), if_pos rfl]
theorem cb_2 (n : Int) : cb n 2 = n * (n - 1) / 2 := by
  unfold cb
  rw [if_neg (by decide), if_neg (by decide)]
theorem cb_sym {n r : Int} (h : 0 ≤ r ∧ r ≤ 2 ∧ r ≤ n ∧ n - r ≤ r) : cb n (n - r) = cb n r := by
  have h1 : r = 0 ∨ r = 1 ∨ r = 2 := by omega
  have h2 : n = 0 ∨ n = 1 ∨ n = 2 ∨ n = 3 ∨ n = 4 := by omega
  rcases h1 with rfl | rfl | rfl <;> rcases h2 with rfl | rfl | rfl | rfl | rfl <;> first | rfl | omega
set_option maxHeartbeats 4000000 in
set_option maxRecDepth 100000 in
/-- combins from its first loop on: k the smaller denominator -/
theorem combins_tail {p : Program} {l : Launch} {e : Env} {R : Room} {s : State} {m : MethodId} {args : Array Value} {below : List Frame} {meth : Method} {c : Code} {Q : State → Prop} (hx : p.tables.exec = Jvm.exec) (hb : c.code = cX2_combins) {n r mx k : Int} {ls : Array Slot} (h : 0 ≤ k ∧ k ≤ 2 ∧ k ≤ n ∧ n ≤ 40 ∧ mx = n - k) (hl : lv_has ls 7 [(0, .int (zI n)), (1, .int (zI r)), (2, .int (zI mx)), (3, .int (zI k)), (4, .int (zI 1)), (5, .int (zI 1)), (6, .int (zI n))])
    (kk : ∀ ls : Array Slot, W p l e R s m args below meth c s.heap [] 0 0 Q (F0 m 87 ls [.int (zI (cb n k))])) : W p l e R s m args below meth c s.heap [] 0 0 Q (F0 m 31 ls []) := by
  have hq : 0 ≤ n * (n - 1) ∧ n * (n - 1) < 2147483648 := by
    by_cases h0 : n = 0
    · subst h0; decide
    · have a1 : 0 ≤ n * (n - 1) := Int.mul_nonneg (by omega) (by omega)
      have a2 : n * (n - 1) ≤ 40 * 40 := Int.mul_le_mul (by omega) (by omega) (by omega) (by omega)
      omega
  obtain ⟨h0, h2, hk, hn, rfl⟩ := h
  have hke : k = 0 ∨ k = 1 ∨ k = 2 := by omega
  rcases hke with rfl | rfl | rfl
  · rw [cb_0] at kk
    refine lv_iload hx hb dX2_combins_31 (lv_at hl 6 rfl) ?_
    refine lv_iload_n hx hb dX2_combins_33 rfl (lv_at hl 2 rfl) ?_
    refine zw_icmp_le_t (tgt := 66) hx hb (by omega) (by omega) (by decide) dX2_combins_34 ?_
    refine lv_iload hx hb dX2_combins_66 (lv_at hl 5 rfl) ?_
    refine lv_iload_n hx hb dX2_combins_68 rfl (lv_at hl 3 rfl) ?_
    refine zw_icmp_gt_t (tgt := 85) hx hb (by omega) (by omega) (by decide) dX2_combins_69 ?_
    refine lv_iload hx hb dX2_combins_85 (lv_at hl 4 rfl) ?_
    exact kk ls
  · rw [cb_1] at kk
    refine lv_iload hx hb dX2_combins_31 (lv_at hl 6 rfl) ?_
    refine lv_iload_n hx hb dX2_combins_33 rfl (lv_at hl 2 rfl) ?_
    refine zw_icmp_le_f (tgt := 66) hx hb (by omega) (by omega) (by decide) dX2_combins_34 ?_
    refine lv_iload hx hb dX2_combins_37 (lv_at hl 4 rfl) ?_
    refine lv_iload hx hb dX2_combins_39 (lv_at hl 6 rfl) ?_
    refine zw_imul hx hb dX2_combins_41 ?_
    refine lv_istore (lv' := [(4, .int (zI (1 * n))), (0, .int (zI n)), (1, .int (zI r)), (2, .int (zI (n - 1))), (3, .int (zI 1)), (5, .int (zI 1)), (6, .int (zI n))]) hx hb dX2_combins_42 hl (by decide) rfl (fun ls hl => ?_)
    refine lv_iload hx hb dX2_combins_44 (lv_at hl 5 rfl) ?_
    refine lv_iload_n hx hb dX2_combins_46 rfl (lv_at hl 4 rfl) ?_
    refine zw_icmp_gt_f (tgt := 60) hx hb (by omega) (by omega) (by decide) dX2_combins_47 ?_
    refine lv_iload hx hb dX2_combins_50 (lv_at hl 0 rfl) ?_
    refine lv_iload hx hb dX2_combins_52 (lv_at hl 5 rfl) ?_
    refine zw_idiv (z := n) hx hb (by omega) (by omega) dX2_combins_54 ?_
    refine lv_istore (lv' := [(4, .int (zI n)), (0, .int (zI n)), (1, .int (zI r)), (2, .int (zI (n - 1))), (3, .int (zI 1)), (5, .int (zI 1)), (6, .int (zI n))]) hx hb dX2_combins_55 hl (by decide) rfl (fun ls hl => ?_)
    refine lv_iinc (v := zI (1 + 1)) (lv' := [(5, .int (zI (1 + 1))), (4, .int (zI n)), (0, .int (zI n)), (1, .int (zI r)), (2, .int (zI (n - 1))), (3, .int (zI 1)), (6, .int (zI n))]) hx hb dX2_combins_57 hl (k := 5) rfl (zI_add 1 1) (by decide) rfl (fun ls hl => ?_)
    refine lv_iinc (v := zI (n + (-1))) (lv' := [(6, .int (zI (n + (-1)))), (5, .int (zI (1 + 1))), (4, .int (zI n)), (0, .int (zI n)), (1, .int (zI r)), (2, .int (zI (n - 1))), (3, .int (zI 1))]) hx hb dX2_combins_60 hl (k := 6) rfl (zI_add n (-1)) (by decide) rfl (fun ls hl => ?_)
    refine lv_goto (tgt := 31) hx hb dX2_combins_63 (by decide) ?_
    refine lv_iload hx hb dX2_combins_31 (lv_at hl 0 rfl) ?_
    refine lv_iload_n hx hb dX2_combins_33 rfl (lv_at hl 5 rfl) ?_
    refine zw_icmp_le_t (tgt := 66) hx hb (by omega) (by omega) (by decide) dX2_combins_34 ?_
    refine lv_iload hx hb dX2_combins_66 (lv_at hl 1 rfl) ?_
    refine lv_iload_n hx hb dX2_combins_68 rfl (lv_at hl 6 rfl) ?_
    refine zw_icmp_gt_t (tgt := 85) hx hb (by omega) (by omega) (by decide) dX2_combins_69 ?_
    refine lv_iload hx hb dX2_combins_85 (lv_at hl 2 rfl) ?_
    exact kk ls
  · rw [cb_2] at kk
    refine lv_iload hx hb dX2_combins_31 (lv_at hl 6 rfl) ?_
    refine lv_iload_n hx hb dX2_combins_33 rfl (lv_at hl 2 rfl) ?_
    refine zw_icmp_le_f (tgt := 66) hx hb (by omega) (by omega) (by decide) dX2_combins_34 ?_
    refine lv_iload hx hb dX2_combins_37 (lv_at hl 4 rfl) ?_
    refine lv_iload hx hb dX2_combins_39 (lv_at hl 6 rfl) ?_
    refine zw_imul hx hb dX2_combins_41 ?_
    refine lv_istore (lv' := [(4, .int (zI (1 * n))), (0, .int (zI n)), (1, .int (zI r)), (2, .int (zI (n - 2))), (3, .int (zI 2)), (5, .int (zI 1)), (6, .int (zI n))]) hx hb dX2_combins_42 hl (by decide) rfl (fun ls hl => ?_)
    refine lv_iload hx hb dX2_combins_44 (lv_at hl 5 rfl) ?_
    refine lv_iload_n hx hb dX2_combins_46 rfl (lv_at hl 4 rfl) ?_
    refine zw_icmp_gt_f (tgt := 60) hx hb (by omega) (by omega) (by decide) dX2_combins_47 ?_
    refine lv_iload hx hb dX2_combins_50 (lv_at hl 0 rfl) ?_
    refine lv_iload hx hb dX2_combins_52 (lv_at hl 5 rfl) ?_
    refine zw_idiv (z := n) hx hb (by omega) (by omega) dX2_combins_54 ?_
    refine lv_istore (lv' := [(4, .int (zI n)), (0, .int (zI n)), (1, .int (zI r)), (2, .int (zI (n - 2))), (3, .int (zI 2)), (5, .int (zI 1)), (6, .int (zI n))]) hx hb dX2_combins_55 hl (by decide) rfl (fun ls hl => ?_)
    refine lv_iinc (v := zI (1 + 1)) (lv' := [(5, .int (zI (1 + 1))), (4, .int (zI n)), (0, .int (zI n)), (1, .int (zI r)), (2, .int (zI (n - 2))), (3, .int (zI 2)), (6, .int (zI n))]) hx hb dX2_combins_57 hl (k := 5) rfl (zI_add 1 1) (by decide) rfl (fun ls hl => ?_)
    refine lv_iinc (v := zI (n + (-1))) (lv' := [(6, .int (zI (n + (-1)))), (5, .int (zI (1 + 1))), (4, .int (zI n)), (0, .int (zI n)), (1, .int (zI r)), (2, .int (zI (n - 2))), (3, .int (zI 2))]) hx hb dX2_combins_60 hl (k := 6) rfl (zI_add n (-1)) (by decide) rfl (fun ls hl => ?_)
    refine lv_goto (tgt := 31) hx hb dX2_combins_63 (by decide) ?_
    refine lv_iload hx hb dX2_combins_31 (lv_at hl 0 rfl) ?_
    refine lv_iload_n hx hb dX2_combins_33 rfl (lv_at hl 5 rfl) ?_
    refine zw_icmp_le_f (tgt := 66) hx hb (by omega) (by omega) (by decide) dX2_combins_34 ?_
    refine lv_iload hx hb dX2_combins_37 (lv_at hl 2 rfl) ?_
    refine lv_iload hx hb dX2_combins_39 (lv_at hl 0 rfl) ?_
    refine zw_imul hx hb dX2_combins_41 ?_
    refine lv_istore (lv' := [(4, .int (zI (n * (n + (-1))))), (6, .int (zI (n + (-1)))), (5, .int (zI (1 + 1))), (0, .int (zI n)), (1, .int (zI r)), (2, .int (zI (n - 2))), (3, .int (zI 2))]) hx hb dX2_combins_42 hl (by decide) rfl (fun ls hl => ?_)
    refine lv_iload hx hb dX2_combins_44 (lv_at hl 2 rfl) ?_
    refine lv_iload_n hx hb dX2_combins_46 rfl (lv_at hl 6 rfl) ?_
    refine zw_icmp_gt_f (tgt := 60) hx hb (by omega) (by omega) (by decide) dX2_combins_47 ?_
    refine lv_iload hx hb dX2_combins_50 (lv_at hl 0 rfl) ?_
    refine lv_iload hx hb dX2_combins_52 (lv_at hl 2 rfl) ?_
    refine zw_idiv (z := n * (n - 1) / 2) hx hb ⟨hq.1, hq.2, by omega, by omega⟩ rfl dX2_combins_54 ?_
    refine lv_istore (lv' := [(4, .int (zI (n * (n - 1) / 2))), (6, .int (zI (n + (-1)))), (5, .int (zI (1 + 1))), (0, .int (zI n)), (1, .int (zI r)), (2, .int (zI (n - 2))), (3, .int (zI 2))]) hx hb dX2_combins_55 hl (by decide) rfl (fun ls hl => ?_)
    refine lv_iinc (v := zI ((1 + 1) + 1)) (lv' := [(5, .int (zI ((1 + 1) + 1))), (4, .int (zI (n * (n - 1) / 2))), (6, .int (zI (n + (-1)))), (0, .int (zI n)), (1, .int (zI r)), (2, .int (zI (n - 2))), (3, .int (zI 2))]) hx hb dX2_combins_57 hl (k := 2) rfl (zI_add (1 + 1) 1) (by decide) rfl (fun ls hl => ?_)
    refine lv_iinc (v := zI ((n + (-1)) + (-1))) (lv' := [(6, .int (zI ((n + (-1)) + (-1)))), (5, .int (zI ((1 + 1) + 1))), (4, .int (zI (n * (n - 1) / 2))), (0, .int (zI n)), (1, .int (zI r)), (2, .int (zI (n - 2))), (3, .int (zI 2))]) hx hb dX2_combins_60 hl (k := 2) rfl (zI_add (n + (-1)) (-1)) (by decide) rfl (fun ls hl => ?_)
    refine lv_goto (tgt := 31) hx hb dX2_combins_63 (by decide) ?_
    refine lv_iload hx hb dX2_combins_31 (lv_at hl 0 rfl) ?_
    refine lv_iload_n hx hb dX2_combins_33 rfl (lv_at hl 5 rfl) ?_
    refine zw_icmp_le_t (tgt := 66) hx hb (by omega) (by omega) (by decide) dX2_combins_34 ?_
    refine lv_iload hx hb dX2_combins_66 (lv_at hl 1 rfl) ?_
    refine lv_iload_n hx hb dX2_combins_68 rfl (lv_at hl 6 rfl) ?_
    refine zw_icmp_gt_t (tgt := 85) hx hb (by omega) (by omega) (by decide) dX2_combins_69 ?_
    refine lv_iload hx hb dX2_combins_85 (lv_at hl 2 rfl) ?_
    exact kk ls
set_option maxHeartbeats 4000000 in
set_option maxRecDepth 100000 in
/-- combins(n, r), r up to 2: nothing is written -/
theorem met_combins (l : Launch) (n r : Int) (h : 0 ≤ r ∧ r ≤ 2 ∧ r ≤ n ∧ n ≤ 40) : Met l yX2_combins wsX2_combins rmX2_combins (fun v _ => v = ([.int (zI n), .int (zI r)] : List Value).toArray) (QcRead (zI (cb n r))) 0 0 (fun _ => False) := by
  refine Met.ofW (cc := cX2_combins) (maxL := 7) (ret := (some .int)) (by decide) rfl ?_
  intro p e s m args below meth c s₁ B hml hv
  have hv : args = ([.int (zI n), .int (zI r)] : List Value).toArray := hv
  subst hv
  have hx := B.exec
  have hb := B.bytes
  have hr := B.returns
  have hts := atoms_spec (ws := wsX2_combins) B.pre
  have hts : ∀ w ∈ lw_all, w.before _ s = true := fun w h => hts w (List.mem_cons_of_mem _ h)
  have hown : s.vm.findClass RX2 = some m.cls := findClass_of_methodNamed B.named
  have hlocks := B.notSynchronized
  have hl := lv_entry ([.int (zI n), .int (zI r)]) (n := 7) (Nat.le_of_ble_eq_true rfl)
  rw [lg_entry_eq]
  generalize (lg_sl ([.int (zI n), .int (zI r)]) ++ List.replicate (7 - (lg_sl ([.int (zI n), .int (zI r)])).length) Slot.unset).toArray = ls at hl ⊢
  have hl : lv_has ls 7 [(0, .int (zI n)), (1, .int (zI r))] := hl
  refine lv_iload_n hx hb dX2_combins_0 rfl (lv_at hl 0 rfl) ?_
  refine lv_iload_n hx hb dX2_combins_1 rfl (lv_at hl 1 rfl) ?_
  refine zw_isub hx hb dX2_combins_2 ?_
  refine lv_iload_n hx hb dX2_combins_3 rfl (lv_at hl 1 rfl) ?_
  refine zw_icmp_le (tgt := 16) hx hb (by omega) (by decide) dX2_combins_4 (fun c1 => ?_) (fun c1 => ?_)
  · have hc := cb_sym (n := n) (r := r) (by omega)
    refine lv_iload_n hx hb dX2_combins_16 rfl (lv_at hl 0 rfl) ?_
    refine lv_iload_n hx hb dX2_combins_17 rfl (lv_at hl 1 rfl) ?_
    refine zw_isub hx hb dX2_combins_18 ?_
    refine lv_istore_n (lv' := [(3, .int (zI (n - r))), (0, .int (zI n)), (1, .int (zI r))]) hx hb dX2_combins_19 rfl hl (by decide) rfl (fun ls hl => ?_)
    refine lv_iload_n hx hb dX2_combins_20 rfl (lv_at hl 2 rfl) ?_
    refine lv_istore_n (lv' := [(2, .int (zI r)), (3, .int (zI (n - r))), (0, .int (zI n)), (1, .int (zI r))]) hx hb dX2_combins_21 rfl hl (by decide) rfl (fun ls hl => ?_)
    refine lv_iconst (v := zI 1) hx hb dX2_combins_22 rfl ?_
    refine lv_istore (lv' := [(4, .int (zI 1)), (2, .int (zI r)), (3, .int (zI (n - r))), (0, .int (zI n)), (1, .int (zI r))]) hx hb dX2_combins_23 hl (by decide) rfl (fun ls hl => ?_)
    refine lv_iconst (v := zI 1) hx hb dX2_combins_25 rfl ?_
    refine lv_istore (lv' := [(5, .int (zI 1)), (4, .int (zI 1)), (2, .int (zI r)), (3, .int (zI (n - r))), (0, .int (zI n)), (1, .int (zI r))]) hx hb dX2_combins_26 hl (by decide) rfl (fun ls hl => ?_)
    refine lv_iload_n hx hb dX2_combins_28 rfl (lv_at hl 4 rfl) ?_
    refine lv_istore (lv' := [(6, .int (zI n)), (5, .int (zI 1)), (4, .int (zI 1)), (2, .int (zI r)), (3, .int (zI (n - r))), (0, .int (zI n)), (1, .int (zI r))]) hx hb dX2_combins_29 hl (by decide) rfl (fun ls hl => ?_)
    refine combins_tail hx hb (n := n) (r := r) (mx := r) (k := n - r) (by omega) (lv_sub hl [5, 6, 3, 4, 2, 1, 0] rfl) (fun ls => ?_)
    rw [hc]
    exact W.iret hx hb hr (fun t ht _ => ⟨rfl, ht⟩) (fun _ h => absurd h List.not_mem_nil) dX2_combins_87
  · refine lv_iload_n hx hb dX2_combins_7 rfl (lv_at hl 1 rfl) ?_
    refine lv_istore_n (lv' := [(3, .int (zI r)), (0, .int (zI n)), (1, .int (zI r))]) hx hb dX2_combins_8 rfl hl (by decide) rfl (fun ls hl => ?_)
    refine lv_iload_n hx hb dX2_combins_9 rfl (lv_at hl 1 rfl) ?_
    refine lv_iload_n hx hb dX2_combins_10 rfl (lv_at hl 2 rfl) ?_
    refine zw_isub hx hb dX2_combins_11 ?_
    refine lv_istore_n (lv' := [(2, .int (zI (n - r))), (3, .int (zI r)), (0, .int (zI n)), (1, .int (zI r))]) hx hb dX2_combins_12 rfl hl (by decide) rfl (fun ls hl => ?_)
    refine lv_goto (tgt := 22) hx hb dX2_combins_13 (by decide) ?_
    refine lv_iconst (v := zI 1) hx hb dX2_combins_22 rfl ?_
    refine lv_istore (lv' := [(4, .int (zI 1)), (2, .int (zI (n - r))), (3, .int (zI r)), (0, .int (zI n)), (1, .int (zI r))]) hx hb dX2_combins_23 hl (by decide) rfl (fun ls hl => ?_)
    refine lv_iconst (v := zI 1) hx hb dX2_combins_25 rfl ?_
    refine lv_istore (lv' := [(5, .int (zI 1)), (4, .int (zI 1)), (2, .int (zI (n - r))), (3, .int (zI r)), (0, .int (zI n)), (1, .int (zI r))]) hx hb dX2_combins_26 hl (by decide) rfl (fun ls hl => ?_)
    refine lv_iload_n hx hb dX2_combins_28 rfl (lv_at hl 4 rfl) ?_
    refine lv_istore (lv' := [(6, .int (zI n)), (5, .int (zI 1)), (4, .int (zI 1)), (2, .int (zI (n - r))), (3, .int (zI r)), (0, .int (zI n)), (1, .int (zI r))]) hx hb dX2_combins_29 hl (by decide) rfl (fun ls hl => ?_)
    refine combins_tail hx hb (n := n) (r := r) (mx := n - r) (k := r) (by omega) (lv_sub hl [5, 6, 3, 4, 2, 1, 0] rfl) (fun ls => ?_)
    exact W.iret hx hb hr (fun t ht _ => ⟨rfl, ht⟩) (fun _ h => absurd h List.not_mem_nil) dX2_combins_87
end
section
abbrev wsX2_getRSSvalue : List Cond := ws_ yX2_getRSSvalue cX2_getRSSvalue 12 (some .int)
abbrev rmX2_getRSSvalue : Room := { frames := 1, cells := 0, slots := 0, locals := 26 }
def pw : Nat → Nat
  | 0 => 1
  | 1 => 2
  | _ => 4
theorem pw_pos : ∀ b, 1 ≤ pw b
  | 0 => Nat.le_refl 1
  | 1 => Nat.le_succ 1
  | _ + 2 => by show 1 ≤ 4; decide
theorem mask_or : ∀ b, b < 3 → ∀ k, k < pw b → zI (k : Int) ||| (zI 1 <<< (zI (b : Int) &&& 31)) = zI ((k + pw b : Nat) : Int) := by decide +kernel
theorem mask_clr1 : ∀ b, b < 3 → ∀ k, k < pw b → zI ((k + pw b : Nat) : Int) &&& ((zI 1 <<< (zI (b : Int) &&& 31)) ^^^ zI (-1)) = zI (k : Int) := by decide +kernel
theorem mask_clr2 : ∀ b, b < 3 → ∀ k, k < pw b → zI (k : Int) &&& ((zI 1 <<< (zI (b : Int) &&& 31)) ^^^ zI (-1)) = zI (k : Int) := by decide +kernel
theorem mask_clr {bn k mk : Nat} (hbn : bn < 3) (hk : k < pw bn) (h : mk = k + pw bn ∨ mk = k) : zI (mk : Int) &&& ((zI 1 <<< (zI (bn : Int) &&& 31)) ^^^ zI (-1)) = zI (k : Int) := by
  rcases h with rfl | rfl
  · exact mask_clr1 bn hbn k hk
  · exact mask_clr2 bn hbn _ hk
set_option maxHeartbeats 4000000 in
set_option maxRecDepth 100000 in
/-- getRSSvalue: the loop over mxwElement -/
theorem rss_less {p : Program} {l : Launch} {e : Env} {R : Room} {s : State} {m : MethodId} {args : Array Value} {below : List Frame} {meth : Method} {c : Code} {Q : State → Prop} {h1 : Nat} (hx : p.tables.exec = Jvm.exec) (hb : c.code = cX2_getRSSvalue) (hml : c.maxLocals = 12) (hown : s.vm.findClass RX2 = some m.cls) (hts : ∀ w ∈ lw_all, w.before args s = true) (hR : rmX2_combins.frames + 1 ≤ R.frames ∧ 8 + (7 + 11) + rmX2_combins.locals ≤ R.locals) {mx nn n v mk b ee s1 yf : Int} (h : 0 ≤ b ∧ b ≤ 1 ∧ 0 ≤ mx ∧ mx ≤ 8 ∧ 3 - b ≤ n - ee ∧ n - ee ≤ 32)
    (kk : ∀ ls : Array Slot, lv_has ls 12 [(0, .ref h1), (1, .int (zI mx)), (2, .int (zI nn)), (3, .int (zI n)), (4, .int (zI v)), (5, .int (zI mk)), (6, .int (zI 4)), (7, .int (zI b)), (8, .int (zI ee)), (9, .int (zI s1)), (10, .int (zI yf))] → W p l e R s m args below meth c s.heap [] 0 0 Q (F0 m 219 ls [])) :
    ∀ (K : Nat) (x y : Int), (x - mx).toNat = K → (0 ≤ x ∧ x ≤ n - ee - (4 - b - 2)) → y + lessK b (n - ee) mx K = yf → ∀ ls : Array Slot, lv_has ls 12 [(0, .ref h1), (1, .int (zI mx)), (2, .int (zI nn)), (3, .int (zI n)), (4, .int (zI v)), (5, .int (zI mk)), (6, .int (zI 4)), (7, .int (zI b)), (8, .int (zI ee)), (9, .int (zI s1)), (10, .int (zI y)), (11, .int (zI x))] → W p l e R s m args below meth c s.heap [] 0 0 Q (F0 m 183 ls []) := by
  intro K
  induction K with
  | zero =>
    intro x y hK hxt hy ls hl
    have hy : y = yf := by rw [← hy]; exact (Int.add_zero y).symm
    subst hy
    refine lv_iload hx hb dX2_getRSSvalue_183 (lv_at hl 11 rfl) ?_
    refine lv_iload_n hx hb dX2_getRSSvalue_185 rfl (lv_at hl 1 rfl) ?_
    refine zw_icmp_le_t (tgt := 219) hx hb (by omega) (by omega) (by decide) dX2_getRSSvalue_186 ?_
    exact kk ls (lv_sub hl [0, 1, 2, 3, 4, 5, 6, 7, 8, 9, 10] rfl)
  | succ K ih =>
    intro x y hK hxt hy ls hl
    have hxe : x = mx + (K : Int) + 1 := by omega
    refine lv_iload hx hb dX2_getRSSvalue_183 (lv_at hl 11 rfl) ?_
    refine lv_iload_n hx hb dX2_getRSSvalue_185 rfl (lv_at hl 1 rfl) ?_
    refine zw_icmp_le_f (tgt := 219) hx hb (by omega) (by omega) (by decide) dX2_getRSSvalue_186 ?_
    refine lv_iload hx hb dX2_getRSSvalue_189 (lv_at hl 10 rfl) ?_
    refine lv_iload_n hx hb dX2_getRSSvalue_191 rfl (lv_at hl 3 rfl) ?_
    refine lv_iload hx hb dX2_getRSSvalue_192 (lv_at hl 8 rfl) ?_
    refine zw_isub hx hb dX2_getRSSvalue_194 ?_
    refine lv_iload hx hb dX2_getRSSvalue_195 (lv_at hl 11 rfl) ?_
    refine zw_isub hx hb dX2_getRSSvalue_197 ?_
    refine lv_iconst (v := zI 1) hx hb dX2_getRSSvalue_198 rfl ?_
    refine zw_isub hx hb dX2_getRSSvalue_199 ?_
    refine lv_iload hx hb dX2_getRSSvalue_200 (lv_at hl 6 rfl) ?_
    refine lv_iload hx hb dX2_getRSSvalue_202 (lv_at hl 7 rfl) ?_
    refine zw_isub hx hb dX2_getRSSvalue_204 ?_
    refine lv_iconst (v := zI 3) hx hb dX2_getRSSvalue_205 rfl ?_
    refine zw_isub hx hb dX2_getRSSvalue_206 ?_
    refine zw_callR (W.runS (As := [.int (zI (((n - ee) - x) - 1)), .int (zI ((4 - b) - 3))]) (rest := [.int (zI y)]) ⟨hx, hb, hml, hown, hts⟩ (met_combins l (((n - ee) - x) - 1) ((4 - b) - 3) (by omega)) (va_cwS 2 hts (lw_S q47 q48 q9 q49) rfl rfl rfl (by decide +kernel) hR) preEq rfl rfl hl.1 rfl (lv_room (Nat.le_of_ble_eq_true rfl)) dX2_getRSSvalue_207 ⟨Nat.zero_le _, Nat.zero_le _⟩) ?_
    refine zw_iadd hx hb dX2_getRSSvalue_210 ?_
    refine lv_istore (lv' := [(10, .int (zI (y + (cb (((n - ee) - x) - 1) ((4 - b) - 3))))), (0, .ref h1), (1, .int (zI mx)), (2, .int (zI nn)), (3, .int (zI n)), (4, .int (zI v)), (5, .int (zI mk)), (6, .int (zI 4)), (7, .int (zI b)), (8, .int (zI ee)), (9, .int (zI s1)), (11, .int (zI x))]) hx hb dX2_getRSSvalue_211 hl (by decide) rfl (fun ls hl => ?_)
    refine lv_iinc (v := zI (x + (-1))) (lv' := [(11, .int (zI (x + (-1)))), (10, .int (zI (y + (cb (((n - ee) - x) - 1) ((4 - b) - 3))))), (0, .ref h1), (1, .int (zI mx)), (2, .int (zI nn)), (3, .int (zI n)), (4, .int (zI v)), (5, .int (zI mk)), (6, .int (zI 4)), (7, .int (zI b)), (8, .int (zI ee)), (9, .int (zI s1))]) hx hb dX2_getRSSvalue_213 hl (k := 11) rfl (zI_add x (-1)) (by decide) rfl (fun ls hl => ?_)
    refine lv_goto (tgt := 183) hx hb dX2_getRSSvalue_216 (by decide) ?_
    refine ih (x + (-1)) (y + cb (((n - ee) - x) - 1) ((4 - b) - 3)) (by omega) (by omega) ?_ ls (lv_sub hl [2, 3, 4, 5, 6, 7, 8, 9, 10, 11, 1, 0] rfl)
    have e1 : lessK b (n - ee) mx (K + 1) = cb (n - ee - (mx + (K : Int) + 1) - 1) (4 - b - 3) + lessK b (n - ee) mx K := rfl
    rw [e1, ← hxe] at hy
    omega
set_option maxHeartbeats 4000000 in
set_option maxRecDepth 100000 in
/-- getRSSvalue: from the narrow condition to the sum -/
theorem rss_tail {p : Program} {l : Launch} {e : Env} {R : Room} {s : State} {m : MethodId} {args : Array Value} {below : List Frame} {meth : Method} {c : Code} {Q : State → Prop} {h1 : Nat} (hx : p.tables.exec = Jvm.exec) (hb : c.code = cX2_getRSSvalue) (hml : c.maxLocals = 12) (hown : s.vm.findClass RX2 = some m.cls) (hts : ∀ w ∈ lw_all, w.before args s = true) (hR : rmX2_combins.frames + 1 ≤ R.frames ∧ 8 + (7 + 11) + rmX2_combins.locals ≤ R.locals) {mx nn n v mk b ee s1 : Int} (h : 0 ≤ b ∧ b ≤ 2 ∧ 0 ≤ mx ∧ mx ≤ 8 ∧ 3 - b ≤ n - ee ∧ n - ee ≤ 32) {ls : Array Slot} (hl : lv_has ls 12 [(0, .ref h1), (1, .int (zI mx)), (2, .int (zI nn)), (3, .int (zI n)), (4, .int (zI v)), (5, .int (zI mk)), (6, .int (zI 4)), (7, .int (zI b)), (8, .int (zI ee)), (9, .int (zI s1))])
    (kk : ∀ ls : Array Slot, lv_has ls 12 [(0, .ref h1), (1, .int (zI mx)), (2, .int (zI nn)), (3, .int (zI n)), (4, .int (zI v)), (5, .int (zI mk)), (6, .int (zI 4)), (7, .int (zI b)), (8, .int (zI ee)), (9, .int (zI (tailZ b (n - ee) mx s1)))] → W p l e R s m args below meth c s.heap [] 0 0 Q (F0 m 248 ls [])) : W p l e R s m args below meth c s.heap [] 0 0 Q (F0 m 155 ls []) := by
  refine lv_iload hx hb dX2_getRSSvalue_155 (lv_at hl 6 rfl) ?_
  refine lv_iload hx hb dX2_getRSSvalue_157 (lv_at hl 7 rfl) ?_
  refine zw_isub hx hb dX2_getRSSvalue_159 ?_
  refine lv_iconst (v := zI 1) hx hb dX2_getRSSvalue_160 rfl ?_
  refine zw_isub hx hb dX2_getRSSvalue_161 ?_
  refine lv_iconst (v := zI 1) hx hb dX2_getRSSvalue_162 rfl ?_
  refine zw_icmp_le (tgt := 237) hx hb (by omega) (by decide) dX2_getRSSvalue_163 (fun c1 => ?_) (fun c1 => ?_)
  · refine lv_iload_n hx hb dX2_getRSSvalue_237 rfl (lv_at hl 3 rfl) ?_
    refine lv_iload hx hb dX2_getRSSvalue_238 (lv_at hl 8 rfl) ?_
    refine zw_isub hx hb dX2_getRSSvalue_240 ?_
    refine lv_iload_n hx hb dX2_getRSSvalue_241 rfl (lv_at hl 1 rfl) ?_
    refine zw_icmp_le (tgt := 248) hx hb (by omega) (by decide) dX2_getRSSvalue_242 (fun c2 => ?_) (fun c2 => ?_)
    · rw [tailZ_3 (by omega) (by omega)] at kk
      exact kk ls (lv_sub hl [0, 1, 2, 3, 4, 5, 6, 7, 8, 9] rfl)
    · rw [tailZ_2 (by omega) (by omega)] at kk
      refine lv_iinc (v := zI (s1 + (-1))) (lv' := [(9, .int (zI (s1 + (-1)))), (0, .ref h1), (1, .int (zI mx)), (2, .int (zI nn)), (3, .int (zI n)), (4, .int (zI v)), (5, .int (zI mk)), (6, .int (zI 4)), (7, .int (zI b)), (8, .int (zI ee))]) hx hb dX2_getRSSvalue_245 hl (k := 9) rfl (zI_add s1 (-1)) (by decide) rfl (fun ls hl => ?_)
      exact kk ls (lv_sub hl [1, 2, 3, 4, 5, 6, 7, 8, 9, 0] rfl)
  · rw [tailZ_1 (by omega)] at kk
    refine lv_iconst (v := zI 0) hx hb dX2_getRSSvalue_166 rfl ?_
    refine lv_istore (lv' := [(10, .int (zI 0)), (0, .ref h1), (1, .int (zI mx)), (2, .int (zI nn)), (3, .int (zI n)), (4, .int (zI v)), (5, .int (zI mk)), (6, .int (zI 4)), (7, .int (zI b)), (8, .int (zI ee)), (9, .int (zI s1))]) hx hb dX2_getRSSvalue_167 hl (by decide) rfl (fun ls hl => ?_)
    refine lv_iload_n hx hb dX2_getRSSvalue_169 rfl (lv_at hl 4 rfl) ?_
    refine lv_iload hx hb dX2_getRSSvalue_170 (lv_at hl 9 rfl) ?_
    refine zw_isub hx hb dX2_getRSSvalue_172 ?_
    refine lv_iload hx hb dX2_getRSSvalue_173 (lv_at hl 7 rfl) ?_
    refine lv_iload hx hb dX2_getRSSvalue_175 (lv_at hl 8 rfl) ?_
    refine zw_isub hx hb dX2_getRSSvalue_177 ?_
    refine lv_iconst (v := zI 2) hx hb dX2_getRSSvalue_178 rfl ?_
    refine zw_isub hx hb dX2_getRSSvalue_179 ?_
    refine zw_isub hx hb dX2_getRSSvalue_180 ?_
    refine lv_istore (lv' := [(11, .int (zI ((n - ee) - ((4 - b) - 2)))), (10, .int (zI 0)), (0, .ref h1), (1, .int (zI mx)), (2, .int (zI nn)), (3, .int (zI n)), (4, .int (zI v)), (5, .int (zI mk)), (6, .int (zI 4)), (7, .int (zI b)), (8, .int (zI ee)), (9, .int (zI s1))]) hx hb dX2_getRSSvalue_181 hl (by decide) rfl (fun ls hl => ?_)
    refine rss_less hx hb hml hown hts hR (by omega) (yf := lessK b (n - ee) mx (n - ee - (4 - b - 2) - mx).toNat) (fun ls hl => ?_) _ ((n - ee) - ((4 - b) - 2)) 0 rfl (by omega) (Int.zero_add _) ls (lv_sub hl [2, 3, 4, 5, 6, 7, 8, 9, 10, 11, 1, 0] rfl)
    refine lv_iload hx hb dX2_getRSSvalue_219 (lv_at hl 9 rfl) ?_
    refine lv_iload hx hb dX2_getRSSvalue_221 (lv_at hl 10 rfl) ?_
    refine lv_iload hx hb dX2_getRSSvalue_223 (lv_at hl 6 rfl) ?_
    refine lv_iconst (v := zI 1) hx hb dX2_getRSSvalue_225 rfl ?_
    refine zw_isub hx hb dX2_getRSSvalue_226 ?_
    refine lv_iload hx hb dX2_getRSSvalue_227 (lv_at hl 7 rfl) ?_
    refine zw_isub hx hb dX2_getRSSvalue_229 ?_
    refine zw_imul hx hb dX2_getRSSvalue_230 ?_
    refine zw_isub hx hb dX2_getRSSvalue_231 ?_
    refine lv_istore (lv' := [(9, .int (zI (s1 - ((lessK b (n - ee) mx (n - ee - (4 - b - 2) - mx).toNat) * ((4 - 1) - b))))), (0, .ref h1), (1, .int (zI mx)), (2, .int (zI nn)), (3, .int (zI n)), (4, .int (zI v)), (5, .int (zI mk)), (6, .int (zI 4)), (7, .int (zI b)), (8, .int (zI ee)), (10, .int (zI (lessK b (n - ee) mx (n - ee - (4 - b - 2) - mx).toNat)))]) hx hb dX2_getRSSvalue_232 hl (by decide) rfl (fun ls hl => ?_)
    refine lv_goto (tgt := 248) hx hb dX2_getRSSvalue_234 (by decide) ?_
    exact kk ls (lv_sub hl [1, 2, 3, 4, 5, 6, 7, 8, 9, 0] rfl)
set_option maxHeartbeats 4000000 in
set_option maxRecDepth 100000 in
/-- getRSSvalue: one step of the sum -/
theorem rss_mid {p : Program} {l : Launch} {e : Env} {R : Room} {s : State} {m : MethodId} {args : Array Value} {below : List Frame} {meth : Method} {c : Code} {Q : State → Prop} {h1 : Nat} (hx : p.tables.exec = Jvm.exec) (hb : c.code = cX2_getRSSvalue) (hml : c.maxLocals = 12) (hown : s.vm.findClass RX2 = some m.cls) (hts : ∀ w ∈ lw_all, w.before args s = true) (hR : rmX2_combins.frames + 1 ≤ R.frames ∧ 8 + (7 + 11) + rmX2_combins.locals ≤ R.locals) {mx nn n v b ee np : Int} {mk : Nat} (h : 0 ≤ b ∧ b ≤ 2 ∧ 0 ≤ mx ∧ mx ≤ 8 ∧ 3 - b ≤ n - ee ∧ n - ee ≤ 32) (h2 : 0 ≤ nn ∧ nn ≤ 1 ∧ mk ≤ 8 ∧ (np = 0 ↔ (nn = 0 ∨ mk ≠ 0))) {ls : Array Slot} (hl : lv_has ls 12 [(0, .ref h1), (1, .int (zI mx)), (2, .int (zI nn)), (3, .int (zI n)), (4, .int (zI v)), (5, .int (zI (mk : Int))), (6, .int (zI 4)), (7, .int (zI b)), (8, .int (zI ee))])
    (kk : ∀ ls : Array Slot, lv_has ls 12 [(0, .ref h1), (1, .int (zI mx)), (2, .int (zI nn)), (3, .int (zI n)), (4, .int (zI v)), (5, .int (zI (mk : Int))), (6, .int (zI 4)), (7, .int (zI b)), (8, .int (zI ee)), (9, .int (zI (subZ b (n - ee) mx np)))] → W p l e R s m args below meth c s.heap [] 0 0 Q (F0 m 248 ls [])) : W p l e R s m args below meth c s.heap [] 0 0 Q (F0 m 81 ls []) := by
  obtain ⟨g0, g1, g2, g3⟩ := h2
  refine lv_iload_n hx hb dX2_getRSSvalue_81 rfl (lv_at hl 3 rfl) ?_
  refine lv_iload hx hb dX2_getRSSvalue_82 (lv_at hl 8 rfl) ?_
  refine zw_isub hx hb dX2_getRSSvalue_84 ?_
  refine lv_iconst (v := zI 1) hx hb dX2_getRSSvalue_85 rfl ?_
  refine zw_isub hx hb dX2_getRSSvalue_86 ?_
  refine lv_iload hx hb dX2_getRSSvalue_87 (lv_at hl 6 rfl) ?_
  refine lv_iload hx hb dX2_getRSSvalue_89 (lv_at hl 7 rfl) ?_
  refine zw_isub hx hb dX2_getRSSvalue_91 ?_
  refine lv_iconst (v := zI 2) hx hb dX2_getRSSvalue_92 rfl ?_
  refine zw_isub hx hb dX2_getRSSvalue_93 ?_
  refine zw_callR (W.runS (As := [.int (zI ((n - ee) - 1)), .int (zI ((4 - b) - 2))]) (rest := []) ⟨hx, hb, hml, hown, hts⟩ (met_combins l ((n - ee) - 1) ((4 - b) - 2) (by omega)) (va_cwS 2 hts (lw_S q47 q48 q9 q49) rfl rfl rfl (by decide +kernel) hR) preEq rfl rfl hl.1 rfl (lv_room (Nat.le_of_ble_eq_true rfl)) dX2_getRSSvalue_94 ⟨Nat.zero_le _, Nat.zero_le _⟩) ?_
  refine lv_istore (lv' := [(9, .int (zI (cb ((n - ee) - 1) ((4 - b) - 2)))), (0, .ref h1), (1, .int (zI mx)), (2, .int (zI nn)), (3, .int (zI n)), (4, .int (zI v)), (5, .int (zI (mk : Int))), (6, .int (zI 4)), (7, .int (zI b)), (8, .int (zI ee))]) hx hb dX2_getRSSvalue_97 hl (by decide) rfl (fun ls hl => ?_)
  unfold subZ at kk
  refine lv_iload_n hx hb dX2_getRSSvalue_99 rfl (lv_at hl 3 rfl) ?_
  refine zw_if_eq (tgt := 155) hx hb (by omega) (by decide) dX2_getRSSvalue_100 (fun c1 => ?_) (fun c1 => ?_)
  · rw [s1Z_no (by omega)] at kk
    exact rss_tail hx hb hml hown hts hR h (lv_sub hl [1, 2, 3, 4, 5, 6, 7, 8, 9, 0] rfl) kk
  · refine lv_iload hx hb dX2_getRSSvalue_103 (lv_at hl 6 rfl) ?_
    refine zw_if_ne (tgt := 155) hx hb (by omega) (by decide) dX2_getRSSvalue_105 (fun c2 => ?_) (fun c2 => ?_)
    · rw [s1Z_no (by omega)] at kk
      exact rss_tail hx hb hml hown hts hR h (lv_sub hl [1, 2, 3, 4, 5, 6, 7, 8, 9, 0] rfl) kk
    · refine lv_iload_n hx hb dX2_getRSSvalue_108 rfl (lv_at hl 4 rfl) ?_
      refine lv_iload hx hb dX2_getRSSvalue_109 (lv_at hl 9 rfl) ?_
      refine zw_isub hx hb dX2_getRSSvalue_111 ?_
      refine lv_iload hx hb dX2_getRSSvalue_112 (lv_at hl 7 rfl) ?_
      refine lv_iload hx hb dX2_getRSSvalue_114 (lv_at hl 8 rfl) ?_
      refine zw_isub hx hb dX2_getRSSvalue_116 ?_
      refine lv_iconst (v := zI 1) hx hb dX2_getRSSvalue_117 rfl ?_
      refine zw_isub hx hb dX2_getRSSvalue_118 ?_
      refine zw_isub hx hb dX2_getRSSvalue_119 ?_
      refine lv_iload hx hb dX2_getRSSvalue_120 (lv_at hl 7 rfl) ?_
      refine lv_iload hx hb dX2_getRSSvalue_122 (lv_at hl 8 rfl) ?_
      refine zw_isub hx hb dX2_getRSSvalue_124 ?_
      refine lv_iconst (v := zI 1) hx hb dX2_getRSSvalue_125 rfl ?_
      refine zw_isub hx hb dX2_getRSSvalue_126 ?_
      refine zw_icmp_lt (tgt := 155) hx hb (by omega) (by decide) dX2_getRSSvalue_127 (fun c3 => ?_) (fun c3 => ?_)
      · rw [s1Z_no (by omega)] at kk
        exact rss_tail hx hb hml hown hts hR h (lv_sub hl [1, 2, 3, 4, 5, 6, 7, 8, 9, 0] rfl) kk
      · refine lv_iload hx hb dX2_getRSSvalue_130 (lv_at hl 0 rfl) ?_
        refine lv_iload_n hx hb dX2_getRSSvalue_132 rfl (lv_at hl 4 rfl) ?_
        refine lv_iload hx hb dX2_getRSSvalue_133 (lv_at hl 9 rfl) ?_
        refine zw_isub hx hb dX2_getRSSvalue_135 ?_
        refine lv_iload hx hb dX2_getRSSvalue_136 (lv_at hl 7 rfl) ?_
        refine lv_iload hx hb dX2_getRSSvalue_138 (lv_at hl 8 rfl) ?_
        refine zw_isub hx hb dX2_getRSSvalue_140 ?_
        refine zw_isub hx hb dX2_getRSSvalue_141 ?_
        refine lv_iload hx hb dX2_getRSSvalue_142 (lv_at hl 7 rfl) ?_
        refine lv_iload hx hb dX2_getRSSvalue_144 (lv_at hl 8 rfl) ?_
        refine zw_isub hx hb dX2_getRSSvalue_146 ?_
        refine lv_iconst (v := zI 2) hx hb dX2_getRSSvalue_147 rfl ?_
        refine zw_isub hx hb dX2_getRSSvalue_148 ?_
        refine zw_callR (W.runS (As := [.int (zI ((n - ee) - (4 - b))), .int (zI ((4 - b) - 2))]) (rest := [.int (zI (cb ((n - ee) - 1) ((4 - b) - 2)))]) ⟨hx, hb, hml, hown, hts⟩ (met_combins l ((n - ee) - (4 - b)) ((4 - b) - 2) (by omega)) (va_cwS 2 hts (lw_S q47 q48 q9 q49) rfl rfl rfl (by decide +kernel) hR) preEq rfl rfl hl.1 rfl (lv_room (Nat.le_of_ble_eq_true rfl)) dX2_getRSSvalue_149 ⟨Nat.zero_le _, Nat.zero_le _⟩) ?_
        refine zw_isub hx hb dX2_getRSSvalue_152 ?_
        refine lv_istore (lv' := [(9, .int (zI ((cb ((n - ee) - 1) ((4 - b) - 2)) - (cb ((n - ee) - (4 - b)) ((4 - b) - 2))))), (0, .ref h1), (1, .int (zI mx)), (2, .int (zI nn)), (3, .int (zI n)), (4, .int (zI v)), (5, .int (zI (mk : Int))), (6, .int (zI 4)), (7, .int (zI b)), (8, .int (zI ee))]) hx hb dX2_getRSSvalue_153 hl (by decide) rfl (fun ls hl => ?_)
        rw [s1Z_yes (by omega) (by omega)] at kk
        exact rss_tail hx hb hml hown hts hR h (lv_sub hl [1, 2, 3, 4, 5, 6, 7, 8, 9, 0] rfl) kk
set_option maxHeartbeats 4000000 in
set_option maxRecDepth 100000 in
/-- getRSSvalue: the loop over elmWidth -/
theorem rss_elm {p : Program} {l : Launch} {e : Env} {R : Room} {s : State} {m : MethodId} {args : Array Value} {below : List Frame} {meth : Method} {c : Code} {Q : State → Prop} {h1 : Nat} (hx : p.tables.exec = Jvm.exec) (hb : c.code = cX2_getRSSvalue) (hml : c.maxLocals = 12) (hown : s.vm.findClass RX2 = some m.cls) (hts : ∀ w ∈ lw_all, w.before args s = true) (hR : rmX2_combins.frames + 1 ≤ R.frames ∧ 8 + (7 + 11) + rmX2_combins.locals ≤ R.locals) {dC : Nat → ClassId} {dI : Nat → Nat → Nat} {d0 : ClassId} {f : Nat → Int32} {w : Nat → Nat} (hK : va_K (dC, dI) vwCl [(d0, .int)] s) (hP : va_P (dC, dI) vwCl [(h1, .inl (d0, 4, .inl f))] s.heap) (hw : okw f w) {mx nn n v0 pn : Int} {bn k : Nat} (hbn : bn < 3) (hk : k < pw bn) (hkp : k = 0 ↔ pn = 0) (h : 0 ≤ mx ∧ mx ≤ 8 ∧ 0 ≤ nn ∧ nn ≤ 1 ∧ (w bn : Int) + (3 - (bn : Int)) ≤ n ∧ n ≤ 32)
    (kk : ∀ (ls : Array Slot) (mk : Nat), (w bn = 1 → mk = k + pw bn) → (w bn ≠ 1 → mk = k) → lv_has ls 12 [(0, .ref h1), (1, .int (zI mx)), (2, .int (zI nn)), (3, .int (zI n)), (4, .int (zI (v0 + barZ (bn : Int) n mx nn pn (w bn)))), (5, .int (zI (mk : Int))), (6, .int (zI 4)), (7, .int (zI (bn : Int))), (8, .int (zI (w bn : Int)))] → W p l e R s m args below meth c s.heap [] 0 0 Q (F0 m 272 ls [])) :
    ∀ (r j : Nat) (ee v : Int) (mk : Nat), j + 1 + r = w bn → ee = ((j + 1 : Nat) : Int) → (j = 0 → mk = k + pw bn) → (j ≠ 0 → mk = k) → v = v0 + sumE (fun e => subZ (bn : Int) (n - (e : Int)) mx (npF nn pn e)) j → ∀ ls : Array Slot, lv_has ls 12 [(0, .ref h1), (1, .int (zI mx)), (2, .int (zI nn)), (3, .int (zI n)), (4, .int (zI v)), (5, .int (zI (mk : Int))), (6, .int (zI 4)), (7, .int (zI (bn : Int))), (8, .int (zI ee))] → W p l e R s m args below meth c s.heap [] 0 0 Q (F0 m 72 ls []) := by
  have hpw := pw_pos bn
  have hpw2 : pw bn ≤ 4 := by
    have q : bn = 0 ∨ bn = 1 ∨ bn = 2 := by omega
    rcases q with rfl | rfl | rfl <;> decide
  intro r
  induction r with
  | zero =>
    intro j ee v mk hj hee hk0 hk1 hv ls hl
    refine lv_iload hx hb dX2_getRSSvalue_72 (lv_at hl 8 rfl) ?_
    refine lv_aload_n hx hb dX2_getRSSvalue_74 rfl (lv_at hl 0 rfl) ?_
    refine lv_iload hx hb dX2_getRSSvalue_75 (lv_at hl 7 rfl) ?_
    refine zw_iald (b := bn) hx hb hK hP 0 0 rfl rfl rfl ⟨by omega, by decide⟩ (hw bn (by omega)).1 dX2_getRSSvalue_77 ?_
    refine zw_icmp_ge_t (tgt := 272) hx hb (by omega) (by omega) (by decide) dX2_getRSSvalue_78 ?_
    have e1 : barZ (bn : Int) n mx nn pn (w bn) = sumE (fun e => subZ (bn : Int) (n - (e : Int)) mx (npF nn pn e)) j := by
      unfold barZ
      rw [show w bn - 1 = j by omega]
    have e2 : ee = (w bn : Int) := by omega
    rw [e2, hv, ← e1] at hl
    exact kk ls mk (by omega) (by omega) hl
  | succ r ih =>
    intro j ee v mk hj hee hk0 hk1 hv ls hl
    have hnp := npF_0 nn pn (j + 1)
    refine lv_iload hx hb dX2_getRSSvalue_72 (lv_at hl 8 rfl) ?_
    refine lv_aload_n hx hb dX2_getRSSvalue_74 rfl (lv_at hl 0 rfl) ?_
    refine lv_iload hx hb dX2_getRSSvalue_75 (lv_at hl 7 rfl) ?_
    refine zw_iald (b := bn) hx hb hK hP 0 0 rfl rfl rfl ⟨by omega, by decide⟩ (hw bn (by omega)).1 dX2_getRSSvalue_77 ?_
    refine zw_icmp_ge_f (tgt := 272) hx hb (by omega) (by omega) (by decide) dX2_getRSSvalue_78 ?_
    refine rss_mid hx hb hml hown hts hR (np := npF nn pn (j + 1)) (by omega) (by omega) hl (fun ls hl => ?_)
    refine lv_iload hx hb dX2_getRSSvalue_248 (lv_at hl 4 rfl) ?_
    refine lv_iload hx hb dX2_getRSSvalue_250 (lv_at hl 9 rfl) ?_
    refine zw_iadd hx hb dX2_getRSSvalue_252 ?_
    refine lv_istore (lv' := [(4, .int (zI (v + (subZ (bn : Int) (n - ee) mx (npF nn pn (j + 1)))))), (0, .ref h1), (1, .int (zI mx)), (2, .int (zI nn)), (3, .int (zI n)), (5, .int (zI (mk : Int))), (6, .int (zI 4)), (7, .int (zI (bn : Int))), (8, .int (zI ee)), (9, .int (zI (subZ (bn : Int) (n - ee) mx (npF nn pn (j + 1)))))]) hx hb dX2_getRSSvalue_253 hl (by decide) rfl (fun ls hl => ?_)
    refine lv_iinc (v := zI (ee + 1)) (lv' := [(8, .int (zI (ee + 1))), (4, .int (zI (v + (subZ (bn : Int) (n - ee) mx (npF nn pn (j + 1)))))), (0, .ref h1), (1, .int (zI mx)), (2, .int (zI nn)), (3, .int (zI n)), (5, .int (zI (mk : Int))), (6, .int (zI 4)), (7, .int (zI (bn : Int))), (9, .int (zI (subZ (bn : Int) (n - ee) mx (npF nn pn (j + 1)))))]) hx hb dX2_getRSSvalue_255 hl (k := 8) rfl (zI_add ee 1) (by decide) rfl (fun ls hl => ?_)
    refine lv_iload hx hb dX2_getRSSvalue_258 (lv_at hl 6 rfl) ?_
    refine lv_iconst (v := zI 1) hx hb dX2_getRSSvalue_260 rfl ?_
    refine lv_iload hx hb dX2_getRSSvalue_261 (lv_at hl 8 rfl) ?_
    refine lv_ishl hx hb dX2_getRSSvalue_263 ?_
    refine lv_iconst (v := zI (-1)) hx hb dX2_getRSSvalue_264 rfl ?_
    refine lv_ixor hx hb dX2_getRSSvalue_265 ?_
    refine lv_iand hx hb dX2_getRSSvalue_266 ?_
    refine zw_top (mask_clr hbn hk (by omega)) ?_
    refine lv_istore (lv' := [(5, .int (zI (k : Int))), (8, .int (zI (ee + 1))), (4, .int (zI (v + (subZ (bn : Int) (n - ee) mx (npF nn pn (j + 1)))))), (0, .ref h1), (1, .int (zI mx)), (2, .int (zI nn)), (3, .int (zI n)), (6, .int (zI 4)), (7, .int (zI (bn : Int))), (9, .int (zI (subZ (bn : Int) (n - ee) mx (npF nn pn (j + 1)))))]) hx hb dX2_getRSSvalue_267 hl (by decide) rfl (fun ls hl => ?_)
    refine lv_goto (tgt := 72) hx hb dX2_getRSSvalue_269 (by decide) ?_
    refine ih (j + 1) (ee + 1) (v + subZ (bn : Int) (n - ee) mx (npF nn pn (j + 1))) k (by omega) (by omega) (fun h => absurd h (by omega)) (fun _ => rfl) ?_ ls (lv_sub hl [3, 4, 5, 6, 2, 0, 7, 8, 1] rfl)
    rw [hv, hee]
    exact Int.add_assoc _ _ _
set_option maxHeartbeats 4000000 in
set_option maxRecDepth 100000 in
/-- getRSSvalue: one bar -/
theorem rss_bar {p : Program} {l : Launch} {e : Env} {R : Room} {s : State} {m : MethodId} {args : Array Value} {below : List Frame} {meth : Method} {c : Code} {Q : State → Prop} {h1 : Nat} (hx : p.tables.exec = Jvm.exec) (hb : c.code = cX2_getRSSvalue) (hml : c.maxLocals = 12) (hown : s.vm.findClass RX2 = some m.cls) (hts : ∀ w ∈ lw_all, w.before args s = true) (hR : rmX2_combins.frames + 1 ≤ R.frames ∧ 8 + (7 + 11) + rmX2_combins.locals ≤ R.locals) {dC : Nat → ClassId} {dI : Nat → Nat → Nat} {d0 : ClassId} {f : Nat → Int32} {w : Nat → Nat} (hK : va_K (dC, dI) vwCl [(d0, .int)] s) (hP : va_P (dC, dI) vwCl [(h1, .inl (d0, 4, .inl f))] s.heap) (hw : okw f w) {mx nn n n' v v' pn b : Int} {bn k : Nat} (hbb : b = (bn : Int)) (hbn : bn < 3) (hk : k < pw bn) (hkp : k = 0 ↔ pn = 0) (h : 0 ≤ mx ∧ mx ≤ 8 ∧ 0 ≤ nn ∧ nn ≤ 1 ∧ (w bn : Int) + (3 - (bn : Int)) ≤ n ∧ n ≤ 32) (hn' : n - (w bn : Int) = n') (hv' : v + barZ (bn : Int) n mx nn pn (w bn) = v') {ls : Array Slot} (hl : lv_has ls 12 [(0, .ref h1), (1, .int (zI mx)), (2, .int (zI nn)), (3, .int (zI n)), (4, .int (zI v)), (5, .int (zI (k : Int))), (6, .int (zI 4)), (7, .int (zI b))])
    (kk : ∀ (ls : Array Slot) (mk : Nat), (w bn = 1 → mk = k + pw bn) → (w bn ≠ 1 → mk = k) → lv_has ls 12 [(0, .ref h1), (1, .int (zI mx)), (2, .int (zI nn)), (3, .int (zI n')), (4, .int (zI v')), (5, .int (zI (mk : Int))), (6, .int (zI 4)), (7, .int (zI (b + 1)))] → W p l e R s m args below meth c s.heap [] 0 0 Q (F0 m 51 ls [])) : W p l e R s m args below meth c s.heap [] 0 0 Q (F0 m 51 ls []) := by
  subst hbb
  subst hn'
  subst hv'
  have hw1 := hw bn (by omega)
  refine lv_iload hx hb dX2_getRSSvalue_51 (lv_at hl 7 rfl) ?_
  refine lv_iload hx hb dX2_getRSSvalue_53 (lv_at hl 6 rfl) ?_
  refine lv_iconst (v := zI 1) hx hb dX2_getRSSvalue_55 rfl ?_
  refine zw_isub hx hb dX2_getRSSvalue_56 ?_
  refine zw_icmp_ge_f (tgt := 283) hx hb (by omega) (by omega) (by decide) dX2_getRSSvalue_57 ?_
  refine lv_iconst (v := zI 1) hx hb dX2_getRSSvalue_60 rfl ?_
  refine lv_istore (lv' := [(8, .int (zI 1)), (0, .ref h1), (1, .int (zI mx)), (2, .int (zI nn)), (3, .int (zI n)), (4, .int (zI v)), (5, .int (zI (k : Int))), (6, .int (zI 4)), (7, .int (zI (bn : Int)))]) hx hb dX2_getRSSvalue_61 hl (by decide) rfl (fun ls hl => ?_)
  refine lv_iload hx hb dX2_getRSSvalue_63 (lv_at hl 6 rfl) ?_
  refine lv_iconst (v := zI 1) hx hb dX2_getRSSvalue_65 rfl ?_
  refine lv_iload hx hb dX2_getRSSvalue_66 (lv_at hl 8 rfl) ?_
  refine lv_ishl hx hb dX2_getRSSvalue_68 ?_
  refine lv_ior hx hb dX2_getRSSvalue_69 ?_
  refine zw_top (mask_or bn hbn k hk) ?_
  refine lv_istore (lv' := [(5, .int (zI ((k + pw bn : Nat) : Int))), (8, .int (zI 1)), (0, .ref h1), (1, .int (zI mx)), (2, .int (zI nn)), (3, .int (zI n)), (4, .int (zI v)), (6, .int (zI 4)), (7, .int (zI (bn : Int)))]) hx hb dX2_getRSSvalue_70 hl (by decide) rfl (fun ls hl => ?_)
  refine rss_elm hx hb hml hown hts hR hK hP hw (n := n) (v0 := v) (k := k) hbn hk hkp h (fun ls mk hm1 hm2 hl => ?_) (w bn - 1) 0 1 v (k + pw bn) (by omega) rfl (fun _ => rfl) (fun h => absurd rfl h) (Int.add_zero v).symm ls (lv_sub hl [2, 3, 4, 5, 6, 0, 7, 8, 1] rfl)
  refine lv_iload_n hx hb dX2_getRSSvalue_272 rfl (lv_at hl 3 rfl) ?_
  refine lv_iload hx hb dX2_getRSSvalue_273 (lv_at hl 8 rfl) ?_
  refine zw_isub hx hb dX2_getRSSvalue_275 ?_
  refine lv_istore_n (lv' := [(3, .int (zI (n - (w bn : Int)))), (0, .ref h1), (1, .int (zI mx)), (2, .int (zI nn)), (4, .int (zI (v + barZ (bn : Int) n mx nn pn (w bn)))), (5, .int (zI (mk : Int))), (6, .int (zI 4)), (7, .int (zI (bn : Int))), (8, .int (zI (w bn : Int)))]) hx hb dX2_getRSSvalue_276 rfl hl (by decide) rfl (fun ls hl => ?_)
  refine lv_iinc (v := zI ((bn : Int) + 1)) (lv' := [(7, .int (zI ((bn : Int) + 1))), (3, .int (zI (n - (w bn : Int)))), (0, .ref h1), (1, .int (zI mx)), (2, .int (zI nn)), (4, .int (zI (v + barZ (bn : Int) n mx nn pn (w bn)))), (5, .int (zI (mk : Int))), (6, .int (zI 4)), (8, .int (zI (w bn : Int)))]) hx hb dX2_getRSSvalue_277 hl (k := 7) rfl (zI_add (bn : Int) 1) (by decide) rfl (fun ls hl => ?_)
  refine lv_goto (tgt := 51) hx hb dX2_getRSSvalue_280 (by decide) ?_
  exact kk ls mk hm1 hm2 (lv_sub hl [2, 3, 4, 1, 5, 6, 7, 0] rfl)
set_option maxHeartbeats 4000000 in
set_option maxRecDepth 100000 in
/-- getRSSvalue(widths, maxWidth, noNarrow): nothing is written -/
theorem met_rss (l : Launch) (dC : Nat → ClassId) (dI : Nat → Nat → Nat) (h1 : Nat) (d0 : ClassId) (f : Nat → Int32) (w : Nat → Nat) (hw : okw f w) (mx : Nat) (hm : mx ≤ 8) (nn : Int) (hnn : 0 ≤ nn ∧ nn ≤ 1) : Met l yX2_getRSSvalue wsX2_getRSSvalue rmX2_getRSSvalue (va_Pc [.ref h1, .int (zI (mx : Int)), .int (zI nn)] (fun U => va_P (dC, dI) vwCl [(h1, .inl (d0, 4, .inl f))] U.heap ∧ va_K (dC, dI) vwCl [(d0, .int)] U)) (QcRead (zI (rssZ (w 0) (w 1) (w 2) (w 3) (mx : Int) nn))) 0 0 (fun _ => False) := by
  refine Met.ofW (cc := cX2_getRSSvalue) (maxL := 12) (ret := (some .int)) (by decide) rfl ?_
  intro p e s m args below meth c s₁ B hml hv
  obtain ⟨rfl, hP, hK⟩ := hv
  have hx := B.exec
  have hb := B.bytes
  have hr := B.returns
  have hts := atoms_spec (ws := wsX2_getRSSvalue) B.pre
  have hts : ∀ w ∈ lw_all, w.before _ s = true := fun w h => hts w (List.mem_cons_of_mem _ h)
  have hown : s.vm.findClass RX2 = some m.cls := findClass_of_methodNamed B.named
  have hlocks := B.notSynchronized
  have hl := lv_entry ([.ref h1, .int (zI (mx : Int)), .int (zI nn)]) (n := 12) (Nat.le_of_ble_eq_true rfl)
  rw [lg_entry_eq]
  generalize (lg_sl ([.ref h1, .int (zI (mx : Int)), .int (zI nn)]) ++ List.replicate (12 - (lg_sl ([.ref h1, .int (zI (mx : Int)), .int (zI nn)])).length) Slot.unset).toArray = ls at hl ⊢
  have hl : lv_has ls 12 [(0, .ref h1), (1, .int (zI (mx : Int))), (2, .int (zI nn))] := hl
  have hw0 := hw 0 (by decide)
  have hw1 := hw 1 (by decide)
  have hw2 := hw 2 (by decide)
  have hw3 := hw 3 (by decide)
  have hR : rmX2_combins.frames + 1 ≤ (headSpec wsX2_getRSSvalue rmX2_getRSSvalue).room.frames ∧ 8 + (7 + 11) + rmX2_combins.locals ≤ (headSpec wsX2_getRSSvalue rmX2_getRSSvalue).room.locals := ⟨Nat.le_of_ble_eq_true rfl, Nat.le_of_ble_eq_true rfl⟩
  refine lv_iconst (v := zI 0) hx hb dX2_getRSSvalue_0 rfl ?_
  refine lv_istore_n (lv' := [(3, .int (zI 0)), (0, .ref h1), (1, .int (zI (mx : Int))), (2, .int (zI nn))]) hx hb dX2_getRSSvalue_1 rfl hl (by decide) rfl (fun ls hl => ?_)
  refine lv_aload_n hx hb dX2_getRSSvalue_2 rfl (lv_at hl 1 rfl) ?_
  refine lv_astore (lv' := [(4, .ref h1), (3, .int (zI 0)), (0, .ref h1), (1, .int (zI (mx : Int))), (2, .int (zI nn))]) hx hb dX2_getRSSvalue_3 hl (by decide) rfl (fun ls hl => ?_)
  refine lv_aload hx hb dX2_getRSSvalue_5 (lv_at hl 0 rfl) ?_
  refine va_alen (v := (zI 4)) hx hb hK hP 0 0 rfl rfl rfl dX2_getRSSvalue_7 ?_
  refine lv_istore (lv' := [(5, .int (zI 4)), (4, .ref h1), (3, .int (zI 0)), (0, .ref h1), (1, .int (zI (mx : Int))), (2, .int (zI nn))]) hx hb dX2_getRSSvalue_8 hl (by decide) rfl (fun ls hl => ?_)
  refine lv_iconst (v := zI 0) hx hb dX2_getRSSvalue_10 rfl ?_
  refine lv_istore (lv' := [(6, .int (zI 0)), (5, .int (zI 4)), (4, .ref h1), (3, .int (zI 0)), (0, .ref h1), (1, .int (zI (mx : Int))), (2, .int (zI nn))]) hx hb dX2_getRSSvalue_11 hl (by decide) rfl (fun ls hl => ?_)
  refine lv_iload hx hb dX2_getRSSvalue_13 (lv_at hl 0 rfl) ?_
  refine lv_iload hx hb dX2_getRSSvalue_15 (lv_at hl 1 rfl) ?_
  refine zw_icmp_ge_f (tgt := 38) hx hb (by omega) (by omega) (by decide) dX2_getRSSvalue_17 ?_
  refine lv_aload hx hb dX2_getRSSvalue_20 (lv_at hl 2 rfl) ?_
  refine lv_iload hx hb dX2_getRSSvalue_22 (lv_at hl 0 rfl) ?_
  refine zw_iald (b := 0) hx hb hK hP 0 0 rfl rfl rfl ⟨by decide, by decide⟩ hw0.1 dX2_getRSSvalue_24 ?_
  refine lv_istore (lv' := [(7, .int (zI (w 0 : Int))), (6, .int (zI 0)), (5, .int (zI 4)), (4, .ref h1), (3, .int (zI 0)), (0, .ref h1), (1, .int (zI (mx : Int))), (2, .int (zI nn))]) hx hb dX2_getRSSvalue_25 hl (by decide) rfl (fun ls hl => ?_)
  refine lv_iload_n hx hb dX2_getRSSvalue_27 rfl (lv_at hl 4 rfl) ?_
  refine lv_iload hx hb dX2_getRSSvalue_28 (lv_at hl 0 rfl) ?_
  refine zw_iadd hx hb dX2_getRSSvalue_30 ?_
  refine zw_top (congrArg zI (Int.zero_add _)) ?_
  refine lv_istore_n (lv' := [(3, .int (zI (w 0 : Int))), (7, .int (zI (w 0 : Int))), (6, .int (zI 0)), (5, .int (zI 4)), (4, .ref h1), (0, .ref h1), (1, .int (zI (mx : Int))), (2, .int (zI nn))]) hx hb dX2_getRSSvalue_31 rfl hl (by decide) rfl (fun ls hl => ?_)
  refine lv_iinc (v := zI (0 + 1)) (lv' := [(6, .int (zI (0 + 1))), (3, .int (zI (w 0 : Int))), (7, .int (zI (w 0 : Int))), (5, .int (zI 4)), (4, .ref h1), (0, .ref h1), (1, .int (zI (mx : Int))), (2, .int (zI nn))]) hx hb dX2_getRSSvalue_32 hl (k := 2) rfl (zI_add 0 1) (by decide) rfl (fun ls hl => ?_)
  refine lv_goto (tgt := 13) hx hb dX2_getRSSvalue_35 (by decide) ?_
  refine lv_iload hx hb dX2_getRSSvalue_13 (lv_at hl 0 rfl) ?_
  refine lv_iload hx hb dX2_getRSSvalue_15 (lv_at hl 3 rfl) ?_
  refine zw_icmp_ge_f (tgt := 38) hx hb (by omega) (by omega) (by decide) dX2_getRSSvalue_17 ?_
  refine lv_aload hx hb dX2_getRSSvalue_20 (lv_at hl 4 rfl) ?_
  refine lv_iload hx hb dX2_getRSSvalue_22 (lv_at hl 0 rfl) ?_
  refine zw_iald (b := 1) hx hb hK hP 0 0 rfl rfl rfl ⟨by decide, by decide⟩ hw1.1 dX2_getRSSvalue_24 ?_
  refine lv_istore (lv' := [(7, .int (zI (w 1 : Int))), (6, .int (zI (0 + 1))), (3, .int (zI (w 0 : Int))), (5, .int (zI 4)), (4, .ref h1), (0, .ref h1), (1, .int (zI (mx : Int))), (2, .int (zI nn))]) hx hb dX2_getRSSvalue_25 hl (by decide) rfl (fun ls hl => ?_)
  refine lv_iload_n hx hb dX2_getRSSvalue_27 rfl (lv_at hl 2 rfl) ?_
  refine lv_iload hx hb dX2_getRSSvalue_28 (lv_at hl 0 rfl) ?_
  refine zw_iadd hx hb dX2_getRSSvalue_30 ?_
  refine lv_istore_n (lv' := [(3, .int (zI ((w 0 : Int) + (w 1 : Int)))), (7, .int (zI (w 1 : Int))), (6, .int (zI (0 + 1))), (5, .int (zI 4)), (4, .ref h1), (0, .ref h1), (1, .int (zI (mx : Int))), (2, .int (zI nn))]) hx hb dX2_getRSSvalue_31 rfl hl (by decide) rfl (fun ls hl => ?_)
  refine lv_iinc (v := zI ((0 + 1) + 1)) (lv' := [(6, .int (zI ((0 + 1) + 1))), (3, .int (zI ((w 0 : Int) + (w 1 : Int)))), (7, .int (zI (w 1 : Int))), (5, .int (zI 4)), (4, .ref h1), (0, .ref h1), (1, .int (zI (mx : Int))), (2, .int (zI nn))]) hx hb dX2_getRSSvalue_32 hl (k := 2) rfl (zI_add (0 + 1) 1) (by decide) rfl (fun ls hl => ?_)
  refine lv_goto (tgt := 13) hx hb dX2_getRSSvalue_35 (by decide) ?_
  refine lv_iload hx hb dX2_getRSSvalue_13 (lv_at hl 0 rfl) ?_
  refine lv_iload hx hb dX2_getRSSvalue_15 (lv_at hl 3 rfl) ?_
  refine zw_icmp_ge_f (tgt := 38) hx hb (by omega) (by omega) (by decide) dX2_getRSSvalue_17 ?_
  refine lv_aload hx hb dX2_getRSSvalue_20 (lv_at hl 4 rfl) ?_
  refine lv_iload hx hb dX2_getRSSvalue_22 (lv_at hl 0 rfl) ?_
  refine zw_iald (b := 2) hx hb hK hP 0 0 rfl rfl rfl ⟨by decide, by decide⟩ hw2.1 dX2_getRSSvalue_24 ?_
  refine lv_istore (lv' := [(7, .int (zI (w 2 : Int))), (6, .int (zI ((0 + 1) + 1))), (3, .int (zI ((w 0 : Int) + (w 1 : Int)))), (5, .int (zI 4)), (4, .ref h1), (0, .ref h1), (1, .int (zI (mx : Int))), (2, .int (zI nn))]) hx hb dX2_getRSSvalue_25 hl (by decide) rfl (fun ls hl => ?_)
  refine lv_iload_n hx hb dX2_getRSSvalue_27 rfl (lv_at hl 2 rfl) ?_
  refine lv_iload hx hb dX2_getRSSvalue_28 (lv_at hl 0 rfl) ?_
  refine zw_iadd hx hb dX2_getRSSvalue_30 ?_
  refine lv_istore_n (lv' := [(3, .int (zI (((w 0 : Int) + (w 1 : Int)) + (w 2 : Int)))), (7, .int (zI (w 2 : Int))), (6, .int (zI ((0 + 1) + 1))), (5, .int (zI 4)), (4, .ref h1), (0, .ref h1), (1, .int (zI (mx : Int))), (2, .int (zI nn))]) hx hb dX2_getRSSvalue_31 rfl hl (by decide) rfl (fun ls hl => ?_)
  refine lv_iinc (v := zI (((0 + 1) + 1) + 1)) (lv' := [(6, .int (zI (((0 + 1) + 1) + 1))), (3, .int (zI (((w 0 : Int) + (w 1 : Int)) + (w 2 : Int)))), (7, .int (zI (w 2 : Int))), (5, .int (zI 4)), (4, .ref h1), (0, .ref h1), (1, .int (zI (mx : Int))), (2, .int (zI nn))]) hx hb dX2_getRSSvalue_32 hl (k := 2) rfl (zI_add ((0 + 1) + 1) 1) (by decide) rfl (fun ls hl => ?_)
  refine lv_goto (tgt := 13) hx hb dX2_getRSSvalue_35 (by decide) ?_
  refine lv_iload hx hb dX2_getRSSvalue_13 (lv_at hl 0 rfl) ?_
  refine lv_iload hx hb dX2_getRSSvalue_15 (lv_at hl 3 rfl) ?_
  refine zw_icmp_ge_f (tgt := 38) hx hb (by omega) (by omega) (by decide) dX2_getRSSvalue_17 ?_
  refine lv_aload hx hb dX2_getRSSvalue_20 (lv_at hl 4 rfl) ?_
  refine lv_iload hx hb dX2_getRSSvalue_22 (lv_at hl 0 rfl) ?_
  refine zw_iald (b := 3) hx hb hK hP 0 0 rfl rfl rfl ⟨by decide, by decide⟩ hw3.1 dX2_getRSSvalue_24 ?_
  refine lv_istore (lv' := [(7, .int (zI (w 3 : Int))), (6, .int (zI (((0 + 1) + 1) + 1))), (3, .int (zI (((w 0 : Int) + (w 1 : Int)) + (w 2 : Int)))), (5, .int (zI 4)), (4, .ref h1), (0, .ref h1), (1, .int (zI (mx : Int))), (2, .int (zI nn))]) hx hb dX2_getRSSvalue_25 hl (by decide) rfl (fun ls hl => ?_)
  refine lv_iload_n hx hb dX2_getRSSvalue_27 rfl (lv_at hl 2 rfl) ?_
  refine lv_iload hx hb dX2_getRSSvalue_28 (lv_at hl 0 rfl) ?_
  refine zw_iadd hx hb dX2_getRSSvalue_30 ?_
  refine lv_istore_n (lv' := [(3, .int (zI ((((w 0 : Int) + (w 1 : Int)) + (w 2 : Int)) + (w 3 : Int)))), (7, .int (zI (w 3 : Int))), (6, .int (zI (((0 + 1) + 1) + 1))), (5, .int (zI 4)), (4, .ref h1), (0, .ref h1), (1, .int (zI (mx : Int))), (2, .int (zI nn))]) hx hb dX2_getRSSvalue_31 rfl hl (by decide) rfl (fun ls hl => ?_)
  refine lv_iinc (v := zI ((((0 + 1) + 1) + 1) + 1)) (lv' := [(6, .int (zI ((((0 + 1) + 1) + 1) + 1))), (3, .int (zI ((((w 0 : Int) + (w 1 : Int)) + (w 2 : Int)) + (w 3 : Int)))), (7, .int (zI (w 3 : Int))), (5, .int (zI 4)), (4, .ref h1), (0, .ref h1), (1, .int (zI (mx : Int))), (2, .int (zI nn))]) hx hb dX2_getRSSvalue_32 hl (k := 2) rfl (zI_add (((0 + 1) + 1) + 1) 1) (by decide) rfl (fun ls hl => ?_)
  refine lv_goto (tgt := 13) hx hb dX2_getRSSvalue_35 (by decide) ?_
  refine lv_iload hx hb dX2_getRSSvalue_13 (lv_at hl 0 rfl) ?_
  refine lv_iload hx hb dX2_getRSSvalue_15 (lv_at hl 3 rfl) ?_
  refine zw_icmp_ge_t (tgt := 38) hx hb (by omega) (by omega) (by decide) dX2_getRSSvalue_17 ?_
  refine lv_iconst (v := zI 0) hx hb dX2_getRSSvalue_38 rfl ?_
  refine lv_istore (lv' := [(4, .int (zI 0)), (6, .int (zI ((((0 + 1) + 1) + 1) + 1))), (3, .int (zI ((((w 0 : Int) + (w 1 : Int)) + (w 2 : Int)) + (w 3 : Int)))), (7, .int (zI (w 3 : Int))), (5, .int (zI 4)), (0, .ref h1), (1, .int (zI (mx : Int))), (2, .int (zI nn))]) hx hb dX2_getRSSvalue_39 hl (by decide) rfl (fun ls hl => ?_)
  refine lv_iconst (v := zI 0) hx hb dX2_getRSSvalue_41 rfl ?_
  refine lv_istore (lv' := [(5, .int (zI 0)), (4, .int (zI 0)), (6, .int (zI ((((0 + 1) + 1) + 1) + 1))), (3, .int (zI ((((w 0 : Int) + (w 1 : Int)) + (w 2 : Int)) + (w 3 : Int)))), (7, .int (zI (w 3 : Int))), (0, .ref h1), (1, .int (zI (mx : Int))), (2, .int (zI nn))]) hx hb dX2_getRSSvalue_42 hl (by decide) rfl (fun ls hl => ?_)
  refine lv_aload_n hx hb dX2_getRSSvalue_44 rfl (lv_at hl 5 rfl) ?_
  refine va_alen (v := (zI 4)) hx hb hK hP 0 0 rfl rfl rfl dX2_getRSSvalue_45 ?_
  refine lv_istore (lv' := [(6, .int (zI 4)), (5, .int (zI 0)), (4, .int (zI 0)), (3, .int (zI ((((w 0 : Int) + (w 1 : Int)) + (w 2 : Int)) + (w 3 : Int)))), (7, .int (zI (w 3 : Int))), (0, .ref h1), (1, .int (zI (mx : Int))), (2, .int (zI nn))]) hx hb dX2_getRSSvalue_46 hl (by decide) rfl (fun ls hl => ?_)
  refine lv_iconst (v := zI 0) hx hb dX2_getRSSvalue_48 rfl ?_
  refine lv_istore (lv' := [(7, .int (zI 0)), (6, .int (zI 4)), (5, .int (zI 0)), (4, .int (zI 0)), (3, .int (zI ((((w 0 : Int) + (w 1 : Int)) + (w 2 : Int)) + (w 3 : Int)))), (0, .ref h1), (1, .int (zI (mx : Int))), (2, .int (zI nn))]) hx hb dX2_getRSSvalue_49 hl (by decide) rfl (fun ls hl => ?_)
  have hl : lv_has ls 12 [(0, .ref h1), (1, .int (zI (mx : Int))), (2, .int (zI nn)), (3, .int (zI ((w 0 : Int) + w 1 + w 2 + w 3))), (4, .int (zI 0)), (5, .int (zI ((0 : Nat) : Int))), (6, .int (zI 4)), (7, .int (zI 0))] := lv_sub hl [5, 6, 7, 4, 3, 2, 1, 0] rfl
  have hq1 := pnF_0 0 (w 0)
  have hq2 := pnF_0 (pnF 0 (w 0)) (w 1)
  refine rss_bar hx hb hml hown hts hR hK hP hw (n := (w 0 : Int) + w 1 + w 2 + w 3) (n' := (w 1 : Int) + w 2 + w 3) (v := 0) (v' := barZ 0 ((w 0 : Int) + w 1 + w 2 + w 3) mx nn 0 (w 0)) (pn := 0) (b := 0) (bn := 0) (k := 0) rfl (by decide) (by decide) (by decide) (by omega) (by omega) (Int.zero_add _) hl (fun ls k1 hm0a hm0b hl => ?_)
  refine rss_bar hx hb hml hown hts hR hK hP hw (n := (w 1 : Int) + w 2 + w 3) (n' := (w 2 : Int) + w 3) (v := barZ 0 ((w 0 : Int) + w 1 + w 2 + w 3) mx nn 0 (w 0)) (v' := barZ 0 ((w 0 : Int) + w 1 + w 2 + w 3) mx nn 0 (w 0) + barZ 1 ((w 1 : Int) + w 2 + w 3) mx nn (pnF 0 (w 0)) (w 1)) (pn := pnF 0 (w 0)) (b := 0 + 1) (bn := 1) (k := k1) rfl (by decide) (show k1 < 2 by have g : pw 0 = 1 := rfl; omega) (by have g : pw 0 = 1 := rfl; omega) (by omega) (by omega) rfl hl (fun ls k2 hm1a hm1b hl => ?_)
  refine rss_bar hx hb hml hown hts hR hK hP hw (n := (w 2 : Int) + w 3) (n' := (w 3 : Int)) (v := barZ 0 ((w 0 : Int) + w 1 + w 2 + w 3) mx nn 0 (w 0) + barZ 1 ((w 1 : Int) + w 2 + w 3) mx nn (pnF 0 (w 0)) (w 1)) (v' := barZ 0 ((w 0 : Int) + w 1 + w 2 + w 3) mx nn 0 (w 0) + barZ 1 ((w 1 : Int) + w 2 + w 3) mx nn (pnF 0 (w 0)) (w 1) + barZ 2 ((w 2 : Int) + w 3) mx nn (pnF (pnF 0 (w 0)) (w 1)) (w 2)) (pn := pnF (pnF 0 (w 0)) (w 1)) (b := 0 + 1 + 1) (bn := 2) (k := k2) rfl (by decide) (show k2 < 4 by have g : pw 0 = 1 := rfl; have g2 : pw 1 = 2 := rfl; omega) (by have g : pw 0 = 1 := rfl; have g2 : pw 1 = 2 := rfl; omega) (by omega) (by omega) rfl hl (fun ls k3 hm2a hm2b hl => ?_)
  refine lv_iload hx hb dX2_getRSSvalue_51 (lv_at hl 7 rfl) ?_
  refine lv_iload hx hb dX2_getRSSvalue_53 (lv_at hl 6 rfl) ?_
  refine lv_iconst (v := zI 1) hx hb dX2_getRSSvalue_55 rfl ?_
  refine zw_isub hx hb dX2_getRSSvalue_56 ?_
  refine zw_icmp_ge_t (tgt := 283) hx hb (by omega) (by omega) (by decide) dX2_getRSSvalue_57 ?_
  refine lv_iload hx hb dX2_getRSSvalue_283 (lv_at hl 4 rfl) ?_
  exact W.iret hx hb hr (fun t ht _ => ⟨rfl, ht⟩) (fun _ h => absurd h List.not_mem_nil) dX2_getRSSvalue_285
end
section
/-- does a width of 1 stand there -/
def narI (w : Nat → Nat) : Int := if w 0 = 1 ∨ w 1 = 1 ∨ w 2 = 1 ∨ w 3 = 1 then 1 else 0
theorem narI_in (w : Nat → Nat) : (narI w = 1 ∧ (w 0 = 1 ∨ w 1 = 1 ∨ w 2 = 1 ∨ w 3 = 1)) ∨ (narI w = 0 ∧ ¬ (w 0 = 1 ∨ w 1 = 1 ∨ w 2 = 1 ∨ w 3 = 1)) := by
  unfold narI
  by_cases h : w 0 = 1 ∨ w 1 = 1 ∨ w 2 = 1 ∨ w 3 = 1
  · rw [if_pos h]; exact Or.inl ⟨rfl, h⟩
  · rw [if_neg h]; exact Or.inr ⟨rfl, h⟩
theorem mst_cast {W q : Nat} (h : W ≤ 8) : (W : Int) + (q : Int) % (9 - (W : Int)) = (mstF W q : Int) := by
  unfold mstF
  rw [show (9 - (W : Int)) = ((9 - W : Nat) : Int) by omega]
  rfl
theorem mx_in {z : Nat} {f : Nat → Int32} {w : Nat → Nat} (hw : okw f w) (hz : z ≤ 8) : 1 ≤ mxF z w 4 ∧ mxF z w 4 ≤ 8 :=
  ⟨Nat.le_trans (hw 0 (by decide)).2.1 (mxF_ge 4 0 (by decide)), mxF_le hz 4 (fun j hj => (hw j hj).2.2)⟩
theorem mst_in {z : Nat} {f : Nat → Int32} {w : Nat → Nat} (hw : okw f w) (hz : z ≤ 8) (q : Nat) : (∀ j, j < 4 → 1 ≤ w j ∧ w j ≤ mstF (mxF z w 4) q) ∧ mstF (mxF z w 4) q ≤ 8 := by
  have h1 := mx_in hw hz
  have h2 := mstF_in (W := mxF z w 4) (q := q) h1.2
  exact ⟨fun j hj => ⟨(hw j hj).2.1, Nat.le_trans (mxF_ge 4 j hj) h2.1⟩, h2.2⟩
theorem s4_in {f : Nat → Int32} {w : Nat → Nat} (hw : okw f w) : 4 ≤ s4 w ∧ s4 w ≤ 32 := by
  have hw0 := hw 0 (by decide)
  have hw1 := hw 1 (by decide)
  have hw2 := hw 2 (by decide)
  have hw3 := hw 3 (by decide)
  have hs : s4 w = (w 0 : Int) + w 1 + w 2 + w 3 := rfl
  omega
abbrev wsX0_sum : List Cond := ws_ yX0_sum cX0_sum 1 (some .int)
abbrev rmX0_sum : Room := { frames := 0, cells := 0, slots := 0, locals := 0 }
set_option maxHeartbeats 4000000 in
set_option maxRecDepth 100000 in
/-- sum() -/
theorem met_X0_sum (l : Launch) (dC : Nat → ClassId) (dI : Nat → Nat → Nat) (h0 h1 : Nat) (d0 : ClassId) (f : Nat → Int32) (w : Nat → Nat) (hw : okw f w) : Met l yX0_sum wsX0_sum rmX0_sum (va_Pc [.ref h0] (fun U => va_P (dC, dI) vwCl [(h0, .inr (0, [.ref h1])), (h1, .inl (d0, 4, .inl f))] U.heap ∧ va_K (dC, dI) vwCl [(d0, .int)] U)) (QcRead (zI (s4 w))) 0 0 (fun _ => False) := by
  refine Met.ofW (cc := cX0_sum) (maxL := 1) (ret := (some .int)) (by decide) rfl ?_
  intro p e s m args below meth c s₁ B hml hv
  obtain ⟨rfl, hP, hK⟩ := hv
  have hx := B.exec
  have hb := B.bytes
  have hr := B.returns
  have hts := atoms_spec (ws := wsX0_sum) B.pre
  have hts : ∀ w ∈ lw_all, w.before _ s = true := fun w h => hts w (List.mem_cons_of_mem _ h)
  have hown : s.vm.findClass RX0 = some m.cls := findClass_of_methodNamed B.named
  have hlocks := B.notSynchronized
  have hl := lv_entry ([.ref h0]) (n := 1) (Nat.le_of_ble_eq_true rfl)
  rw [lg_entry_eq]
  generalize (lg_sl ([.ref h0]) ++ List.replicate (1 - (lg_sl ([.ref h0])).length) Slot.unset).toArray = ls at hl ⊢
  have hl : lv_has ls 1 [(0, .ref h0)] := hl
  have hw0 := hw 0 (by decide)
  have hw1 := hw 1 (by decide)
  have hw2 := hw 2 (by decide)
  have hw3 := hw 3 (by decide)
  refine lv_aload_n hx hb dX0_sum_0 rfl (lv_at hl 0 rfl) ?_
  refine va_get (D := (dC, dI)) (ci := 0) (v := .ref h1) (C := RX0) (T := TX0) (N := 1) hx hb hts in_X0 hown hK hP 0 rfl rfl 0 (by decide) (hts _ q18) (fun _ h9 => h9) rfl dX0_sum_1 ?_
  refine lv_iconst (v := zI 0) hx hb dX0_sum_4 rfl ?_
  refine zw_iald (b := 0) hx hb hK hP 1 0 rfl rfl rfl ⟨by decide, by decide⟩ hw0.1 dX0_sum_5 ?_
  refine lv_aload_n hx hb dX0_sum_6 rfl (lv_at hl 0 rfl) ?_
  refine va_get (D := (dC, dI)) (ci := 0) (v := .ref h1) (C := RX0) (T := TX0) (N := 1) hx hb hts in_X0 hown hK hP 0 rfl rfl 0 (by decide) (hts _ q18) (fun _ h9 => h9) rfl dX0_sum_7 ?_
  refine lv_iconst (v := zI 1) hx hb dX0_sum_10 rfl ?_
  refine zw_iald (b := 1) hx hb hK hP 1 0 rfl rfl rfl ⟨by decide, by decide⟩ hw1.1 dX0_sum_11 ?_
  refine zw_iadd hx hb dX0_sum_12 ?_
  refine lv_aload_n hx hb dX0_sum_13 rfl (lv_at hl 0 rfl) ?_
  refine va_get (D := (dC, dI)) (ci := 0) (v := .ref h1) (C := RX0) (T := TX0) (N := 1) hx hb hts in_X0 hown hK hP 0 rfl rfl 0 (by decide) (hts _ q18) (fun _ h9 => h9) rfl dX0_sum_14 ?_
  refine lv_iconst (v := zI 2) hx hb dX0_sum_17 rfl ?_
  refine zw_iald (b := 2) hx hb hK hP 1 0 rfl rfl rfl ⟨by decide, by decide⟩ hw2.1 dX0_sum_18 ?_
  refine zw_iadd hx hb dX0_sum_19 ?_
  refine lv_aload_n hx hb dX0_sum_20 rfl (lv_at hl 0 rfl) ?_
  refine va_get (D := (dC, dI)) (ci := 0) (v := .ref h1) (C := RX0) (T := TX0) (N := 1) hx hb hts in_X0 hown hK hP 0 rfl rfl 0 (by decide) (hts _ q18) (fun _ h9 => h9) rfl dX0_sum_21 ?_
  refine lv_iconst (v := zI 3) hx hb dX0_sum_24 rfl ?_
  refine zw_iald (b := 3) hx hb hK hP 1 0 rfl rfl rfl ⟨by decide, by decide⟩ hw3.1 dX0_sum_25 ?_
  refine zw_iadd hx hb dX0_sum_26 ?_
  exact W.iret hx hb hr (fun t ht _ => ⟨rfl, ht⟩) (fun _ h => absurd h List.not_mem_nil) dX0_sum_27
abbrev wsX0_widest : List Cond := ws_ yX0_widest cX0_widest 6 (some .int)
abbrev rmX0_widest : Room := { frames := 0, cells := 0, slots := 0, locals := 0 }
set_option maxHeartbeats 4000000 in
set_option maxRecDepth 100000 in
theorem loop_X0_widest {p : Program} {l : Launch} {e : Env} {R : Room} {s : State} {m : MethodId} {args : Array Value} {below : List Frame} {meth : Method} {c : Code} {Q : State → Prop} {dC : Nat → ClassId} {dI : Nat → Nat → Nat} {h0 h1 : Nat} {d0 : ClassId} {f : Nat → Int32} {w : Nat → Nat} (hx : p.tables.exec = Jvm.exec) (hb : c.code = cX0_widest) (hK : va_K (dC, dI) vwCl [(d0, .int)] s) (hP : va_P (dC, dI) vwCl [(h0, .inr (0, [.ref h1])), (h1, .inl (d0, 4, .inl f))] s.heap) (hw : okw f w)
    (kk : ∀ ls : Array Slot, lv_has ls 6 [(0, .ref h0), (1, .int (zI (mxF 0 w 4 : Int)))] → W p l e R s m args below meth c s.heap [] 0 0 Q (F0 m 44 ls [])) :
    ∀ (r j : Nat) (i : Int) (z : Nat), j + r = 4 → i = (j : Int) → z = mxF 0 w j → z ≤ 8 → ∀ ls : Array Slot, lv_has ls 6 [(0, .ref h0), (1, .int (zI (z : Int))), (2, .ref h1), (3, .int (zI 4)), (4, .int (zI i))] → W p l e R s m args below meth c s.heap [] 0 0 Q (F0 m 13 ls []) := by
  intro r
  induction r with
  | zero =>
    intro j i z hj hi hz hz8 ls hl
    have hj4 : j = 4 := by omega
    refine lv_iload hx hb dX0_widest_13 (lv_at hl 4 rfl) ?_
    refine lv_iload_n hx hb dX0_widest_15 rfl (lv_at hl 3 rfl) ?_
    refine zw_icmp_ge_t (tgt := 44) hx hb (by omega) (by omega) (by decide) dX0_widest_16 ?_
    rw [hz, hj4] at hl
    exact kk ls (lv_sub hl [0, 1] rfl)
  | succ r ih =>
    intro j i z hj hi hz hz8 ls hl
    have hwj := hw j (by omega)
    refine lv_iload hx hb dX0_widest_13 (lv_at hl 4 rfl) ?_
    refine lv_iload_n hx hb dX0_widest_15 rfl (lv_at hl 3 rfl) ?_
    refine zw_icmp_ge_f (tgt := 44) hx hb (by omega) (by omega) (by decide) dX0_widest_16 ?_
    refine lv_aload_n hx hb dX0_widest_19 rfl (lv_at hl 2 rfl) ?_
    refine lv_iload hx hb dX0_widest_20 (lv_at hl 4 rfl) ?_
    refine zw_iald (b := j) hx hb hK hP 1 0 rfl rfl hi ⟨by omega, by decide⟩ hwj.1 dX0_widest_22 ?_
    refine lv_istore (lv' := [(5, .int (zI (w j : Int))), (0, .ref h0), (1, .int (zI (z : Int))), (2, .ref h1), (3, .int (zI 4)), (4, .int (zI i))]) hx hb dX0_widest_23 hl (by decide) rfl (fun ls hl => ?_)
    refine lv_iload hx hb dX0_widest_25 (lv_at hl 0 rfl) ?_
    refine lv_iload_n hx hb dX0_widest_27 rfl (lv_at hl 2 rfl) ?_
    refine zw_icmp_le (tgt := 36) hx hb (by omega) (by decide) dX0_widest_28 (fun c1 => ?_) (fun c1 => ?_)
    · refine lv_iload_n hx hb dX0_widest_36 rfl (lv_at hl 2 rfl) ?_
      refine lv_istore_n (lv' := [(1, .int (zI (z : Int))), (5, .int (zI (w j : Int))), (0, .ref h0), (2, .ref h1), (3, .int (zI 4)), (4, .int (zI i))]) hx hb dX0_widest_37 rfl hl (by decide) rfl (fun ls hl => ?_)
      refine lv_iinc (v := zI (i + 1)) (lv' := [(4, .int (zI (i + 1))), (1, .int (zI (z : Int))), (5, .int (zI (w j : Int))), (0, .ref h0), (2, .ref h1), (3, .int (zI 4))]) hx hb dX0_widest_38 hl (k := 5) rfl (zI_add i 1) (by decide) rfl (fun ls hl => ?_)
      refine lv_goto (tgt := 13) hx hb dX0_widest_41 (by decide) ?_
      exact ih (j + 1) (i + 1) z (by omega) (by omega) (by show z = if mxF 0 w j < w j then w j else mxF 0 w j; rw [← hz, if_neg (by omega)]) (by omega) ls (lv_sub hl [3, 1, 4, 5, 0] rfl)
    · refine lv_iload hx hb dX0_widest_31 (lv_at hl 0 rfl) ?_
      refine lv_goto (tgt := 37) hx hb dX0_widest_33 (by decide) ?_
      refine lv_istore_n (lv' := [(1, .int (zI (w j : Int))), (5, .int (zI (w j : Int))), (0, .ref h0), (2, .ref h1), (3, .int (zI 4)), (4, .int (zI i))]) hx hb dX0_widest_37 rfl hl (by decide) rfl (fun ls hl => ?_)
      refine lv_iinc (v := zI (i + 1)) (lv' := [(4, .int (zI (i + 1))), (1, .int (zI (w j : Int))), (5, .int (zI (w j : Int))), (0, .ref h0), (2, .ref h1), (3, .int (zI 4))]) hx hb dX0_widest_38 hl (k := 5) rfl (zI_add i 1) (by decide) rfl (fun ls hl => ?_)
      refine lv_goto (tgt := 13) hx hb dX0_widest_41 (by decide) ?_
      exact ih (j + 1) (i + 1) (w j) (by omega) (by omega) (by show w j = if mxF 0 w j < w j then w j else mxF 0 w j; rw [← hz, if_pos (by omega)]) (by omega) ls (lv_sub hl [3, 1, 4, 5, 0] rfl)
set_option maxHeartbeats 4000000 in
set_option maxRecDepth 100000 in
/-- widest() -/
theorem met_X0_widest (l : Launch) (dC : Nat → ClassId) (dI : Nat → Nat → Nat) (h0 h1 : Nat) (d0 : ClassId) (f : Nat → Int32) (w : Nat → Nat) (hw : okw f w) : Met l yX0_widest wsX0_widest rmX0_widest (va_Pc [.ref h0] (fun U => va_P (dC, dI) vwCl [(h0, .inr (0, [.ref h1])), (h1, .inl (d0, 4, .inl f))] U.heap ∧ va_K (dC, dI) vwCl [(d0, .int)] U)) (QcRead (zI (mxF 0 w 4 : Int))) 0 0 (fun _ => False) := by
  refine Met.ofW (cc := cX0_widest) (maxL := 6) (ret := (some .int)) (by decide) rfl ?_
  intro p e s m args below meth c s₁ B hml hv
  obtain ⟨rfl, hP, hK⟩ := hv
  have hx := B.exec
  have hb := B.bytes
  have hr := B.returns
  have hts := atoms_spec (ws := wsX0_widest) B.pre
  have hts : ∀ w ∈ lw_all, w.before _ s = true := fun w h => hts w (List.mem_cons_of_mem _ h)
  have hown : s.vm.findClass RX0 = some m.cls := findClass_of_methodNamed B.named
  have hlocks := B.notSynchronized
  have hl := lv_entry ([.ref h0]) (n := 6) (Nat.le_of_ble_eq_true rfl)
  rw [lg_entry_eq]
  generalize (lg_sl ([.ref h0]) ++ List.replicate (6 - (lg_sl ([.ref h0])).length) Slot.unset).toArray = ls at hl ⊢
  have hl : lv_has ls 6 [(0, .ref h0)] := hl
  refine lv_iconst (v := zI 0) hx hb dX0_widest_0 rfl ?_
  refine lv_istore_n (lv' := [(1, .int (zI 0)), (0, .ref h0)]) hx hb dX0_widest_1 rfl hl (by decide) rfl (fun ls hl => ?_)
  refine lv_aload_n hx hb dX0_widest_2 rfl (lv_at hl 1 rfl) ?_
  refine va_get (D := (dC, dI)) (ci := 0) (v := .ref h1) (C := RX0) (T := TX0) (N := 1) hx hb hts in_X0 hown hK hP 0 rfl rfl 0 (by decide) (hts _ q18) (fun _ h9 => h9) rfl dX0_widest_3 ?_
  refine lv_astore_n (lv' := [(2, .ref h1), (1, .int (zI 0)), (0, .ref h0)]) hx hb dX0_widest_6 rfl hl (by decide) rfl (fun ls hl => ?_)
  refine lv_aload_n hx hb dX0_widest_7 rfl (lv_at hl 0 rfl) ?_
  refine va_alen (v := (zI 4)) hx hb hK hP 1 0 rfl rfl rfl dX0_widest_8 ?_
  refine lv_istore_n (lv' := [(3, .int (zI 4)), (2, .ref h1), (1, .int (zI 0)), (0, .ref h0)]) hx hb dX0_widest_9 rfl hl (by decide) rfl (fun ls hl => ?_)
  refine lv_iconst (v := zI 0) hx hb dX0_widest_10 rfl ?_
  refine lv_istore (lv' := [(4, .int (zI 0)), (3, .int (zI 4)), (2, .ref h1), (1, .int (zI 0)), (0, .ref h0)]) hx hb dX0_widest_11 hl (by decide) rfl (fun ls hl => ?_)
  refine loop_X0_widest hx hb hK hP hw (fun ls hl => ?_) 4 0 0 0 rfl rfl rfl (by decide) ls (lv_sub hl [4, 3, 2, 1, 0] rfl)
  refine lv_iload_n hx hb dX0_widest_44 rfl (lv_at hl 1 rfl) ?_
  exact W.iret hx hb hr (fun t ht _ => ⟨rfl, ht⟩) (fun _ h => absurd h List.not_mem_nil) dX0_widest_45
abbrev wsX0_narrow : List Cond := ws_ yX0_narrow cX0_narrow 5 (some .boolean)
abbrev rmX0_narrow : Room := { frames := 0, cells := 0, slots := 0, locals := 0 }
set_option maxHeartbeats 4000000 in
set_option maxRecDepth 100000 in
theorem loop_X0_narrow {p : Program} {l : Launch} {e : Env} {R : Room} {s : State} {m : MethodId} {args : Array Value} {below : List Frame} {meth : Method} {c : Code} {Q : State → Prop} {dC : Nat → ClassId} {dI : Nat → Nat → Nat} {h0 h1 : Nat} {d0 : ClassId} {f : Nat → Int32} {w : Nat → Nat} (hx : p.tables.exec = Jvm.exec) (hb : c.code = cX0_narrow) (hK : va_K (dC, dI) vwCl [(d0, .int)] s) (hP : va_P (dC, dI) vwCl [(h0, .inr (0, [.ref h1])), (h1, .inl (d0, 4, .inl f))] s.heap) (hw : okw f w)
    (kk1 : narI w = 1 → ∀ ls : Array Slot, W p l e R s m args below meth c s.heap [] 0 0 Q (F0 m 27 ls [.int (zI 1)])) (kk0 : narI w = 0 → ∀ ls : Array Slot, W p l e R s m args below meth c s.heap [] 0 0 Q (F0 m 35 ls [.int (zI 0)])) :
    ∀ (r j : Nat) (i : Int), j + r = 4 → i = (j : Int) → (∀ a, a < j → w a ≠ 1) → ∀ ls : Array Slot, lv_has ls 5 [(0, .ref h0), (1, .ref h1), (2, .int (zI 4)), (3, .int (zI i))] → W p l e R s m args below meth c s.heap [] 0 0 Q (F0 m 10 ls []) := by
  have hnn := narI_in w
  intro r
  induction r with
  | zero =>
    intro j i hj hi hno ls hl
    have a0 := hno 0 (by omega)
    have a1 := hno 1 (by omega)
    have a2 := hno 2 (by omega)
    have a3 := hno 3 (by omega)
    refine lv_iload_n hx hb dX0_narrow_10 rfl (lv_at hl 3 rfl) ?_
    refine lv_iload_n hx hb dX0_narrow_11 rfl (lv_at hl 2 rfl) ?_
    refine zw_icmp_ge_t (tgt := 34) hx hb (by omega) (by omega) (by decide) dX0_narrow_12 ?_
    refine lv_iconst (v := zI 0) hx hb dX0_narrow_34 rfl ?_
    exact kk0 (by omega) ls
  | succ r ih =>
    intro j i hj hi hno ls hl
    have hwj := hw j (by omega)
    refine lv_iload_n hx hb dX0_narrow_10 rfl (lv_at hl 3 rfl) ?_
    refine lv_iload_n hx hb dX0_narrow_11 rfl (lv_at hl 2 rfl) ?_
    refine zw_icmp_ge_f (tgt := 34) hx hb (by omega) (by omega) (by decide) dX0_narrow_12 ?_
    refine lv_aload_n hx hb dX0_narrow_15 rfl (lv_at hl 1 rfl) ?_
    refine lv_iload_n hx hb dX0_narrow_16 rfl (lv_at hl 3 rfl) ?_
    refine zw_iald (b := j) hx hb hK hP 1 0 rfl rfl hi ⟨by omega, by decide⟩ hwj.1 dX0_narrow_17 ?_
    refine lv_istore (lv' := [(4, .int (zI (w j : Int))), (0, .ref h0), (1, .ref h1), (2, .int (zI 4)), (3, .int (zI i))]) hx hb dX0_narrow_18 hl (by decide) rfl (fun ls hl => ?_)
    refine lv_iload hx hb dX0_narrow_20 (lv_at hl 0 rfl) ?_
    refine lv_iconst (v := zI 1) hx hb dX0_narrow_22 rfl ?_
    refine zw_icmp_ne (tgt := 28) hx hb (by omega) (by decide) dX0_narrow_23 (fun c1 => ?_) (fun c1 => ?_)
    · refine lv_iinc (v := zI (i + 1)) (lv' := [(3, .int (zI (i + 1))), (4, .int (zI (w j : Int))), (0, .ref h0), (1, .ref h1), (2, .int (zI 4))]) hx hb dX0_narrow_28 hl (k := 4) rfl (zI_add i 1) (by decide) rfl (fun ls hl => ?_)
      refine lv_goto (tgt := 10) hx hb dX0_narrow_31 (by decide) ?_
      exact ih (j + 1) (i + 1) (by omega) (by omega) (fun a ha => by
        rcases Nat.lt_or_ge a j with q | q
        · exact hno a q
        · have q2 : a = j := by omega
          subst q2
          omega) ls (lv_sub hl [2, 3, 4, 0] rfl)
    · refine lv_iconst (v := zI 1) hx hb dX0_narrow_26 rfl ?_
      refine kk1 ?_ ls
      have q : j = 0 ∨ j = 1 ∨ j = 2 ∨ j = 3 := by omega
      rcases q with rfl | rfl | rfl | rfl <;> omega
set_option maxHeartbeats 4000000 in
set_option maxRecDepth 100000 in
/-- narrow() -/
theorem met_X0_narrow (l : Launch) (dC : Nat → ClassId) (dI : Nat → Nat → Nat) (h0 h1 : Nat) (d0 : ClassId) (f : Nat → Int32) (w : Nat → Nat) (hw : okw f w) : Met l yX0_narrow wsX0_narrow rmX0_narrow (va_Pc [.ref h0] (fun U => va_P (dC, dI) vwCl [(h0, .inr (0, [.ref h1])), (h1, .inl (d0, 4, .inl f))] U.heap ∧ va_K (dC, dI) vwCl [(d0, .int)] U)) (QcRead (zI (narI w))) 0 0 (fun _ => False) := by
  refine Met.ofW (cc := cX0_narrow) (maxL := 5) (ret := (some .boolean)) (by decide) rfl ?_
  intro p e s m args below meth c s₁ B hml hv
  obtain ⟨rfl, hP, hK⟩ := hv
  have hx := B.exec
  have hb := B.bytes
  have hr := B.returns
  have hts := atoms_spec (ws := wsX0_narrow) B.pre
  have hts : ∀ w ∈ lw_all, w.before _ s = true := fun w h => hts w (List.mem_cons_of_mem _ h)
  have hown : s.vm.findClass RX0 = some m.cls := findClass_of_methodNamed B.named
  have hlocks := B.notSynchronized
  have hl := lv_entry ([.ref h0]) (n := 5) (Nat.le_of_ble_eq_true rfl)
  rw [lg_entry_eq]
  generalize (lg_sl ([.ref h0]) ++ List.replicate (5 - (lg_sl ([.ref h0])).length) Slot.unset).toArray = ls at hl ⊢
  have hl : lv_has ls 5 [(0, .ref h0)] := hl
  refine lv_aload_n hx hb dX0_narrow_0 rfl (lv_at hl 0 rfl) ?_
  refine va_get (D := (dC, dI)) (ci := 0) (v := .ref h1) (C := RX0) (T := TX0) (N := 1) hx hb hts in_X0 hown hK hP 0 rfl rfl 0 (by decide) (hts _ q18) (fun _ h9 => h9) rfl dX0_narrow_1 ?_
  refine lv_astore_n (lv' := [(1, .ref h1), (0, .ref h0)]) hx hb dX0_narrow_4 rfl hl (by decide) rfl (fun ls hl => ?_)
  refine lv_aload_n hx hb dX0_narrow_5 rfl (lv_at hl 0 rfl) ?_
  refine va_alen (v := (zI 4)) hx hb hK hP 1 0 rfl rfl rfl dX0_narrow_6 ?_
  refine lv_istore_n (lv' := [(2, .int (zI 4)), (1, .ref h1), (0, .ref h0)]) hx hb dX0_narrow_7 rfl hl (by decide) rfl (fun ls hl => ?_)
  refine lv_iconst (v := zI 0) hx hb dX0_narrow_8 rfl ?_
  refine lv_istore_n (lv' := [(3, .int (zI 0)), (2, .int (zI 4)), (1, .ref h1), (0, .ref h0)]) hx hb dX0_narrow_9 rfl hl (by decide) rfl (fun ls hl => ?_)
  refine loop_X0_narrow hx hb hK hP hw (fun hn ls => ?_) (fun hn ls => ?_) 4 0 0 rfl rfl (fun a ha => absurd ha (Nat.not_lt_zero a)) ls (lv_sub hl [3, 2, 1, 0] rfl)
  · exact W.zret (v := zI 1) hx hb hr (by decide +kernel) (fun t ht _ => ⟨by rw [hn], ht⟩) (fun _ h => absurd h List.not_mem_nil) dX0_narrow_27
  · exact W.zret (v := zI 0) hx hb hr (by decide +kernel) (fun t ht _ => ⟨by rw [hn], ht⟩) (fun _ h => absurd h List.not_mem_nil) dX0_narrow_35
abbrev wsX0_width_2 : List Cond := ws_ yX0_width_2 cX0_width_2 2 (some .int)
abbrev rmX0_width_2 : Room := { frames := 0, cells := 0, slots := 0, locals := 0 }
set_option maxHeartbeats 4000000 in
set_option maxRecDepth 100000 in
/-- width(i) -/
theorem met_X0_width_2 (l : Launch) (dC : Nat → ClassId) (dI : Nat → Nat → Nat) (h0 h1 : Nat) (d0 : ClassId) (f : Nat → Int32) (p0 : Int32) : Met l yX0_width_2 wsX0_width_2 rmX0_width_2 (va_Pc [.ref h0, .int p0] (fun U => va_P (dC, dI) vwCl [(h0, .inr (0, [.ref h1])), (h1, .inl (d0, 4, .inl f))] U.heap ∧ va_K (dC, dI) vwCl [(d0, .int)] U)) (QcRead (f (p0 &&& 3).toNatClampNeg)) 0 0 (fun _ => False) := by
  refine Met.ofW (cc := cX0_width_2) (maxL := 2) (ret := (some .int)) (by decide) rfl ?_
  intro p e s m args below meth c s₁ B hml hv
  obtain ⟨rfl, hP, hK⟩ := hv
  have hx := B.exec
  have hb := B.bytes
  have hr := B.returns
  have hts := atoms_spec (ws := wsX0_width_2) B.pre
  have hts : ∀ w ∈ lw_all, w.before _ s = true := fun w h => hts w (List.mem_cons_of_mem _ h)
  have hown : s.vm.findClass RX0 = some m.cls := findClass_of_methodNamed B.named
  have hlocks := B.notSynchronized
  have hl := lv_entry ([.ref h0, .int p0]) (n := 2) (Nat.le_of_ble_eq_true rfl)
  rw [lg_entry_eq]
  generalize (lg_sl ([.ref h0, .int p0]) ++ List.replicate (2 - (lg_sl ([.ref h0, .int p0])).length) Slot.unset).toArray = ls at hl ⊢
  have hl : lv_has ls 2 [(0, .ref h0), (1, .int p0)] := hl
  refine lv_aload_n hx hb dX0_width_2_0 rfl (lv_at hl 0 rfl) ?_
  refine va_get (D := (dC, dI)) (ci := 0) (v := .ref h1) (C := RX0) (T := TX0) (N := 1) hx hb hts in_X0 hown hK hP 0 rfl rfl 0 (by decide) (hts _ q18) (fun _ h9 => h9) rfl dX0_width_2_1 ?_
  refine lv_iload_n hx hb dX0_width_2_4 rfl (lv_at hl 1 rfl) ?_
  refine lv_iconst (v := 3) hx hb dX0_width_2_5 (by decide) ?_
  refine lv_iand hx hb dX0_width_2_6 ?_
  refine va_iald hx hb hK hP 1 0 rfl rfl (pk_andIn p0 2 (by decide) (by decide)) dX0_width_2_7 ?_
  exact W.iret hx hb hr (fun t ht _ => ⟨rfl, ht⟩) (fun _ h => absurd h List.not_mem_nil) dX0_width_2_8
abbrev wsX0_value : List Cond := ws_ yX0_value cX0_value 4 (some .int)
abbrev rmX0_value : Room := { frames := 2, cells := 0, slots := 0, locals := 57 }
set_option maxHeartbeats 4000000 in
set_option maxRecDepth 100000 in
/-- X0_value -/
theorem met_X0_value (l : Launch) (dC : Nat → ClassId) (dI : Nat → Nat → Nat) (h0 h1 : Nat) (d0 : ClassId) (f : Nat → Int32) (w : Nat → Nat) (hw : okw f w) (p0 : Int32) : Met l yX0_value wsX0_value rmX0_value (va_Pc [.ref h0, .int p0] (fun U => va_P (dC, dI) vwCl [(h0, .inr (0, [.ref h1])), (h1, .inl (d0, 4, .inl f))] U.heap ∧ va_K (dC, dI) vwCl [(d0, .int)] U)) (QcRead (zI (valA w (mstF (mxF 0 w 4) (qF p0))))) 0 0 (fun _ => False) := by
  refine Met.ofW (cc := cX0_value) (maxL := 4) (ret := (some .int)) (by decide) rfl ?_
  intro p e s m args below meth c s₁ B hml hv
  obtain ⟨rfl, hP, hK⟩ := hv
  have hx := B.exec
  have hb := B.bytes
  have hr := B.returns
  have hts := atoms_spec (ws := wsX0_value) B.pre
  have hts : ∀ w ∈ lw_all, w.before _ s = true := fun w h => hts w (List.mem_cons_of_mem _ h)
  have hown : s.vm.findClass RX0 = some m.cls := findClass_of_methodNamed B.named
  have hlocks := B.notSynchronized
  have hl := lv_entry ([.ref h0, .int p0]) (n := 4) (Nat.le_of_ble_eq_true rfl)
  rw [lg_entry_eq]
  generalize (lg_sl ([.ref h0, .int p0]) ++ List.replicate (4 - (lg_sl ([.ref h0, .int p0])).length) Slot.unset).toArray = ls at hl ⊢
  have hl : lv_has ls 4 [(0, .ref h0), (1, .int p0)] := hl
  have hmx := mx_in (z := 0) hw (by decide)
  have hmi := mst_in (z := 0) hw (by decide) (qF p0)
  have hms := hmi.2
  have hq := qF_lt p0
  have hs4 := s4_in hw
  have hPc := hP.sub (ws' := [(h1, .inl (d0, 4, .inl f))]) [1] rfl
  refine lv_aload_n hx hb dX0_value_0 rfl (lv_at hl 0 rfl) ?_
  refine zw_callR (W.runV (As := []) (rest := []) ⟨hx, hb, hml, hown, hts⟩ (met_X0_widest l dC dI h0 h1 d0 f w hw) (cwV 0 hts (lw_V q35 q37 qs0 q7 q38) rfl rfl rfl (by decide +kernel) ⟨Nat.le_of_ble_eq_true rfl, Nat.le_of_ble_eq_true rfl⟩) ⟨fun a U g mk q => by obtain ⟨q0, qP, qK⟩ := q; exact ⟨q0, qP, va_K.moved (u := U) (U := U.calling g mk a) (Vm.Alike.refl U.vm) qK⟩, va_recv hK hP (ci := 0) (q0 := 0) rfl rfl, fun U hU hW => ⟨rfl, by rw [hU]; exact hP, va_K.moved hW.alike hK⟩⟩ rfl rfl hl.1 rfl (lv_room (Nat.le_of_ble_eq_true rfl)) dX0_value_1 ⟨Nat.zero_le _, Nat.zero_le _⟩) ?_
  refine lv_istore_n (lv' := [(2, .int (zI (mxF 0 w 4 : Int))), (0, .ref h0), (1, .int p0)]) hx hb dX0_value_4 rfl hl (by decide) rfl (fun ls hl => ?_)
  refine lv_iload_n hx hb dX0_value_5 rfl (lv_at hl 0 rfl) ?_
  refine lv_iload_n hx hb dX0_value_6 rfl (lv_at hl 2 rfl) ?_
  refine lv_ldc hx hb hown (hts _ q39) dX0_value_7 ?_
  refine lv_iand hx hb dX0_value_9 ?_
  refine zw_top (qF_and p0) ?_
  refine lv_bipush (v := zI 9) hx hb dX0_value_10 (by decide +kernel) ?_
  refine lv_iload_n hx hb dX0_value_12 rfl (lv_at hl 0 rfl) ?_
  refine zw_isub hx hb dX0_value_13 ?_
  refine zw_irem (z := (qF p0 : Int) % (9 - (mxF 0 w 4 : Int))) hx hb ⟨by omega, by omega, by omega, by omega⟩ rfl dX0_value_14 ?_
  refine zw_iadd hx hb dX0_value_15 ?_
  refine zw_top (congrArg zI (mst_cast hmx.2)) ?_
  refine lv_istore_n (lv' := [(3, .int (zI (mstF (mxF 0 w 4) (qF p0) : Int))), (2, .int (zI (mxF 0 w 4 : Int))), (0, .ref h0), (1, .int p0)]) hx hb dX0_value_16 rfl hl (by decide) rfl (fun ls hl => ?_)
  refine lv_aload_n hx hb dX0_value_17 rfl (lv_at hl 2 rfl) ?_
  refine zw_callR (W.runV (As := []) (rest := []) ⟨hx, hb, hml, hown, hts⟩ (met_X0_sum l dC dI h0 h1 d0 f w hw) (cwV 0 hts (lw_V q40 q42 qs1 q7 q43) rfl rfl rfl (by decide +kernel) ⟨Nat.le_of_ble_eq_true rfl, Nat.le_of_ble_eq_true rfl⟩) ⟨fun a U g mk q => by obtain ⟨q0, qP, qK⟩ := q; exact ⟨q0, qP, va_K.moved (u := U) (U := U.calling g mk a) (Vm.Alike.refl U.vm) qK⟩, va_recv hK hP (ci := 0) (q0 := 0) rfl rfl, fun U hU hW => ⟨rfl, by rw [hU]; exact hP, va_K.moved hW.alike hK⟩⟩ rfl rfl hl.1 rfl (lv_room (Nat.le_of_ble_eq_true rfl)) dX0_value_18 ⟨Nat.zero_le _, Nat.zero_le _⟩) ?_
  refine lv_iconst (v := zI 2) hx hb dX0_value_21 rfl ?_
  refine lv_iload_n hx hb dX0_value_22 rfl (lv_at hl 0 rfl) ?_
  refine zw_imul hx hb dX0_value_23 ?_
  refine lv_iconst (v := zI 4) hx hb dX0_value_24 rfl ?_
  refine zw_iadd hx hb dX0_value_25 ?_
  refine zw_icmp_ge (tgt := 41) hx hb (by omega) (by decide) dX0_value_26 (fun c1 => ?_) (fun c1 => ?_)
  · have hv : valA w (mstF (mxF 0 w 4) (qF p0)) = -1 := by
      unfold valA
      rw [if_neg (by omega)]
    refine lv_iconst (v := zI (-1)) hx hb dX0_value_41 rfl ?_
    exact W.iret hx hb hr (fun t ht _ => ⟨by rw [hv], ht⟩) (fun _ h => absurd h List.not_mem_nil) dX0_value_42
  · have hv : valA w (mstF (mxF 0 w 4) (qF p0)) = rssZ (w 0) (w 1) (w 2) (w 3) (mstF (mxF 0 w 4) (qF p0) : Int) 0 := by
      unfold valA
      rw [if_pos (by omega)]
    refine lv_aload_n hx hb dX0_value_29 rfl (lv_at hl 2 rfl) ?_
    refine va_get (D := (dC, dI)) (ci := 0) (v := .ref h1) (C := RX0) (T := TX0) (N := 1) hx hb hts in_X0 hown hK hP 0 rfl rfl 0 (by decide) (hts _ q18) (fun _ h9 => h9) rfl dX0_value_30 ?_
    refine lv_iload_n hx hb dX0_value_33 rfl (lv_at hl 0 rfl) ?_
    refine lv_iconst (v := zI 0) hx hb dX0_value_34 rfl ?_
    refine zw_callR (W.runS (As := [.ref h1, .int (zI (mstF (mxF 0 w 4) (qF p0) : Int)), .int (zI 0)]) (rest := []) ⟨hx, hb, hml, hown, hts⟩ (met_rss l dC dI h1 d0 f w hw (mstF (mxF 0 w 4) (qF p0)) hms 0 (by omega)) (va_cwS 3 hts (lw_S q44 q45 q9 q46) rfl rfl rfl (by decide +kernel) ⟨Nat.le_of_ble_eq_true rfl, Nat.le_of_ble_eq_true rfl⟩) ⟨fun a U g mk q => by obtain ⟨q0, qP, qK⟩ := q; exact ⟨q0, qP, va_K.moved (u := U) (U := U.calling g mk a) (Vm.Alike.refl U.vm) qK⟩, fun U hU hW => ⟨rfl, by rw [hU]; exact hPc, va_K.moved hW.alike hK⟩⟩ rfl rfl hl.1 rfl (lv_room (Nat.le_of_ble_eq_true rfl)) dX0_value_35 ⟨Nat.zero_le _, Nat.zero_le _⟩) ?_
    refine lv_goto (tgt := 42) hx hb dX0_value_38 (by decide) ?_
    exact W.iret hx hb hr (fun t ht _ => ⟨by rw [hv], ht⟩) (fun _ h => absurd h List.not_mem_nil) dX0_value_42
abbrev wsX0_withNarrow : List Cond := ws_ yX0_withNarrow cX0_withNarrow 4 (some .int)
abbrev rmX0_withNarrow : Room := { frames := 2, cells := 0, slots := 0, locals := 57 }
set_option maxHeartbeats 4000000 in
set_option maxRecDepth 100000 in
/-- X0_withNarrow -/
theorem met_X0_withNarrow (l : Launch) (dC : Nat → ClassId) (dI : Nat → Nat → Nat) (h0 h1 : Nat) (d0 : ClassId) (f : Nat → Int32) (w : Nat → Nat) (hw : okw f w) (p0 : Int32) : Met l yX0_withNarrow wsX0_withNarrow rmX0_withNarrow (va_Pc [.ref h0, .int p0] (fun U => va_P (dC, dI) vwCl [(h0, .inr (0, [.ref h1])), (h1, .inl (d0, 4, .inl f))] U.heap ∧ va_K (dC, dI) vwCl [(d0, .int)] U)) (QcRead (zI (narA w (mstF (mxF 0 w 4) (qF p0))))) 0 0 (fun _ => False) := by
  refine Met.ofW (cc := cX0_withNarrow) (maxL := 4) (ret := (some .int)) (by decide) rfl ?_
  intro p e s m args below meth c s₁ B hml hv
  obtain ⟨rfl, hP, hK⟩ := hv
  have hx := B.exec
  have hb := B.bytes
  have hr := B.returns
  have hts := atoms_spec (ws := wsX0_withNarrow) B.pre
  have hts : ∀ w ∈ lw_all, w.before _ s = true := fun w h => hts w (List.mem_cons_of_mem _ h)
  have hown : s.vm.findClass RX0 = some m.cls := findClass_of_methodNamed B.named
  have hlocks := B.notSynchronized
  have hl := lv_entry ([.ref h0, .int p0]) (n := 4) (Nat.le_of_ble_eq_true rfl)
  rw [lg_entry_eq]
  generalize (lg_sl ([.ref h0, .int p0]) ++ List.replicate (4 - (lg_sl ([.ref h0, .int p0])).length) Slot.unset).toArray = ls at hl ⊢
  have hl : lv_has ls 4 [(0, .ref h0), (1, .int p0)] := hl
  have hmx := mx_in (z := 0) hw (by decide)
  have hmi := mst_in (z := 0) hw (by decide) (qF p0)
  have hms := hmi.2
  have hq := qF_lt p0
  have hs4 := s4_in hw
  have hPc := hP.sub (ws' := [(h1, .inl (d0, 4, .inl f))]) [1] rfl
  have hnn := narI_in w
  refine lv_aload_n hx hb dX0_withNarrow_0 rfl (lv_at hl 0 rfl) ?_
  refine zw_callR (W.runV (As := []) (rest := []) ⟨hx, hb, hml, hown, hts⟩ (met_X0_widest l dC dI h0 h1 d0 f w hw) (cwV 0 hts (lw_V q35 q37 qs0 q7 q38) rfl rfl rfl (by decide +kernel) ⟨Nat.le_of_ble_eq_true rfl, Nat.le_of_ble_eq_true rfl⟩) ⟨fun a U g mk q => by obtain ⟨q0, qP, qK⟩ := q; exact ⟨q0, qP, va_K.moved (u := U) (U := U.calling g mk a) (Vm.Alike.refl U.vm) qK⟩, va_recv hK hP (ci := 0) (q0 := 0) rfl rfl, fun U hU hW => ⟨rfl, by rw [hU]; exact hP, va_K.moved hW.alike hK⟩⟩ rfl rfl hl.1 rfl (lv_room (Nat.le_of_ble_eq_true rfl)) dX0_withNarrow_1 ⟨Nat.zero_le _, Nat.zero_le _⟩) ?_
  refine lv_istore_n (lv' := [(2, .int (zI (mxF 0 w 4 : Int))), (0, .ref h0), (1, .int p0)]) hx hb dX0_withNarrow_4 rfl hl (by decide) rfl (fun ls hl => ?_)
  refine lv_iload_n hx hb dX0_withNarrow_5 rfl (lv_at hl 0 rfl) ?_
  refine lv_iload_n hx hb dX0_withNarrow_6 rfl (lv_at hl 2 rfl) ?_
  refine lv_ldc hx hb hown (hts _ q39) dX0_withNarrow_7 ?_
  refine lv_iand hx hb dX0_withNarrow_9 ?_
  refine zw_top (qF_and p0) ?_
  refine lv_bipush (v := zI 9) hx hb dX0_withNarrow_10 (by decide +kernel) ?_
  refine lv_iload_n hx hb dX0_withNarrow_12 rfl (lv_at hl 0 rfl) ?_
  refine zw_isub hx hb dX0_withNarrow_13 ?_
  refine zw_irem (z := (qF p0 : Int) % (9 - (mxF 0 w 4 : Int))) hx hb ⟨by omega, by omega, by omega, by omega⟩ rfl dX0_withNarrow_14 ?_
  refine zw_iadd hx hb dX0_withNarrow_15 ?_
  refine zw_top (congrArg zI (mst_cast hmx.2)) ?_
  refine lv_istore_n (lv' := [(3, .int (zI (mstF (mxF 0 w 4) (qF p0) : Int))), (2, .int (zI (mxF 0 w 4 : Int))), (0, .ref h0), (1, .int p0)]) hx hb dX0_withNarrow_16 rfl hl (by decide) rfl (fun ls hl => ?_)
  refine lv_aload_n hx hb dX0_withNarrow_17 rfl (lv_at hl 2 rfl) ?_
  refine zw_callR (W.runV (As := []) (rest := []) ⟨hx, hb, hml, hown, hts⟩ (met_X0_narrow l dC dI h0 h1 d0 f w hw) (cwV 0 hts (lw_V q54 q56 qs2 q7 q57) rfl rfl rfl (by decide +kernel) ⟨Nat.le_of_ble_eq_true rfl, Nat.le_of_ble_eq_true rfl⟩) ⟨fun a U g mk q => by obtain ⟨q0, qP, qK⟩ := q; exact ⟨q0, qP, va_K.moved (u := U) (U := U.calling g mk a) (Vm.Alike.refl U.vm) qK⟩, va_recv hK hP (ci := 0) (q0 := 0) rfl rfl, fun U hU hW => ⟨rfl, by rw [hU]; exact hP, va_K.moved hW.alike hK⟩⟩ rfl rfl hl.1 rfl (lv_room (Nat.le_of_ble_eq_true rfl)) dX0_withNarrow_18 ⟨Nat.zero_le _, Nat.zero_le _⟩) ?_
  refine zw_if_eq (tgt := 59) hx hb (by omega) (by decide) dX0_withNarrow_21 (fun c1 => ?_) (fun c1 => ?_)
  · have hv : narA w (mstF (mxF 0 w 4) (qF p0)) = -1 := by
      unfold narA
      rw [if_neg (by omega)]
    refine lv_iconst (v := zI (-1)) hx hb dX0_withNarrow_59 rfl ?_
    exact W.iret hx hb hr (fun t ht _ => ⟨by rw [hv], ht⟩) (fun _ h => absurd h List.not_mem_nil) dX0_withNarrow_60
  · refine lv_aload_n hx hb dX0_withNarrow_24 rfl (lv_at hl 2 rfl) ?_
    refine zw_callR (W.runV (As := []) (rest := []) ⟨hx, hb, hml, hown, hts⟩ (met_X0_sum l dC dI h0 h1 d0 f w hw) (cwV 0 hts (lw_V q40 q42 qs1 q7 q43) rfl rfl rfl (by decide +kernel) ⟨Nat.le_of_ble_eq_true rfl, Nat.le_of_ble_eq_true rfl⟩) ⟨fun a U g mk q => by obtain ⟨q0, qP, qK⟩ := q; exact ⟨q0, qP, va_K.moved (u := U) (U := U.calling g mk a) (Vm.Alike.refl U.vm) qK⟩, va_recv hK hP (ci := 0) (q0 := 0) rfl rfl, fun U hU hW => ⟨rfl, by rw [hU]; exact hP, va_K.moved hW.alike hK⟩⟩ rfl rfl hl.1 rfl (lv_room (Nat.le_of_ble_eq_true rfl)) dX0_withNarrow_25 ⟨Nat.zero_le _, Nat.zero_le _⟩) ?_
    refine lv_iload_n hx hb dX0_withNarrow_28 rfl (lv_at hl 0 rfl) ?_
    refine lv_bipush (v := zI 7) hx hb dX0_withNarrow_29 (by decide +kernel) ?_
    refine zw_iadd hx hb dX0_withNarrow_31 ?_
    refine zw_icmp_ge (tgt := 59) hx hb (by omega) (by decide) dX0_withNarrow_32 (fun c2 => ?_) (fun c2 => ?_)
    · have hv : narA w (mstF (mxF 0 w 4) (qF p0)) = -1 := by
        unfold narA
        rw [if_neg (by omega)]
      refine lv_iconst (v := zI (-1)) hx hb dX0_withNarrow_59 rfl ?_
      exact W.iret hx hb hr (fun t ht _ => ⟨by rw [hv], ht⟩) (fun _ h => absurd h List.not_mem_nil) dX0_withNarrow_60
    · refine lv_aload_n hx hb dX0_withNarrow_35 rfl (lv_at hl 2 rfl) ?_
      refine zw_callR (W.runV (As := []) (rest := []) ⟨hx, hb, hml, hown, hts⟩ (met_X0_sum l dC dI h0 h1 d0 f w hw) (cwV 0 hts (lw_V q40 q42 qs1 q7 q43) rfl rfl rfl (by decide +kernel) ⟨Nat.le_of_ble_eq_true rfl, Nat.le_of_ble_eq_true rfl⟩) ⟨fun a U g mk q => by obtain ⟨q0, qP, qK⟩ := q; exact ⟨q0, qP, va_K.moved (u := U) (U := U.calling g mk a) (Vm.Alike.refl U.vm) qK⟩, va_recv hK hP (ci := 0) (q0 := 0) rfl rfl, fun U hU hW => ⟨rfl, by rw [hU]; exact hP, va_K.moved hW.alike hK⟩⟩ rfl rfl hl.1 rfl (lv_room (Nat.le_of_ble_eq_true rfl)) dX0_withNarrow_36 ⟨Nat.zero_le _, Nat.zero_le _⟩) ?_
      refine lv_iconst (v := zI 2) hx hb dX0_withNarrow_39 rfl ?_
      refine lv_iload_n hx hb dX0_withNarrow_40 rfl (lv_at hl 0 rfl) ?_
      refine zw_imul hx hb dX0_withNarrow_41 ?_
      refine lv_iconst (v := zI 4) hx hb dX0_withNarrow_42 rfl ?_
      refine zw_iadd hx hb dX0_withNarrow_43 ?_
      refine zw_icmp_ge (tgt := 59) hx hb (by omega) (by decide) dX0_withNarrow_44 (fun c3 => ?_) (fun c3 => ?_)
      · have hv : narA w (mstF (mxF 0 w 4) (qF p0)) = -1 := by
          unfold narA
          rw [if_neg (by omega)]
        refine lv_iconst (v := zI (-1)) hx hb dX0_withNarrow_59 rfl ?_
        exact W.iret hx hb hr (fun t ht _ => ⟨by rw [hv], ht⟩) (fun _ h => absurd h List.not_mem_nil) dX0_withNarrow_60
      · have hv : narA w (mstF (mxF 0 w 4) (qF p0)) = rssZ (w 0) (w 1) (w 2) (w 3) (mstF (mxF 0 w 4) (qF p0) : Int) 1 := by
          unfold narA
          rw [if_pos (by omega)]
        refine lv_aload_n hx hb dX0_withNarrow_47 rfl (lv_at hl 2 rfl) ?_
        refine va_get (D := (dC, dI)) (ci := 0) (v := .ref h1) (C := RX0) (T := TX0) (N := 1) hx hb hts in_X0 hown hK hP 0 rfl rfl 0 (by decide) (hts _ q18) (fun _ h9 => h9) rfl dX0_withNarrow_48 ?_
        refine lv_iload_n hx hb dX0_withNarrow_51 rfl (lv_at hl 0 rfl) ?_
        refine lv_iconst (v := zI 1) hx hb dX0_withNarrow_52 rfl ?_
        refine zw_callR (W.runS (As := [.ref h1, .int (zI (mstF (mxF 0 w 4) (qF p0) : Int)), .int (zI 1)]) (rest := []) ⟨hx, hb, hml, hown, hts⟩ (met_rss l dC dI h1 d0 f w hw (mstF (mxF 0 w 4) (qF p0)) hms 1 (by omega)) (va_cwS 3 hts (lw_S q44 q45 q9 q46) rfl rfl rfl (by decide +kernel) ⟨Nat.le_of_ble_eq_true rfl, Nat.le_of_ble_eq_true rfl⟩) ⟨fun a U g mk q => by obtain ⟨q0, qP, qK⟩ := q; exact ⟨q0, qP, va_K.moved (u := U) (U := U.calling g mk a) (Vm.Alike.refl U.vm) qK⟩, fun U hU hW => ⟨rfl, by rw [hU]; exact hPc, va_K.moved hW.alike hK⟩⟩ rfl rfl hl.1 rfl (lv_room (Nat.le_of_ble_eq_true rfl)) dX0_withNarrow_53 ⟨Nat.zero_le _, Nat.zero_le _⟩) ?_
        refine lv_goto (tgt := 60) hx hb dX0_withNarrow_56 (by decide) ?_
        exact W.iret hx hb hr (fun t ht _ => ⟨by rw [hv], ht⟩) (fun _ h => absurd h List.not_mem_nil) dX0_withNarrow_60
end
section
abbrev wsX1_sum : List Cond := ws_ yX1_sum cX1_sum 1 (some .int)
abbrev rmX1_sum : Room := { frames := 0, cells := 0, slots := 0, locals := 0 }
set_option maxHeartbeats 4000000 in
set_option maxRecDepth 100000 in
/-- sum() -/
theorem met_X1_sum (l : Launch) (dC : Nat → ClassId) (dI : Nat → Nat → Nat) (h0 h1 : Nat) (d0 : ClassId) (f : Nat → Int32) (w : Nat → Nat) (hw : okw f w) : Met l yX1_sum wsX1_sum rmX1_sum (va_Pc [.ref h0] (fun U => va_P (dC, dI) vwCl [(h0, .inr (1, [.ref h1])), (h1, .inl (d0, 4, .inl f))] U.heap ∧ va_K (dC, dI) vwCl [(d0, .int)] U)) (QcRead (zI (s4 w))) 0 0 (fun _ => False) := by
  refine Met.ofW (cc := cX1_sum) (maxL := 1) (ret := (some .int)) (by decide) rfl ?_
  intro p e s m args below meth c s₁ B hml hv
  obtain ⟨rfl, hP, hK⟩ := hv
  have hx := B.exec
  have hb := B.bytes
  have hr := B.returns
  have hts := atoms_spec (ws := wsX1_sum) B.pre
  have hts : ∀ w ∈ lw_all, w.before _ s = true := fun w h => hts w (List.mem_cons_of_mem _ h)
  have hown : s.vm.findClass RX1 = some m.cls := findClass_of_methodNamed B.named
  have hlocks := B.notSynchronized
  have hl := lv_entry ([.ref h0]) (n := 1) (Nat.le_of_ble_eq_true rfl)
  rw [lg_entry_eq]
  generalize (lg_sl ([.ref h0]) ++ List.replicate (1 - (lg_sl ([.ref h0])).length) Slot.unset).toArray = ls at hl ⊢
  have hl : lv_has ls 1 [(0, .ref h0)] := hl
  have hw0 := hw 0 (by decide)
  have hw1 := hw 1 (by decide)
  have hw2 := hw 2 (by decide)
  have hw3 := hw 3 (by decide)
  refine lv_aload_n hx hb dX1_sum_0 rfl (lv_at hl 0 rfl) ?_
  refine va_get (D := (dC, dI)) (ci := 1) (v := .ref h1) (C := RX1) (T := TX1) (N := 1) hx hb hts in_X1 hown hK hP 0 rfl rfl 0 (by decide) (hts _ q68) (fun _ h9 => h9) rfl dX1_sum_1 ?_
  refine lv_iconst (v := zI 0) hx hb dX1_sum_4 rfl ?_
  refine zw_iald (b := 0) hx hb hK hP 1 0 rfl rfl rfl ⟨by decide, by decide⟩ hw0.1 dX1_sum_5 ?_
  refine lv_aload_n hx hb dX1_sum_6 rfl (lv_at hl 0 rfl) ?_
  refine va_get (D := (dC, dI)) (ci := 1) (v := .ref h1) (C := RX1) (T := TX1) (N := 1) hx hb hts in_X1 hown hK hP 0 rfl rfl 0 (by decide) (hts _ q68) (fun _ h9 => h9) rfl dX1_sum_7 ?_
  refine lv_iconst (v := zI 1) hx hb dX1_sum_10 rfl ?_
  refine zw_iald (b := 1) hx hb hK hP 1 0 rfl rfl rfl ⟨by decide, by decide⟩ hw1.1 dX1_sum_11 ?_
  refine zw_iadd hx hb dX1_sum_12 ?_
  refine lv_aload_n hx hb dX1_sum_13 rfl (lv_at hl 0 rfl) ?_
  refine va_get (D := (dC, dI)) (ci := 1) (v := .ref h1) (C := RX1) (T := TX1) (N := 1) hx hb hts in_X1 hown hK hP 0 rfl rfl 0 (by decide) (hts _ q68) (fun _ h9 => h9) rfl dX1_sum_14 ?_
  refine lv_iconst (v := zI 2) hx hb dX1_sum_17 rfl ?_
  refine zw_iald (b := 2) hx hb hK hP 1 0 rfl rfl rfl ⟨by decide, by decide⟩ hw2.1 dX1_sum_18 ?_
  refine zw_iadd hx hb dX1_sum_19 ?_
  refine lv_aload_n hx hb dX1_sum_20 rfl (lv_at hl 0 rfl) ?_
  refine va_get (D := (dC, dI)) (ci := 1) (v := .ref h1) (C := RX1) (T := TX1) (N := 1) hx hb hts in_X1 hown hK hP 0 rfl rfl 0 (by decide) (hts _ q68) (fun _ h9 => h9) rfl dX1_sum_21 ?_
  refine lv_iconst (v := zI 3) hx hb dX1_sum_24 rfl ?_
  refine zw_iald (b := 3) hx hb hK hP 1 0 rfl rfl rfl ⟨by decide, by decide⟩ hw3.1 dX1_sum_25 ?_
  refine zw_iadd hx hb dX1_sum_26 ?_
  exact W.iret hx hb hr (fun t ht _ => ⟨rfl, ht⟩) (fun _ h => absurd h List.not_mem_nil) dX1_sum_27
abbrev wsX1_most : List Cond := ws_ yX1_most cX1_most 7 (some .int)
abbrev rmX1_most : Room := { frames := 0, cells := 0, slots := 0, locals := 0 }
set_option maxHeartbeats 4000000 in
set_option maxRecDepth 100000 in
theorem loop_X1_most {p : Program} {l : Launch} {e : Env} {R : Room} {s : State} {m : MethodId} {args : Array Value} {below : List Frame} {meth : Method} {c : Code} {Q : State → Prop} {dC : Nat → ClassId} {dI : Nat → Nat → Nat} {h0 h1 : Nat} {d0 : ClassId} {f : Nat → Int32} {w : Nat → Nat} {p0 : Int32} (hx : p.tables.exec = Jvm.exec) (hb : c.code = cX1_most) (hK : va_K (dC, dI) vwCl [(d0, .int)] s) (hP : va_P (dC, dI) vwCl [(h0, .inr (1, [.ref h1])), (h1, .inl (d0, 4, .inl f))] s.heap) (hw : okw f w)
    (kk : ∀ ls : Array Slot, lv_has ls 7 [(0, .ref h0), (1, .int p0), (2, .int (zI (mxF 1 w 4 : Int)))] → W p l e R s m args below meth c s.heap [] 0 0 Q (F0 m 46 ls [])) :
    ∀ (r j : Nat) (i : Int) (z : Nat), j + r = 4 → i = (j : Int) → z = mxF 1 w j → z ≤ 8 → ∀ ls : Array Slot, lv_has ls 7 [(0, .ref h0), (1, .int p0), (2, .int (zI (z : Int))), (3, .ref h1), (4, .int (zI 4)), (5, .int (zI i))] → W p l e R s m args below meth c s.heap [] 0 0 Q (F0 m 14 ls []) := by
  intro r
  induction r with
  | zero =>
    intro j i z hj hi hz hz8 ls hl
    have hj4 : j = 4 := by omega
    refine lv_iload hx hb dX1_most_14 (lv_at hl 5 rfl) ?_
    refine lv_iload hx hb dX1_most_16 (lv_at hl 4 rfl) ?_
    refine zw_icmp_ge_t (tgt := 46) hx hb (by omega) (by omega) (by decide) dX1_most_18 ?_
    rw [hz, hj4] at hl
    exact kk ls (lv_sub hl [0, 1, 2] rfl)
  | succ r ih =>
    intro j i z hj hi hz hz8 ls hl
    have hwj := hw j (by omega)
    refine lv_iload hx hb dX1_most_14 (lv_at hl 5 rfl) ?_
    refine lv_iload hx hb dX1_most_16 (lv_at hl 4 rfl) ?_
    refine zw_icmp_ge_f (tgt := 46) hx hb (by omega) (by omega) (by decide) dX1_most_18 ?_
    refine lv_aload_n hx hb dX1_most_21 rfl (lv_at hl 3 rfl) ?_
    refine lv_iload hx hb dX1_most_22 (lv_at hl 5 rfl) ?_
    refine zw_iald (b := j) hx hb hK hP 1 0 rfl rfl hi ⟨by omega, by decide⟩ hwj.1 dX1_most_24 ?_
    refine lv_istore (lv' := [(6, .int (zI (w j : Int))), (0, .ref h0), (1, .int p0), (2, .int (zI (z : Int))), (3, .ref h1), (4, .int (zI 4)), (5, .int (zI i))]) hx hb dX1_most_25 hl (by decide) rfl (fun ls hl => ?_)
    refine lv_iload hx hb dX1_most_27 (lv_at hl 0 rfl) ?_
    refine lv_iload_n hx hb dX1_most_29 rfl (lv_at hl 3 rfl) ?_
    refine zw_icmp_le (tgt := 38) hx hb (by omega) (by decide) dX1_most_30 (fun c1 => ?_) (fun c1 => ?_)
    · refine lv_iload_n hx hb dX1_most_38 rfl (lv_at hl 3 rfl) ?_
      refine lv_istore_n (lv' := [(2, .int (zI (z : Int))), (6, .int (zI (w j : Int))), (0, .ref h0), (1, .int p0), (3, .ref h1), (4, .int (zI 4)), (5, .int (zI i))]) hx hb dX1_most_39 rfl hl (by decide) rfl (fun ls hl => ?_)
      refine lv_iinc (v := zI (i + 1)) (lv' := [(5, .int (zI (i + 1))), (2, .int (zI (z : Int))), (6, .int (zI (w j : Int))), (0, .ref h0), (1, .int p0), (3, .ref h1), (4, .int (zI 4))]) hx hb dX1_most_40 hl (k := 6) rfl (zI_add i 1) (by decide) rfl (fun ls hl => ?_)
      refine lv_goto (tgt := 14) hx hb dX1_most_43 (by decide) ?_
      exact ih (j + 1) (i + 1) z (by omega) (by omega) (by show z = if mxF 1 w j < w j then w j else mxF 1 w j; rw [← hz, if_neg (by omega)]) (by omega) ls (lv_sub hl [3, 4, 1, 5, 6, 0] rfl)
    · refine lv_iload hx hb dX1_most_33 (lv_at hl 0 rfl) ?_
      refine lv_goto (tgt := 39) hx hb dX1_most_35 (by decide) ?_
      refine lv_istore_n (lv' := [(2, .int (zI (w j : Int))), (6, .int (zI (w j : Int))), (0, .ref h0), (1, .int p0), (3, .ref h1), (4, .int (zI 4)), (5, .int (zI i))]) hx hb dX1_most_39 rfl hl (by decide) rfl (fun ls hl => ?_)
      refine lv_iinc (v := zI (i + 1)) (lv' := [(5, .int (zI (i + 1))), (2, .int (zI (w j : Int))), (6, .int (zI (w j : Int))), (0, .ref h0), (1, .int p0), (3, .ref h1), (4, .int (zI 4))]) hx hb dX1_most_40 hl (k := 6) rfl (zI_add i 1) (by decide) rfl (fun ls hl => ?_)
      refine lv_goto (tgt := 14) hx hb dX1_most_43 (by decide) ?_
      exact ih (j + 1) (i + 1) (w j) (by omega) (by omega) (by show w j = if mxF 1 w j < w j then w j else mxF 1 w j; rw [← hz, if_pos (by omega)]) (by omega) ls (lv_sub hl [3, 4, 1, 5, 6, 0] rfl)
set_option maxHeartbeats 4000000 in
set_option maxRecDepth 100000 in
/-- most(asked) -/
theorem met_X1_most (l : Launch) (dC : Nat → ClassId) (dI : Nat → Nat → Nat) (h0 h1 : Nat) (d0 : ClassId) (f : Nat → Int32) (w : Nat → Nat) (hw : okw f w) (p0 : Int32) : Met l yX1_most wsX1_most rmX1_most (va_Pc [.ref h0, .int p0] (fun U => va_P (dC, dI) vwCl [(h0, .inr (1, [.ref h1])), (h1, .inl (d0, 4, .inl f))] U.heap ∧ va_K (dC, dI) vwCl [(d0, .int)] U)) (QcRead (zI (mstF (mxF 1 w 4) (qF p0) : Int))) 0 0 (fun _ => False) := by
  refine Met.ofW (cc := cX1_most) (maxL := 7) (ret := (some .int)) (by decide) rfl ?_
  intro p e s m args below meth c s₁ B hml hv
  obtain ⟨rfl, hP, hK⟩ := hv
  have hx := B.exec
  have hb := B.bytes
  have hr := B.returns
  have hts := atoms_spec (ws := wsX1_most) B.pre
  have hts : ∀ w ∈ lw_all, w.before _ s = true := fun w h => hts w (List.mem_cons_of_mem _ h)
  have hown : s.vm.findClass RX1 = some m.cls := findClass_of_methodNamed B.named
  have hlocks := B.notSynchronized
  have hl := lv_entry ([.ref h0, .int p0]) (n := 7) (Nat.le_of_ble_eq_true rfl)
  rw [lg_entry_eq]
  generalize (lg_sl ([.ref h0, .int p0]) ++ List.replicate (7 - (lg_sl ([.ref h0, .int p0])).length) Slot.unset).toArray = ls at hl ⊢
  have hl : lv_has ls 7 [(0, .ref h0), (1, .int p0)] := hl
  have hmx := mx_in (z := 1) hw (by decide)
  have hq := qF_lt p0
  refine lv_iconst (v := zI 1) hx hb dX1_most_0 rfl ?_
  refine lv_istore_n (lv' := [(2, .int (zI 1)), (0, .ref h0), (1, .int p0)]) hx hb dX1_most_1 rfl hl (by decide) rfl (fun ls hl => ?_)
  refine lv_aload_n hx hb dX1_most_2 rfl (lv_at hl 1 rfl) ?_
  refine va_get (D := (dC, dI)) (ci := 1) (v := .ref h1) (C := RX1) (T := TX1) (N := 1) hx hb hts in_X1 hown hK hP 0 rfl rfl 0 (by decide) (hts _ q68) (fun _ h9 => h9) rfl dX1_most_3 ?_
  refine lv_astore_n (lv' := [(3, .ref h1), (2, .int (zI 1)), (0, .ref h0), (1, .int p0)]) hx hb dX1_most_6 rfl hl (by decide) rfl (fun ls hl => ?_)
  refine lv_aload_n hx hb dX1_most_7 rfl (lv_at hl 0 rfl) ?_
  refine va_alen (v := (zI 4)) hx hb hK hP 1 0 rfl rfl rfl dX1_most_8 ?_
  refine lv_istore (lv' := [(4, .int (zI 4)), (3, .ref h1), (2, .int (zI 1)), (0, .ref h0), (1, .int p0)]) hx hb dX1_most_9 hl (by decide) rfl (fun ls hl => ?_)
  refine lv_iconst (v := zI 0) hx hb dX1_most_11 rfl ?_
  refine lv_istore (lv' := [(5, .int (zI 0)), (4, .int (zI 4)), (3, .ref h1), (2, .int (zI 1)), (0, .ref h0), (1, .int p0)]) hx hb dX1_most_12 hl (by decide) rfl (fun ls hl => ?_)
  refine loop_X1_most hx hb hK hP hw (p0 := p0) (fun ls hl => ?_) 4 0 0 1 rfl rfl rfl (by decide) ls (lv_sub hl [4, 5, 3, 2, 1, 0] rfl)
  refine lv_iload_n hx hb dX1_most_46 rfl (lv_at hl 2 rfl) ?_
  refine lv_iload_n hx hb dX1_most_47 rfl (lv_at hl 1 rfl) ?_
  refine lv_ldc hx hb hown (hts _ q93) dX1_most_48 ?_
  refine lv_iand hx hb dX1_most_50 ?_
  refine zw_top (qF_and p0) ?_
  refine lv_bipush (v := zI 9) hx hb dX1_most_51 (by decide +kernel) ?_
  refine lv_iload_n hx hb dX1_most_53 rfl (lv_at hl 2 rfl) ?_
  refine zw_isub hx hb dX1_most_54 ?_
  refine zw_irem (z := (qF p0 : Int) % (9 - (mxF 1 w 4 : Int))) hx hb ⟨by omega, by omega, by omega, by omega⟩ rfl dX1_most_55 ?_
  refine zw_iadd hx hb dX1_most_56 ?_
  refine zw_top (congrArg zI (mst_cast hmx.2)) ?_
  exact W.iret hx hb hr (fun t ht _ => ⟨rfl, ht⟩) (fun _ h => absurd h List.not_mem_nil) dX1_most_57
abbrev wsX1_width_2 : List Cond := ws_ yX1_width_2 cX1_width_2 2 (some .int)
abbrev rmX1_width_2 : Room := { frames := 0, cells := 0, slots := 0, locals := 0 }
set_option maxHeartbeats 4000000 in
set_option maxRecDepth 100000 in
/-- width(i) -/
theorem met_X1_width_2 (l : Launch) (dC : Nat → ClassId) (dI : Nat → Nat → Nat) (h0 h1 : Nat) (d0 : ClassId) (f : Nat → Int32) (p0 : Int32) : Met l yX1_width_2 wsX1_width_2 rmX1_width_2 (va_Pc [.ref h0, .int p0] (fun U => va_P (dC, dI) vwCl [(h0, .inr (1, [.ref h1])), (h1, .inl (d0, 4, .inl f))] U.heap ∧ va_K (dC, dI) vwCl [(d0, .int)] U)) (QcRead (f (p0 &&& 3).toNatClampNeg)) 0 0 (fun _ => False) := by
  refine Met.ofW (cc := cX1_width_2) (maxL := 2) (ret := (some .int)) (by decide) rfl ?_
  intro p e s m args below meth c s₁ B hml hv
  obtain ⟨rfl, hP, hK⟩ := hv
  have hx := B.exec
  have hb := B.bytes
  have hr := B.returns
  have hts := atoms_spec (ws := wsX1_width_2) B.pre
  have hts : ∀ w ∈ lw_all, w.before _ s = true := fun w h => hts w (List.mem_cons_of_mem _ h)
  have hown : s.vm.findClass RX1 = some m.cls := findClass_of_methodNamed B.named
  have hlocks := B.notSynchronized
  have hl := lv_entry ([.ref h0, .int p0]) (n := 2) (Nat.le_of_ble_eq_true rfl)
  rw [lg_entry_eq]
  generalize (lg_sl ([.ref h0, .int p0]) ++ List.replicate (2 - (lg_sl ([.ref h0, .int p0])).length) Slot.unset).toArray = ls at hl ⊢
  have hl : lv_has ls 2 [(0, .ref h0), (1, .int p0)] := hl
  refine lv_aload_n hx hb dX1_width_2_0 rfl (lv_at hl 0 rfl) ?_
  refine va_get (D := (dC, dI)) (ci := 1) (v := .ref h1) (C := RX1) (T := TX1) (N := 1) hx hb hts in_X1 hown hK hP 0 rfl rfl 0 (by decide) (hts _ q68) (fun _ h9 => h9) rfl dX1_width_2_1 ?_
  refine lv_iload_n hx hb dX1_width_2_4 rfl (lv_at hl 1 rfl) ?_
  refine lv_iconst (v := 3) hx hb dX1_width_2_5 (by decide) ?_
  refine lv_iand hx hb dX1_width_2_6 ?_
  refine va_iald hx hb hK hP 1 0 rfl rfl (pk_andIn p0 2 (by decide) (by decide)) dX1_width_2_7 ?_
  exact W.iret hx hb hr (fun t ht _ => ⟨rfl, ht⟩) (fun _ h => absurd h List.not_mem_nil) dX1_width_2_8
abbrev wsX1_ahead : List Cond := ws_ yX1_ahead cX1_ahead 11 (some .int)
abbrev rmX1_ahead : Room := { frames := 1, cells := 0, slots := 0, locals := 20 }
set_option maxHeartbeats 4000000 in
set_option maxRecDepth 100000 in
/-- ahead: is this one a row -/
theorem ahead_row {p : Program} {l : Launch} {e : Env} {R : Room} {s : State} {m : MethodId} {args : Array Value} {below : List Frame} {meth : Method} {c : Code} {Q : State → Prop} {dC : Nat → ClassId} {dI : Nat → Nat → Nat} {h0 h1 : Nat} {d0 : ClassId} {f : Nat → Int32} {w : Nat → Nat} {M : Nat} {nn S : Int} (hx : p.tables.exec = Jvm.exec) (hb : c.code = cX1_ahead) (hown : s.vm.findClass RX1 = some m.cls) (hts : ∀ w ∈ lw_all, w.before args s = true) (hK : va_K (dC, dI) vwCl [(d0, .int)] s) (hP : va_P (dC, dI) vwCl [(h0, .inr (1, [.ref h1])), (h1, .inl (d0, 4, .inl f))] s.heap) (hw : okw f w) (h : 1 ≤ M ∧ M ≤ 8 ∧ 0 ≤ nn ∧ nn ≤ 1 ∧ 4 ≤ S ∧ S ≤ 32) {fnd : Int} {a b c3 : Nat} (hab : a ≤ 9 ∧ b ≤ 9 ∧ c3 ≤ 9) {ls : Array Slot} (hl : lv_has ls 11 [(0, .ref h0), (1, .int (zI (M : Int))), (2, .int (zI nn)), (3, .int (zI S)), (4, .int (zI fnd)), (5, .int (zI (a : Int))), (6, .int (zI (b : Int))), (7, .int (zI (c3 : Int)))])
    (kk : ∀ (ls : Array Slot) (ri : Int), ((ri = 1 ∧ (1 ≤ S - (a : Int) - (b : Int) - (c3 : Int) ∧ S - (a : Int) - (b : Int) - (c3 : Int) ≤ (M : Int) ∧ (nn = 0 ∨ (a : Int) = 1 ∨ (b : Int) = 1 ∨ (c3 : Int) = 1 ∨ S - (a : Int) - (b : Int) - (c3 : Int) = 1))) ∨ (ri = 0 ∧ ¬ (1 ≤ S - (a : Int) - (b : Int) - (c3 : Int) ∧ S - (a : Int) - (b : Int) - (c3 : Int) ≤ (M : Int) ∧ (nn = 0 ∨ (a : Int) = 1 ∨ (b : Int) = 1 ∨ (c3 : Int) = 1 ∨ S - (a : Int) - (b : Int) - (c3 : Int) = 1)))) → lv_has ls 11 [(0, .ref h0), (1, .int (zI (M : Int))), (2, .int (zI nn)), (3, .int (zI S)), (4, .int (zI fnd)), (5, .int (zI (a : Int))), (6, .int (zI (b : Int))), (7, .int (zI (c3 : Int))), (9, .int (zI ri))] → W p l e R s m args below meth c s.heap [] 0 0 Q (F0 m 94 ls [])) : W p l e R s m args below meth c s.heap [] 0 0 Q (F0 m 35 ls []) := by
  refine lv_iload_n hx hb dX1_ahead_35 rfl (lv_at hl 3 rfl) ?_
  refine lv_iload hx hb dX1_ahead_36 (lv_at hl 5 rfl) ?_
  refine zw_isub hx hb dX1_ahead_38 ?_
  refine lv_iload hx hb dX1_ahead_39 (lv_at hl 6 rfl) ?_
  refine zw_isub hx hb dX1_ahead_41 ?_
  refine lv_iload hx hb dX1_ahead_42 (lv_at hl 7 rfl) ?_
  refine zw_isub hx hb dX1_ahead_44 ?_
  refine lv_istore (lv' := [(8, .int (zI (((S - (a : Int)) - (b : Int)) - (c3 : Int)))), (0, .ref h0), (1, .int (zI (M : Int))), (2, .int (zI nn)), (3, .int (zI S)), (4, .int (zI fnd)), (5, .int (zI (a : Int))), (6, .int (zI (b : Int))), (7, .int (zI (c3 : Int)))]) hx hb dX1_ahead_45 hl (by decide) rfl (fun ls hl => ?_)
  refine lv_iload hx hb dX1_ahead_47 (lv_at hl 0 rfl) ?_
  refine lv_iconst (v := zI 1) hx hb dX1_ahead_49 rfl ?_
  refine zw_icmp_lt (tgt := 91) hx hb (by omega) (by decide) dX1_ahead_50 (fun g1 => ?_) (fun g1 => ?_)
  · refine lv_iconst (v := zI 0) hx hb dX1_ahead_91 rfl ?_
    refine lv_istore (lv' := [(9, .int (zI 0)), (8, .int (zI (((S - (a : Int)) - (b : Int)) - (c3 : Int)))), (0, .ref h0), (1, .int (zI (M : Int))), (2, .int (zI nn)), (3, .int (zI S)), (4, .int (zI fnd)), (5, .int (zI (a : Int))), (6, .int (zI (b : Int))), (7, .int (zI (c3 : Int)))]) hx hb dX1_ahead_92 hl (by decide) rfl (fun ls hl => ?_)
    exact kk ls 0 (by omega) (lv_sub hl [2, 3, 4, 5, 6, 7, 8, 9, 0] rfl)
  · refine lv_iload hx hb dX1_ahead_53 (lv_at hl 0 rfl) ?_
    refine lv_iload_n hx hb dX1_ahead_55 rfl (lv_at hl 2 rfl) ?_
    refine zw_icmp_gt (tgt := 91) hx hb (by omega) (by decide) dX1_ahead_56 (fun g2 => ?_) (fun g2 => ?_)
    · refine lv_iconst (v := zI 0) hx hb dX1_ahead_91 rfl ?_
      refine lv_istore (lv' := [(9, .int (zI 0)), (8, .int (zI (((S - (a : Int)) - (b : Int)) - (c3 : Int)))), (0, .ref h0), (1, .int (zI (M : Int))), (2, .int (zI nn)), (3, .int (zI S)), (4, .int (zI fnd)), (5, .int (zI (a : Int))), (6, .int (zI (b : Int))), (7, .int (zI (c3 : Int)))]) hx hb dX1_ahead_92 hl (by decide) rfl (fun ls hl => ?_)
      exact kk ls 0 (by omega) (lv_sub hl [2, 3, 4, 5, 6, 7, 8, 9, 0] rfl)
    · refine lv_iload_n hx hb dX1_ahead_59 rfl (lv_at hl 3 rfl) ?_
      refine zw_if_eq (tgt := 87) hx hb (by omega) (by decide) dX1_ahead_60 (fun g3 => ?_) (fun g3 => ?_)
      · refine lv_iconst (v := zI 1) hx hb dX1_ahead_87 rfl ?_
        refine lv_goto (tgt := 92) hx hb dX1_ahead_88 (by decide) ?_
        refine lv_istore (lv' := [(9, .int (zI 1)), (8, .int (zI (((S - (a : Int)) - (b : Int)) - (c3 : Int)))), (0, .ref h0), (1, .int (zI (M : Int))), (2, .int (zI nn)), (3, .int (zI S)), (4, .int (zI fnd)), (5, .int (zI (a : Int))), (6, .int (zI (b : Int))), (7, .int (zI (c3 : Int)))]) hx hb dX1_ahead_92 hl (by decide) rfl (fun ls hl => ?_)
        exact kk ls 1 (by omega) (lv_sub hl [2, 3, 4, 5, 6, 7, 8, 9, 0] rfl)
      · refine lv_iload hx hb dX1_ahead_63 (lv_at hl 6 rfl) ?_
        refine lv_iconst (v := zI 1) hx hb dX1_ahead_65 rfl ?_
        refine zw_icmp_eq (tgt := 87) hx hb (by omega) (by decide) dX1_ahead_66 (fun g4 => ?_) (fun g4 => ?_)
        · refine lv_iconst (v := zI 1) hx hb dX1_ahead_87 rfl ?_
          refine lv_goto (tgt := 92) hx hb dX1_ahead_88 (by decide) ?_
          refine lv_istore (lv' := [(9, .int (zI 1)), (8, .int (zI (((S - (a : Int)) - (b : Int)) - (c3 : Int)))), (0, .ref h0), (1, .int (zI (M : Int))), (2, .int (zI nn)), (3, .int (zI S)), (4, .int (zI fnd)), (5, .int (zI (a : Int))), (6, .int (zI (b : Int))), (7, .int (zI (c3 : Int)))]) hx hb dX1_ahead_92 hl (by decide) rfl (fun ls hl => ?_)
          exact kk ls 1 (by omega) (lv_sub hl [2, 3, 4, 5, 6, 7, 8, 9, 0] rfl)
        · refine lv_iload hx hb dX1_ahead_69 (lv_at hl 7 rfl) ?_
          refine lv_iconst (v := zI 1) hx hb dX1_ahead_71 rfl ?_
          refine zw_icmp_eq (tgt := 87) hx hb (by omega) (by decide) dX1_ahead_72 (fun g5 => ?_) (fun g5 => ?_)
          · refine lv_iconst (v := zI 1) hx hb dX1_ahead_87 rfl ?_
            refine lv_goto (tgt := 92) hx hb dX1_ahead_88 (by decide) ?_
            refine lv_istore (lv' := [(9, .int (zI 1)), (8, .int (zI (((S - (a : Int)) - (b : Int)) - (c3 : Int)))), (0, .ref h0), (1, .int (zI (M : Int))), (2, .int (zI nn)), (3, .int (zI S)), (4, .int (zI fnd)), (5, .int (zI (a : Int))), (6, .int (zI (b : Int))), (7, .int (zI (c3 : Int)))]) hx hb dX1_ahead_92 hl (by decide) rfl (fun ls hl => ?_)
            exact kk ls 1 (by omega) (lv_sub hl [2, 3, 4, 5, 6, 7, 8, 9, 0] rfl)
          · refine lv_iload hx hb dX1_ahead_75 (lv_at hl 8 rfl) ?_
            refine lv_iconst (v := zI 1) hx hb dX1_ahead_77 rfl ?_
            refine zw_icmp_eq (tgt := 87) hx hb (by omega) (by decide) dX1_ahead_78 (fun g6 => ?_) (fun g6 => ?_)
            · refine lv_iconst (v := zI 1) hx hb dX1_ahead_87 rfl ?_
              refine lv_goto (tgt := 92) hx hb dX1_ahead_88 (by decide) ?_
              refine lv_istore (lv' := [(9, .int (zI 1)), (8, .int (zI (((S - (a : Int)) - (b : Int)) - (c3 : Int)))), (0, .ref h0), (1, .int (zI (M : Int))), (2, .int (zI nn)), (3, .int (zI S)), (4, .int (zI fnd)), (5, .int (zI (a : Int))), (6, .int (zI (b : Int))), (7, .int (zI (c3 : Int)))]) hx hb dX1_ahead_92 hl (by decide) rfl (fun ls hl => ?_)
              exact kk ls 1 (by omega) (lv_sub hl [2, 3, 4, 5, 6, 7, 8, 9, 0] rfl)
            · refine lv_iload hx hb dX1_ahead_81 (lv_at hl 0 rfl) ?_
              refine lv_iconst (v := zI 1) hx hb dX1_ahead_83 rfl ?_
              refine zw_icmp_ne (tgt := 91) hx hb (by omega) (by decide) dX1_ahead_84 (fun g7 => ?_) (fun g7 => ?_)
              · refine lv_iconst (v := zI 0) hx hb dX1_ahead_91 rfl ?_
                refine lv_istore (lv' := [(9, .int (zI 0)), (8, .int (zI (((S - (a : Int)) - (b : Int)) - (c3 : Int)))), (0, .ref h0), (1, .int (zI (M : Int))), (2, .int (zI nn)), (3, .int (zI S)), (4, .int (zI fnd)), (5, .int (zI (a : Int))), (6, .int (zI (b : Int))), (7, .int (zI (c3 : Int)))]) hx hb dX1_ahead_92 hl (by decide) rfl (fun ls hl => ?_)
                exact kk ls 0 (by omega) (lv_sub hl [2, 3, 4, 5, 6, 7, 8, 9, 0] rfl)
              · refine lv_iconst (v := zI 1) hx hb dX1_ahead_87 rfl ?_
                refine lv_goto (tgt := 92) hx hb dX1_ahead_88 (by decide) ?_
                refine lv_istore (lv' := [(9, .int (zI 1)), (8, .int (zI (((S - (a : Int)) - (b : Int)) - (c3 : Int)))), (0, .ref h0), (1, .int (zI (M : Int))), (2, .int (zI nn)), (3, .int (zI S)), (4, .int (zI fnd)), (5, .int (zI (a : Int))), (6, .int (zI (b : Int))), (7, .int (zI (c3 : Int)))]) hx hb dX1_ahead_92 hl (by decide) rfl (fun ls hl => ?_)
                exact kk ls 1 (by omega) (lv_sub hl [2, 3, 4, 5, 6, 7, 8, 9, 0] rfl)
set_option maxHeartbeats 4000000 in
set_option maxRecDepth 100000 in
/-- ahead: does this one stand ahead -/
theorem ahead_less {p : Program} {l : Launch} {e : Env} {R : Room} {s : State} {m : MethodId} {args : Array Value} {below : List Frame} {meth : Method} {c : Code} {Q : State → Prop} {dC : Nat → ClassId} {dI : Nat → Nat → Nat} {h0 h1 : Nat} {d0 : ClassId} {f : Nat → Int32} {w : Nat → Nat} {M : Nat} {nn S : Int} (hx : p.tables.exec = Jvm.exec) (hb : c.code = cX1_ahead) (hown : s.vm.findClass RX1 = some m.cls) (hts : ∀ w ∈ lw_all, w.before args s = true) (hK : va_K (dC, dI) vwCl [(d0, .int)] s) (hP : va_P (dC, dI) vwCl [(h0, .inr (1, [.ref h1])), (h1, .inl (d0, 4, .inl f))] s.heap) (hw : okw f w) (h : 1 ≤ M ∧ M ≤ 8 ∧ 0 ≤ nn ∧ nn ≤ 1 ∧ 4 ≤ S ∧ S ≤ 32) {fnd ri : Int} {a b c3 : Nat} (hab : a ≤ 9 ∧ b ≤ 9 ∧ c3 ≤ 9) {ls : Array Slot} (hl : lv_has ls 11 [(0, .ref h0), (1, .int (zI (M : Int))), (2, .int (zI nn)), (3, .int (zI S)), (4, .int (zI fnd)), (5, .int (zI (a : Int))), (6, .int (zI (b : Int))), (7, .int (zI (c3 : Int))), (9, .int (zI ri))])
    (kk : ∀ (ls : Array Slot) (li : Int), ((li = 1 ∧ ((a : Int) < (w 0 : Int) ∨ ((a : Int) = (w 0 : Int) ∧ ((b : Int) < (w 1 : Int) ∨ ((b : Int) = (w 1 : Int) ∧ (c3 : Int) < (w 2 : Int)))))) ∨ (li = 0 ∧ ¬ ((a : Int) < (w 0 : Int) ∨ ((a : Int) = (w 0 : Int) ∧ ((b : Int) < (w 1 : Int) ∨ ((b : Int) = (w 1 : Int) ∧ (c3 : Int) < (w 2 : Int))))))) → lv_has ls 11 [(0, .ref h0), (1, .int (zI (M : Int))), (2, .int (zI nn)), (3, .int (zI S)), (4, .int (zI fnd)), (5, .int (zI (a : Int))), (6, .int (zI (b : Int))), (7, .int (zI (c3 : Int))), (9, .int (zI ri)), (10, .int (zI li))] → W p l e R s m args below meth c s.heap [] 0 0 Q (F0 m 172 ls [])) : W p l e R s m args below meth c s.heap [] 0 0 Q (F0 m 94 ls []) := by
  have hw0 := hw 0 (by decide)
  have hw1 := hw 1 (by decide)
  have hw2 := hw 2 (by decide)
  have hw3 := hw 3 (by decide)
  refine lv_iload hx hb dX1_ahead_94 (lv_at hl 5 rfl) ?_
  refine lv_aload_n hx hb dX1_ahead_96 rfl (lv_at hl 0 rfl) ?_
  refine va_get (D := (dC, dI)) (ci := 1) (v := .ref h1) (C := RX1) (T := TX1) (N := 1) hx hb hts in_X1 hown hK hP 0 rfl rfl 0 (by decide) (hts _ q68) (fun _ h9 => h9) rfl dX1_ahead_97 ?_
  refine lv_iconst (v := zI 0) hx hb dX1_ahead_100 rfl ?_
  refine zw_iald (b := 0) hx hb hK hP 1 0 rfl rfl rfl ⟨by decide, by decide⟩ hw0.1 dX1_ahead_101 ?_
  refine zw_icmp_eq (tgt := 124) hx hb (by omega) (by decide) dX1_ahead_102 (fun g1 => ?_) (fun g1 => ?_)
  · refine lv_iload hx hb dX1_ahead_124 (lv_at hl 6 rfl) ?_
    refine lv_aload_n hx hb dX1_ahead_126 rfl (lv_at hl 0 rfl) ?_
    refine va_get (D := (dC, dI)) (ci := 1) (v := .ref h1) (C := RX1) (T := TX1) (N := 1) hx hb hts in_X1 hown hK hP 0 rfl rfl 0 (by decide) (hts _ q68) (fun _ h9 => h9) rfl dX1_ahead_127 ?_
    refine lv_iconst (v := zI 1) hx hb dX1_ahead_130 rfl ?_
    refine zw_iald (b := 1) hx hb hK hP 1 0 rfl rfl rfl ⟨by decide, by decide⟩ hw1.1 dX1_ahead_131 ?_
    refine zw_icmp_eq (tgt := 154) hx hb (by omega) (by decide) dX1_ahead_132 (fun g2 => ?_) (fun g2 => ?_)
    · refine lv_iload hx hb dX1_ahead_154 (lv_at hl 7 rfl) ?_
      refine lv_aload_n hx hb dX1_ahead_156 rfl (lv_at hl 0 rfl) ?_
      refine va_get (D := (dC, dI)) (ci := 1) (v := .ref h1) (C := RX1) (T := TX1) (N := 1) hx hb hts in_X1 hown hK hP 0 rfl rfl 0 (by decide) (hts _ q68) (fun _ h9 => h9) rfl dX1_ahead_157 ?_
      refine lv_iconst (v := zI 2) hx hb dX1_ahead_160 rfl ?_
      refine zw_iald (b := 2) hx hb hK hP 1 0 rfl rfl rfl ⟨by decide, by decide⟩ hw2.1 dX1_ahead_161 ?_
      refine zw_icmp_ge (tgt := 169) hx hb (by omega) (by decide) dX1_ahead_162 (fun g3 => ?_) (fun g3 => ?_)
      · refine lv_iconst (v := zI 0) hx hb dX1_ahead_169 rfl ?_
        refine lv_istore (lv' := [(10, .int (zI 0)), (0, .ref h0), (1, .int (zI (M : Int))), (2, .int (zI nn)), (3, .int (zI S)), (4, .int (zI fnd)), (5, .int (zI (a : Int))), (6, .int (zI (b : Int))), (7, .int (zI (c3 : Int))), (9, .int (zI ri))]) hx hb dX1_ahead_170 hl (by decide) rfl (fun ls hl => ?_)
        exact kk ls 0 (by omega) (lv_sub hl [1, 2, 3, 4, 5, 6, 7, 8, 9, 0] rfl)
      · refine lv_iconst (v := zI 1) hx hb dX1_ahead_165 rfl ?_
        refine lv_goto (tgt := 170) hx hb dX1_ahead_166 (by decide) ?_
        refine lv_istore (lv' := [(10, .int (zI 1)), (0, .ref h0), (1, .int (zI (M : Int))), (2, .int (zI nn)), (3, .int (zI S)), (4, .int (zI fnd)), (5, .int (zI (a : Int))), (6, .int (zI (b : Int))), (7, .int (zI (c3 : Int))), (9, .int (zI ri))]) hx hb dX1_ahead_170 hl (by decide) rfl (fun ls hl => ?_)
        exact kk ls 1 (by omega) (lv_sub hl [1, 2, 3, 4, 5, 6, 7, 8, 9, 0] rfl)
    · refine lv_iload hx hb dX1_ahead_135 (lv_at hl 6 rfl) ?_
      refine lv_aload_n hx hb dX1_ahead_137 rfl (lv_at hl 0 rfl) ?_
      refine va_get (D := (dC, dI)) (ci := 1) (v := .ref h1) (C := RX1) (T := TX1) (N := 1) hx hb hts in_X1 hown hK hP 0 rfl rfl 0 (by decide) (hts _ q68) (fun _ h9 => h9) rfl dX1_ahead_138 ?_
      refine lv_iconst (v := zI 1) hx hb dX1_ahead_141 rfl ?_
      refine zw_iald (b := 1) hx hb hK hP 1 0 rfl rfl rfl ⟨by decide, by decide⟩ hw1.1 dX1_ahead_142 ?_
      refine zw_icmp_ge (tgt := 150) hx hb (by omega) (by decide) dX1_ahead_143 (fun g3 => ?_) (fun g3 => ?_)
      · refine lv_iconst (v := zI 0) hx hb dX1_ahead_150 rfl ?_
        refine lv_goto (tgt := 170) hx hb dX1_ahead_151 (by decide) ?_
        refine lv_istore (lv' := [(10, .int (zI 0)), (0, .ref h0), (1, .int (zI (M : Int))), (2, .int (zI nn)), (3, .int (zI S)), (4, .int (zI fnd)), (5, .int (zI (a : Int))), (6, .int (zI (b : Int))), (7, .int (zI (c3 : Int))), (9, .int (zI ri))]) hx hb dX1_ahead_170 hl (by decide) rfl (fun ls hl => ?_)
        exact kk ls 0 (by omega) (lv_sub hl [1, 2, 3, 4, 5, 6, 7, 8, 9, 0] rfl)
      · refine lv_iconst (v := zI 1) hx hb dX1_ahead_146 rfl ?_
        refine lv_goto (tgt := 170) hx hb dX1_ahead_147 (by decide) ?_
        refine lv_istore (lv' := [(10, .int (zI 1)), (0, .ref h0), (1, .int (zI (M : Int))), (2, .int (zI nn)), (3, .int (zI S)), (4, .int (zI fnd)), (5, .int (zI (a : Int))), (6, .int (zI (b : Int))), (7, .int (zI (c3 : Int))), (9, .int (zI ri))]) hx hb dX1_ahead_170 hl (by decide) rfl (fun ls hl => ?_)
        exact kk ls 1 (by omega) (lv_sub hl [1, 2, 3, 4, 5, 6, 7, 8, 9, 0] rfl)
  · refine lv_iload hx hb dX1_ahead_105 (lv_at hl 5 rfl) ?_
    refine lv_aload_n hx hb dX1_ahead_107 rfl (lv_at hl 0 rfl) ?_
    refine va_get (D := (dC, dI)) (ci := 1) (v := .ref h1) (C := RX1) (T := TX1) (N := 1) hx hb hts in_X1 hown hK hP 0 rfl rfl 0 (by decide) (hts _ q68) (fun _ h9 => h9) rfl dX1_ahead_108 ?_
    refine lv_iconst (v := zI 0) hx hb dX1_ahead_111 rfl ?_
    refine zw_iald (b := 0) hx hb hK hP 1 0 rfl rfl rfl ⟨by decide, by decide⟩ hw0.1 dX1_ahead_112 ?_
    refine zw_icmp_ge (tgt := 120) hx hb (by omega) (by decide) dX1_ahead_113 (fun g2 => ?_) (fun g2 => ?_)
    · refine lv_iconst (v := zI 0) hx hb dX1_ahead_120 rfl ?_
      refine lv_goto (tgt := 170) hx hb dX1_ahead_121 (by decide) ?_
      refine lv_istore (lv' := [(10, .int (zI 0)), (0, .ref h0), (1, .int (zI (M : Int))), (2, .int (zI nn)), (3, .int (zI S)), (4, .int (zI fnd)), (5, .int (zI (a : Int))), (6, .int (zI (b : Int))), (7, .int (zI (c3 : Int))), (9, .int (zI ri))]) hx hb dX1_ahead_170 hl (by decide) rfl (fun ls hl => ?_)
      exact kk ls 0 (by omega) (lv_sub hl [1, 2, 3, 4, 5, 6, 7, 8, 9, 0] rfl)
    · refine lv_iconst (v := zI 1) hx hb dX1_ahead_116 rfl ?_
      refine lv_goto (tgt := 170) hx hb dX1_ahead_117 (by decide) ?_
      refine lv_istore (lv' := [(10, .int (zI 1)), (0, .ref h0), (1, .int (zI (M : Int))), (2, .int (zI nn)), (3, .int (zI S)), (4, .int (zI fnd)), (5, .int (zI (a : Int))), (6, .int (zI (b : Int))), (7, .int (zI (c3 : Int))), (9, .int (zI ri))]) hx hb dX1_ahead_170 hl (by decide) rfl (fun ls hl => ?_)
      exact kk ls 1 (by omega) (lv_sub hl [1, 2, 3, 4, 5, 6, 7, 8, 9, 0] rfl)
set_option maxHeartbeats 4000000 in
set_option maxRecDepth 100000 in
theorem ahead_c {p : Program} {l : Launch} {e : Env} {R : Room} {s : State} {m : MethodId} {args : Array Value} {below : List Frame} {meth : Method} {c : Code} {Q : State → Prop} {dC : Nat → ClassId} {dI : Nat → Nat → Nat} {h0 h1 : Nat} {d0 : ClassId} {f : Nat → Int32} {w : Nat → Nat} {M : Nat} {nn S : Int} (hx : p.tables.exec = Jvm.exec) (hb : c.code = cX1_ahead) (hown : s.vm.findClass RX1 = some m.cls) (hts : ∀ w ∈ lw_all, w.before args s = true) (hK : va_K (dC, dI) vwCl [(d0, .int)] s) (hP : va_P (dC, dI) vwCl [(h0, .inr (1, [.ref h1])), (h1, .inl (d0, 4, .inl f))] s.heap) (hw : okw f w) (h : 1 ≤ M ∧ M ≤ 8 ∧ 0 ≤ nn ∧ nn ≤ 1 ∧ 4 ≤ S ∧ S ≤ 32) {f0 : Int} {a b : Nat} (hab : a ≤ 9 ∧ b ≤ 9)
    (kk : ∀ ls : Array Slot, lv_has ls 11 [(0, .ref h0), (1, .int (zI (M : Int))), (2, .int (zI nn)), (3, .int (zI S)), (4, .int (zI (f0 + sumE (fun c3 => rowZ S (M : Int) nn (w 0 : Int) (w 1 : Int) (w 2 : Int) (a : Int) (b : Int) (c3 : Int)) M))), (5, .int (zI (a : Int))), (6, .int (zI (b : Int)))] → W p l e R s m args below meth c s.heap [] 0 0 Q (F0 m 198 ls [])) :
    ∀ (r k : Nat) (x fnd : Int), k + r = M → x = ((k + 1 : Nat) : Int) → fnd = f0 + sumE (fun c3 => rowZ S (M : Int) nn (w 0 : Int) (w 1 : Int) (w 2 : Int) (a : Int) (b : Int) (c3 : Int)) k → ∀ ls : Array Slot, lv_has ls 11 [(0, .ref h0), (1, .int (zI (M : Int))), (2, .int (zI nn)), (3, .int (zI S)), (4, .int (zI fnd)), (5, .int (zI (a : Int))), (6, .int (zI (b : Int))), (7, .int (zI x))] → W p l e R s m args below meth c s.heap [] 0 0 Q (F0 m 29 ls []) := by
  intro r
  induction r with
  | zero =>
    intro k x fnd hk hxe hf ls hl
    have hkM : k = M := by omega
    refine lv_iload hx hb dX1_ahead_29 (lv_at hl 7 rfl) ?_
    refine lv_iload_n hx hb dX1_ahead_31 rfl (lv_at hl 1 rfl) ?_
    refine zw_icmp_gt_t (tgt := 198) hx hb (by omega) (by omega) (by decide) dX1_ahead_32 ?_
    rw [hf, hkM] at hl
    exact kk ls (lv_sub hl [0, 1, 2, 3, 4, 5, 6] rfl)
  | succ r ih =>
    intro k x fnd hk hxe hf ls hl
    subst hxe
    have hk1 : k + 1 ≤ M := by omega
    refine lv_iload hx hb dX1_ahead_29 (lv_at hl 7 rfl) ?_
    refine lv_iload_n hx hb dX1_ahead_31 rfl (lv_at hl 1 rfl) ?_
    refine zw_icmp_gt_f (tgt := 198) hx hb (by omega) (by omega) (by decide) dX1_ahead_32 ?_
    refine ahead_row hx hb hown hts hK hP hw h (by omega) (lv_sub hl [0, 1, 2, 3, 4, 5, 6, 7] rfl) (fun ls ri hri hl => ?_)
    refine ahead_less hx hb hown hts hK hP hw h (by omega) hl (fun ls li hli hl => ?_)
    refine lv_iload hx hb dX1_ahead_172 (lv_at hl 4 rfl) ?_
    refine lv_iload hx hb dX1_ahead_174 (lv_at hl 8 rfl) ?_
    refine zw_if_eq (tgt := 188) hx hb (by omega) (by decide) dX1_ahead_176 (fun g1 => ?_) (fun g1 => ?_)
    · have hz : rowZ S (M : Int) nn (w 0 : Int) (w 1 : Int) (w 2 : Int) (a : Int) (b : Int) ((k + 1 : Nat) : Int) = 0 := by
        unfold rowZ
        rw [if_neg (by omega)]
      refine lv_iconst (v := zI 0) hx hb dX1_ahead_188 rfl ?_
      refine zw_iadd hx hb dX1_ahead_189 ?_
      refine lv_istore (lv' := [(4, .int (zI (fnd + 0))), (0, .ref h0), (1, .int (zI (M : Int))), (2, .int (zI nn)), (3, .int (zI S)), (5, .int (zI (a : Int))), (6, .int (zI (b : Int))), (7, .int (zI ((k + 1 : Nat) : Int))), (9, .int (zI ri)), (10, .int (zI li))]) hx hb dX1_ahead_190 hl (by decide) rfl (fun ls hl => ?_)
      refine lv_iinc (v := zI (((k + 1 : Nat) : Int) + 1)) (lv' := [(7, .int (zI (((k + 1 : Nat) : Int) + 1))), (4, .int (zI (fnd + 0))), (0, .ref h0), (1, .int (zI (M : Int))), (2, .int (zI nn)), (3, .int (zI S)), (5, .int (zI (a : Int))), (6, .int (zI (b : Int))), (9, .int (zI ri)), (10, .int (zI li))]) hx hb dX1_ahead_192 hl (k := 7) rfl (zI_add ((k + 1 : Nat) : Int) 1) (by decide) rfl (fun ls hl => ?_)
      refine lv_goto (tgt := 29) hx hb dX1_ahead_195 (by decide) ?_
      refine ih (k + 1) (((k + 1 : Nat) : Int) + 1) (fnd + 0) (by omega) (by omega) ?_ ls (lv_sub hl [2, 3, 4, 5, 1, 6, 7, 0] rfl)
      have e1 : sumE (fun c3 => rowZ S (M : Int) nn (w 0 : Int) (w 1 : Int) (w 2 : Int) (a : Int) (b : Int) (c3 : Int)) (k + 1) = sumE (fun c3 => rowZ S (M : Int) nn (w 0 : Int) (w 1 : Int) (w 2 : Int) (a : Int) (b : Int) (c3 : Int)) k + rowZ S (M : Int) nn (w 0 : Int) (w 1 : Int) (w 2 : Int) (a : Int) (b : Int) ((k + 1 : Nat) : Int) := rfl
      rw [e1, hf]
      rw [hz]
      omega
    · refine lv_iload hx hb dX1_ahead_179 (lv_at hl 9 rfl) ?_
      refine zw_if_eq (tgt := 188) hx hb (by omega) (by decide) dX1_ahead_181 (fun g2 => ?_) (fun g2 => ?_)
      · have hz : rowZ S (M : Int) nn (w 0 : Int) (w 1 : Int) (w 2 : Int) (a : Int) (b : Int) ((k + 1 : Nat) : Int) = 0 := by
          unfold rowZ
          rw [if_neg (by omega)]
        refine lv_iconst (v := zI 0) hx hb dX1_ahead_188 rfl ?_
        refine zw_iadd hx hb dX1_ahead_189 ?_
        refine lv_istore (lv' := [(4, .int (zI (fnd + 0))), (0, .ref h0), (1, .int (zI (M : Int))), (2, .int (zI nn)), (3, .int (zI S)), (5, .int (zI (a : Int))), (6, .int (zI (b : Int))), (7, .int (zI ((k + 1 : Nat) : Int))), (9, .int (zI ri)), (10, .int (zI li))]) hx hb dX1_ahead_190 hl (by decide) rfl (fun ls hl => ?_)
        refine lv_iinc (v := zI (((k + 1 : Nat) : Int) + 1)) (lv' := [(7, .int (zI (((k + 1 : Nat) : Int) + 1))), (4, .int (zI (fnd + 0))), (0, .ref h0), (1, .int (zI (M : Int))), (2, .int (zI nn)), (3, .int (zI S)), (5, .int (zI (a : Int))), (6, .int (zI (b : Int))), (9, .int (zI ri)), (10, .int (zI li))]) hx hb dX1_ahead_192 hl (k := 7) rfl (zI_add ((k + 1 : Nat) : Int) 1) (by decide) rfl (fun ls hl => ?_)
        refine lv_goto (tgt := 29) hx hb dX1_ahead_195 (by decide) ?_
        refine ih (k + 1) (((k + 1 : Nat) : Int) + 1) (fnd + 0) (by omega) (by omega) ?_ ls (lv_sub hl [2, 3, 4, 5, 1, 6, 7, 0] rfl)
        have e1 : sumE (fun c3 => rowZ S (M : Int) nn (w 0 : Int) (w 1 : Int) (w 2 : Int) (a : Int) (b : Int) (c3 : Int)) (k + 1) = sumE (fun c3 => rowZ S (M : Int) nn (w 0 : Int) (w 1 : Int) (w 2 : Int) (a : Int) (b : Int) (c3 : Int)) k + rowZ S (M : Int) nn (w 0 : Int) (w 1 : Int) (w 2 : Int) (a : Int) (b : Int) ((k + 1 : Nat) : Int) := rfl
        rw [e1, hf]
        rw [hz]
        omega
      · have hz : rowZ S (M : Int) nn (w 0 : Int) (w 1 : Int) (w 2 : Int) (a : Int) (b : Int) ((k + 1 : Nat) : Int) = 1 := by
          unfold rowZ
          rw [if_pos (by omega)]
        refine lv_iconst (v := zI 1) hx hb dX1_ahead_184 rfl ?_
        refine lv_goto (tgt := 189) hx hb dX1_ahead_185 (by decide) ?_
        refine zw_iadd hx hb dX1_ahead_189 ?_
        refine lv_istore (lv' := [(4, .int (zI (fnd + 1))), (0, .ref h0), (1, .int (zI (M : Int))), (2, .int (zI nn)), (3, .int (zI S)), (5, .int (zI (a : Int))), (6, .int (zI (b : Int))), (7, .int (zI ((k + 1 : Nat) : Int))), (9, .int (zI ri)), (10, .int (zI li))]) hx hb dX1_ahead_190 hl (by decide) rfl (fun ls hl => ?_)
        refine lv_iinc (v := zI (((k + 1 : Nat) : Int) + 1)) (lv' := [(7, .int (zI (((k + 1 : Nat) : Int) + 1))), (4, .int (zI (fnd + 1))), (0, .ref h0), (1, .int (zI (M : Int))), (2, .int (zI nn)), (3, .int (zI S)), (5, .int (zI (a : Int))), (6, .int (zI (b : Int))), (9, .int (zI ri)), (10, .int (zI li))]) hx hb dX1_ahead_192 hl (k := 7) rfl (zI_add ((k + 1 : Nat) : Int) 1) (by decide) rfl (fun ls hl => ?_)
        refine lv_goto (tgt := 29) hx hb dX1_ahead_195 (by decide) ?_
        refine ih (k + 1) (((k + 1 : Nat) : Int) + 1) (fnd + 1) (by omega) (by omega) ?_ ls (lv_sub hl [2, 3, 4, 5, 1, 6, 7, 0] rfl)
        have e1 : sumE (fun c3 => rowZ S (M : Int) nn (w 0 : Int) (w 1 : Int) (w 2 : Int) (a : Int) (b : Int) (c3 : Int)) (k + 1) = sumE (fun c3 => rowZ S (M : Int) nn (w 0 : Int) (w 1 : Int) (w 2 : Int) (a : Int) (b : Int) (c3 : Int)) k + rowZ S (M : Int) nn (w 0 : Int) (w 1 : Int) (w 2 : Int) (a : Int) (b : Int) ((k + 1 : Nat) : Int) := rfl
        rw [e1, hf]
        rw [hz]
        omega
set_option maxHeartbeats 4000000 in
set_option maxRecDepth 100000 in
theorem ahead_b {p : Program} {l : Launch} {e : Env} {R : Room} {s : State} {m : MethodId} {args : Array Value} {below : List Frame} {meth : Method} {c : Code} {Q : State → Prop} {dC : Nat → ClassId} {dI : Nat → Nat → Nat} {h0 h1 : Nat} {d0 : ClassId} {f : Nat → Int32} {w : Nat → Nat} {M : Nat} {nn S : Int} (hx : p.tables.exec = Jvm.exec) (hb : c.code = cX1_ahead) (hown : s.vm.findClass RX1 = some m.cls) (hts : ∀ w ∈ lw_all, w.before args s = true) (hK : va_K (dC, dI) vwCl [(d0, .int)] s) (hP : va_P (dC, dI) vwCl [(h0, .inr (1, [.ref h1])), (h1, .inl (d0, 4, .inl f))] s.heap) (hw : okw f w) (h : 1 ≤ M ∧ M ≤ 8 ∧ 0 ≤ nn ∧ nn ≤ 1 ∧ 4 ≤ S ∧ S ≤ 32) {f0 : Int} {a : Nat} (hab : a ≤ 9)
    (kk : ∀ ls : Array Slot, lv_has ls 11 [(0, .ref h0), (1, .int (zI (M : Int))), (2, .int (zI nn)), (3, .int (zI S)), (4, .int (zI (f0 + sumE (fun b => sumE (fun c3 => rowZ S (M : Int) nn (w 0 : Int) (w 1 : Int) (w 2 : Int) (a : Int) (b : Int) (c3 : Int)) M) M))), (5, .int (zI (a : Int)))] → W p l e R s m args below meth c s.heap [] 0 0 Q (F0 m 204 ls [])) :
    ∀ (r k : Nat) (x fnd : Int), k + r = M → x = ((k + 1 : Nat) : Int) → fnd = f0 + sumE (fun b => sumE (fun c3 => rowZ S (M : Int) nn (w 0 : Int) (w 1 : Int) (w 2 : Int) (a : Int) (b : Int) (c3 : Int)) M) k → ∀ ls : Array Slot, lv_has ls 11 [(0, .ref h0), (1, .int (zI (M : Int))), (2, .int (zI nn)), (3, .int (zI S)), (4, .int (zI fnd)), (5, .int (zI (a : Int))), (6, .int (zI x))] → W p l e R s m args below meth c s.heap [] 0 0 Q (F0 m 20 ls []) := by
  intro r
  induction r with
  | zero =>
    intro k x fnd hk hxe hf ls hl
    have hkM : k = M := by omega
    refine lv_iload hx hb dX1_ahead_20 (lv_at hl 6 rfl) ?_
    refine lv_iload_n hx hb dX1_ahead_22 rfl (lv_at hl 1 rfl) ?_
    refine zw_icmp_gt_t (tgt := 204) hx hb (by omega) (by omega) (by decide) dX1_ahead_23 ?_
    rw [hf, hkM] at hl
    exact kk ls (lv_sub hl [0, 1, 2, 3, 4, 5] rfl)
  | succ r ih =>
    intro k x fnd hk hxe hf ls hl
    subst hxe
    have hk1 : k + 1 ≤ M := by omega
    refine lv_iload hx hb dX1_ahead_20 (lv_at hl 6 rfl) ?_
    refine lv_iload_n hx hb dX1_ahead_22 rfl (lv_at hl 1 rfl) ?_
    refine zw_icmp_gt_f (tgt := 204) hx hb (by omega) (by omega) (by decide) dX1_ahead_23 ?_
    refine lv_iconst (v := zI 1) hx hb dX1_ahead_26 rfl ?_
    refine lv_istore (lv' := [(7, .int (zI 1)), (0, .ref h0), (1, .int (zI (M : Int))), (2, .int (zI nn)), (3, .int (zI S)), (4, .int (zI fnd)), (5, .int (zI (a : Int))), (6, .int (zI ((k + 1 : Nat) : Int)))]) hx hb dX1_ahead_27 hl (by decide) rfl (fun ls hl => ?_)
    refine ahead_c hx hb hown hts hK hP hw h (f0 := fnd) (a := a) (b := k + 1) (by omega) (fun ls hl => ?_) M 0 1 fnd (Nat.zero_add M) rfl (Int.add_zero fnd).symm ls (lv_sub hl [1, 2, 3, 4, 5, 6, 7, 0] rfl)
    refine lv_iinc (v := zI (((k + 1 : Nat) : Int) + 1)) (lv' := [(6, .int (zI (((k + 1 : Nat) : Int) + 1))), (0, .ref h0), (1, .int (zI (M : Int))), (2, .int (zI nn)), (3, .int (zI S)), (4, .int (zI (fnd + (sumE (fun c3 => rowZ S (M : Int) nn (w 0 : Int) (w 1 : Int) (w 2 : Int) (a : Int) ((k + 1 : Nat) : Int) (c3 : Int)) M)))), (5, .int (zI (a : Int)))]) hx hb dX1_ahead_198 hl (k := 6) rfl (zI_add ((k + 1 : Nat) : Int) 1) (by decide) rfl (fun ls hl => ?_)
    refine lv_goto (tgt := 20) hx hb dX1_ahead_201 (by decide) ?_
    refine ih (k + 1) (((k + 1 : Nat) : Int) + 1) (fnd + (sumE (fun c3 => rowZ S (M : Int) nn (w 0 : Int) (w 1 : Int) (w 2 : Int) (a : Int) ((k + 1 : Nat) : Int) (c3 : Int)) M)) (by omega) (by omega) ?_ ls (lv_sub hl [1, 2, 3, 4, 5, 6, 0] rfl)
    have e1 : sumE (fun b => sumE (fun c3 => rowZ S (M : Int) nn (w 0 : Int) (w 1 : Int) (w 2 : Int) (a : Int) (b : Int) (c3 : Int)) M) (k + 1) = sumE (fun b => sumE (fun c3 => rowZ S (M : Int) nn (w 0 : Int) (w 1 : Int) (w 2 : Int) (a : Int) (b : Int) (c3 : Int)) M) k + (sumE (fun c3 => rowZ S (M : Int) nn (w 0 : Int) (w 1 : Int) (w 2 : Int) (a : Int) ((k + 1 : Nat) : Int) (c3 : Int)) M) := rfl
    rw [e1, hf]
    exact Int.add_assoc _ _ _
set_option maxHeartbeats 4000000 in
set_option maxRecDepth 100000 in
theorem ahead_a {p : Program} {l : Launch} {e : Env} {R : Room} {s : State} {m : MethodId} {args : Array Value} {below : List Frame} {meth : Method} {c : Code} {Q : State → Prop} {dC : Nat → ClassId} {dI : Nat → Nat → Nat} {h0 h1 : Nat} {d0 : ClassId} {f : Nat → Int32} {w : Nat → Nat} {M : Nat} {nn S : Int} (hx : p.tables.exec = Jvm.exec) (hb : c.code = cX1_ahead) (hown : s.vm.findClass RX1 = some m.cls) (hts : ∀ w ∈ lw_all, w.before args s = true) (hK : va_K (dC, dI) vwCl [(d0, .int)] s) (hP : va_P (dC, dI) vwCl [(h0, .inr (1, [.ref h1])), (h1, .inl (d0, 4, .inl f))] s.heap) (hw : okw f w) (h : 1 ≤ M ∧ M ≤ 8 ∧ 0 ≤ nn ∧ nn ≤ 1 ∧ 4 ≤ S ∧ S ≤ 32) {f0 : Int}
    (kk : ∀ ls : Array Slot, lv_has ls 11 [(0, .ref h0), (1, .int (zI (M : Int))), (2, .int (zI nn)), (3, .int (zI S)), (4, .int (zI (f0 + sumE (fun a => sumE (fun b => sumE (fun c3 => rowZ S (M : Int) nn (w 0 : Int) (w 1 : Int) (w 2 : Int) (a : Int) (b : Int) (c3 : Int)) M) M) M)))] → W p l e R s m args below meth c s.heap [] 0 0 Q (F0 m 210 ls [])) :
    ∀ (r k : Nat) (x fnd : Int), k + r = M → x = ((k + 1 : Nat) : Int) → fnd = f0 + sumE (fun a => sumE (fun b => sumE (fun c3 => rowZ S (M : Int) nn (w 0 : Int) (w 1 : Int) (w 2 : Int) (a : Int) (b : Int) (c3 : Int)) M) M) k → ∀ ls : Array Slot, lv_has ls 11 [(0, .ref h0), (1, .int (zI (M : Int))), (2, .int (zI nn)), (3, .int (zI S)), (4, .int (zI fnd)), (5, .int (zI x))] → W p l e R s m args below meth c s.heap [] 0 0 Q (F0 m 11 ls []) := by
  intro r
  induction r with
  | zero =>
    intro k x fnd hk hxe hf ls hl
    have hkM : k = M := by omega
    refine lv_iload hx hb dX1_ahead_11 (lv_at hl 5 rfl) ?_
    refine lv_iload_n hx hb dX1_ahead_13 rfl (lv_at hl 1 rfl) ?_
    refine zw_icmp_gt_t (tgt := 210) hx hb (by omega) (by omega) (by decide) dX1_ahead_14 ?_
    rw [hf, hkM] at hl
    exact kk ls (lv_sub hl [0, 1, 2, 3, 4] rfl)
  | succ r ih =>
    intro k x fnd hk hxe hf ls hl
    subst hxe
    have hk1 : k + 1 ≤ M := by omega
    refine lv_iload hx hb dX1_ahead_11 (lv_at hl 5 rfl) ?_
    refine lv_iload_n hx hb dX1_ahead_13 rfl (lv_at hl 1 rfl) ?_
    refine zw_icmp_gt_f (tgt := 210) hx hb (by omega) (by omega) (by decide) dX1_ahead_14 ?_
    refine lv_iconst (v := zI 1) hx hb dX1_ahead_17 rfl ?_
    refine lv_istore (lv' := [(6, .int (zI 1)), (0, .ref h0), (1, .int (zI (M : Int))), (2, .int (zI nn)), (3, .int (zI S)), (4, .int (zI fnd)), (5, .int (zI ((k + 1 : Nat) : Int)))]) hx hb dX1_ahead_18 hl (by decide) rfl (fun ls hl => ?_)
    refine ahead_b hx hb hown hts hK hP hw h (f0 := fnd) (a := k + 1) (by omega) (fun ls hl => ?_) M 0 1 fnd (Nat.zero_add M) rfl (Int.add_zero fnd).symm ls (lv_sub hl [1, 2, 3, 4, 5, 6, 0] rfl)
    refine lv_iinc (v := zI (((k + 1 : Nat) : Int) + 1)) (lv' := [(5, .int (zI (((k + 1 : Nat) : Int) + 1))), (0, .ref h0), (1, .int (zI (M : Int))), (2, .int (zI nn)), (3, .int (zI S)), (4, .int (zI (fnd + (sumE (fun b => sumE (fun c3 => rowZ S (M : Int) nn (w 0 : Int) (w 1 : Int) (w 2 : Int) ((k + 1 : Nat) : Int) (b : Int) (c3 : Int)) M) M))))]) hx hb dX1_ahead_204 hl (k := 5) rfl (zI_add ((k + 1 : Nat) : Int) 1) (by decide) rfl (fun ls hl => ?_)
    refine lv_goto (tgt := 11) hx hb dX1_ahead_207 (by decide) ?_
    refine ih (k + 1) (((k + 1 : Nat) : Int) + 1) (fnd + (sumE (fun b => sumE (fun c3 => rowZ S (M : Int) nn (w 0 : Int) (w 1 : Int) (w 2 : Int) ((k + 1 : Nat) : Int) (b : Int) (c3 : Int)) M) M)) (by omega) (by omega) ?_ ls (lv_sub hl [1, 2, 3, 4, 5, 0] rfl)
    have e1 : sumE (fun a => sumE (fun b => sumE (fun c3 => rowZ S (M : Int) nn (w 0 : Int) (w 1 : Int) (w 2 : Int) (a : Int) (b : Int) (c3 : Int)) M) M) (k + 1) = sumE (fun a => sumE (fun b => sumE (fun c3 => rowZ S (M : Int) nn (w 0 : Int) (w 1 : Int) (w 2 : Int) (a : Int) (b : Int) (c3 : Int)) M) M) k + (sumE (fun b => sumE (fun c3 => rowZ S (M : Int) nn (w 0 : Int) (w 1 : Int) (w 2 : Int) ((k + 1 : Nat) : Int) (b : Int) (c3 : Int)) M) M) := rfl
    rw [e1, hf]
    exact Int.add_assoc _ _ _
set_option maxHeartbeats 4000000 in
set_option maxRecDepth 100000 in
/-- ahead(most, narrow) -/
theorem met_X1_ahead (l : Launch) (dC : Nat → ClassId) (dI : Nat → Nat → Nat) (h0 h1 : Nat) (d0 : ClassId) (f : Nat → Int32) (w : Nat → Nat) (hw : okw f w) (M : Nat) (hM : 1 ≤ M ∧ M ≤ 8) (nn : Int) (hnn : 0 ≤ nn ∧ nn ≤ 1) : Met l yX1_ahead wsX1_ahead rmX1_ahead (va_Pc [.ref h0, .int (zI (M : Int)), .int (zI nn)] (fun U => va_P (dC, dI) vwCl [(h0, .inr (1, [.ref h1])), (h1, .inl (d0, 4, .inl f))] U.heap ∧ va_K (dC, dI) vwCl [(d0, .int)] U)) (QcRead (zI (aheadZ (w 0) (w 1) (w 2) (s4 w) M nn))) 0 0 (fun _ => False) := by
  refine Met.ofW (cc := cX1_ahead) (maxL := 11) (ret := (some .int)) (by decide) rfl ?_
  intro p e s m args below meth c s₁ B hml hv
  obtain ⟨rfl, hP, hK⟩ := hv
  have hx := B.exec
  have hb := B.bytes
  have hr := B.returns
  have hts := atoms_spec (ws := wsX1_ahead) B.pre
  have hts : ∀ w ∈ lw_all, w.before _ s = true := fun w h => hts w (List.mem_cons_of_mem _ h)
  have hown : s.vm.findClass RX1 = some m.cls := findClass_of_methodNamed B.named
  have hlocks := B.notSynchronized
  have hl := lv_entry ([.ref h0, .int (zI (M : Int)), .int (zI nn)]) (n := 11) (Nat.le_of_ble_eq_true rfl)
  rw [lg_entry_eq]
  generalize (lg_sl ([.ref h0, .int (zI (M : Int)), .int (zI nn)]) ++ List.replicate (11 - (lg_sl ([.ref h0, .int (zI (M : Int)), .int (zI nn)])).length) Slot.unset).toArray = ls at hl ⊢
  have hl : lv_has ls 11 [(0, .ref h0), (1, .int (zI (M : Int))), (2, .int (zI nn))] := hl
  have hs4 := s4_in hw
  refine lv_aload_n hx hb dX1_ahead_0 rfl (lv_at hl 0 rfl) ?_
  refine zw_callR (W.runV (As := []) (rest := []) ⟨hx, hb, hml, hown, hts⟩ (met_X1_sum l dC dI h0 h1 d0 f w hw) (cwV 0 hts (lw_V q94 q96 qs4 q8 q97) rfl rfl rfl (by decide +kernel) ⟨Nat.le_of_ble_eq_true rfl, Nat.le_of_ble_eq_true rfl⟩) ⟨fun a U g mk q => by obtain ⟨q0, qP, qK⟩ := q; exact ⟨q0, qP, va_K.moved (u := U) (U := U.calling g mk a) (Vm.Alike.refl U.vm) qK⟩, va_recv hK hP (ci := 1) (q0 := 0) rfl rfl, fun U hU hW => ⟨rfl, by rw [hU]; exact hP, va_K.moved hW.alike hK⟩⟩ rfl rfl hl.1 rfl (lv_room (Nat.le_of_ble_eq_true rfl)) dX1_ahead_1 ⟨Nat.zero_le _, Nat.zero_le _⟩) ?_
  refine lv_istore_n (lv' := [(3, .int (zI (s4 w))), (0, .ref h0), (1, .int (zI (M : Int))), (2, .int (zI nn))]) hx hb dX1_ahead_4 rfl hl (by decide) rfl (fun ls hl => ?_)
  refine lv_iconst (v := zI 0) hx hb dX1_ahead_5 rfl ?_
  refine lv_istore (lv' := [(4, .int (zI 0)), (3, .int (zI (s4 w))), (0, .ref h0), (1, .int (zI (M : Int))), (2, .int (zI nn))]) hx hb dX1_ahead_6 hl (by decide) rfl (fun ls hl => ?_)
  refine lv_iconst (v := zI 1) hx hb dX1_ahead_8 rfl ?_
  refine lv_istore (lv' := [(5, .int (zI 1)), (4, .int (zI 0)), (3, .int (zI (s4 w))), (0, .ref h0), (1, .int (zI (M : Int))), (2, .int (zI nn))]) hx hb dX1_ahead_9 hl (by decide) rfl (fun ls hl => ?_)
  refine ahead_a hx hb hown hts hK hP hw (M := M) (nn := nn) (S := s4 w) (by omega) (f0 := 0) (fun ls hl => ?_) M 0 1 0 (Nat.zero_add M) rfl rfl ls (lv_sub hl [3, 4, 5, 2, 1, 0] rfl)
  refine lv_iload hx hb dX1_ahead_210 (lv_at hl 4 rfl) ?_
  exact W.iret hx hb hr (fun t ht _ => ⟨by rw [Int.zero_add]; rfl, ht⟩) (fun _ h => absurd h List.not_mem_nil) dX1_ahead_212
abbrev wsX1_value : List Cond := ws_ yX1_value cX1_value 3 (some .int)
abbrev rmX1_value : Room := { frames := 2, cells := 0, slots := 0, locals := 50 }
set_option maxHeartbeats 4000000 in
set_option maxRecDepth 100000 in
/-- value(most) -/
theorem met_X1_value (l : Launch) (dC : Nat → ClassId) (dI : Nat → Nat → Nat) (h0 h1 : Nat) (d0 : ClassId) (f : Nat → Int32) (w : Nat → Nat) (hw : okw f w) (p0 : Int32) : Met l yX1_value wsX1_value rmX1_value (va_Pc [.ref h0, .int p0] (fun U => va_P (dC, dI) vwCl [(h0, .inr (1, [.ref h1])), (h1, .inl (d0, 4, .inl f))] U.heap ∧ va_K (dC, dI) vwCl [(d0, .int)] U)) (QcRead (zI (valB w (mstF (mxF 1 w 4) (qF p0))))) 0 0 (fun _ => False) := by
  refine Met.ofW (cc := cX1_value) (maxL := 3) (ret := (some .int)) (by decide) rfl ?_
  intro p e s m args below meth c s₁ B hml hv
  obtain ⟨rfl, hP, hK⟩ := hv
  have hx := B.exec
  have hb := B.bytes
  have hr := B.returns
  have hts := atoms_spec (ws := wsX1_value) B.pre
  have hts : ∀ w ∈ lw_all, w.before _ s = true := fun w h => hts w (List.mem_cons_of_mem _ h)
  have hown : s.vm.findClass RX1 = some m.cls := findClass_of_methodNamed B.named
  have hlocks := B.notSynchronized
  have hl := lv_entry ([.ref h0, .int p0]) (n := 3) (Nat.le_of_ble_eq_true rfl)
  rw [lg_entry_eq]
  generalize (lg_sl ([.ref h0, .int p0]) ++ List.replicate (3 - (lg_sl ([.ref h0, .int p0])).length) Slot.unset).toArray = ls at hl ⊢
  have hl : lv_has ls 3 [(0, .ref h0), (1, .int p0)] := hl
  have hmi := mst_in (z := 1) hw (by decide) (qF p0)
  have hms := hmi.2
  have hm1 := hmi.1 0 (by decide)
  have hs4 := s4_in hw
  refine lv_aload_n hx hb dX1_value_0 rfl (lv_at hl 0 rfl) ?_
  refine lv_iload_n hx hb dX1_value_1 rfl (lv_at hl 1 rfl) ?_
  refine zw_callR (W.runV (As := [.int p0]) (rest := []) ⟨hx, hb, hml, hown, hts⟩ (met_X1_most l dC dI h0 h1 d0 f w hw p0) (cwV 1 hts (lw_V q89 q91 qs3 q8 q92) rfl rfl rfl (by decide +kernel) ⟨Nat.le_of_ble_eq_true rfl, Nat.le_of_ble_eq_true rfl⟩) ⟨fun a U g mk q => by obtain ⟨q0, qP, qK⟩ := q; exact ⟨q0, qP, va_K.moved (u := U) (U := U.calling g mk a) (Vm.Alike.refl U.vm) qK⟩, va_recv hK hP (ci := 1) (q0 := 0) rfl rfl, fun U hU hW => ⟨rfl, by rw [hU]; exact hP, va_K.moved hW.alike hK⟩⟩ rfl rfl hl.1 rfl (lv_room (Nat.le_of_ble_eq_true rfl)) dX1_value_2 ⟨Nat.zero_le _, Nat.zero_le _⟩) ?_
  refine lv_istore_n (lv' := [(2, .int (zI (mstF (mxF 1 w 4) (qF p0) : Int))), (0, .ref h0), (1, .int p0)]) hx hb dX1_value_5 rfl hl (by decide) rfl (fun ls hl => ?_)
  refine lv_aload_n hx hb dX1_value_6 rfl (lv_at hl 1 rfl) ?_
  refine zw_callR (W.runV (As := []) (rest := []) ⟨hx, hb, hml, hown, hts⟩ (met_X1_sum l dC dI h0 h1 d0 f w hw) (cwV 0 hts (lw_V q94 q96 qs4 q8 q97) rfl rfl rfl (by decide +kernel) ⟨Nat.le_of_ble_eq_true rfl, Nat.le_of_ble_eq_true rfl⟩) ⟨fun a U g mk q => by obtain ⟨q0, qP, qK⟩ := q; exact ⟨q0, qP, va_K.moved (u := U) (U := U.calling g mk a) (Vm.Alike.refl U.vm) qK⟩, va_recv hK hP (ci := 1) (q0 := 0) rfl rfl, fun U hU hW => ⟨rfl, by rw [hU]; exact hP, va_K.moved hW.alike hK⟩⟩ rfl rfl hl.1 rfl (lv_room (Nat.le_of_ble_eq_true rfl)) dX1_value_7 ⟨Nat.zero_le _, Nat.zero_le _⟩) ?_
  refine lv_iconst (v := zI 2) hx hb dX1_value_10 rfl ?_
  refine lv_iload_n hx hb dX1_value_11 rfl (lv_at hl 0 rfl) ?_
  refine zw_imul hx hb dX1_value_12 ?_
  refine lv_iconst (v := zI 4) hx hb dX1_value_13 rfl ?_
  refine zw_iadd hx hb dX1_value_14 ?_
  refine zw_icmp_ge (tgt := 27) hx hb (by omega) (by decide) dX1_value_15 (fun g1 => ?_) (fun g1 => ?_)
  · have hv : valB w (mstF (mxF 1 w 4) (qF p0)) = -1 := by
      unfold valB
      rw [if_neg (by omega)]
    refine lv_iconst (v := zI (-1)) hx hb dX1_value_27 rfl ?_
    exact W.iret hx hb hr (fun t ht _ => ⟨by rw [hv], ht⟩) (fun _ h => absurd h List.not_mem_nil) dX1_value_28
  · have hv : valB w (mstF (mxF 1 w 4) (qF p0)) = aheadZ (w 0) (w 1) (w 2) (s4 w) (mstF (mxF 1 w 4) (qF p0)) 0 := by
      unfold valB
      rw [if_pos (by omega)]
    refine lv_aload_n hx hb dX1_value_18 rfl (lv_at hl 1 rfl) ?_
    refine lv_iload_n hx hb dX1_value_19 rfl (lv_at hl 0 rfl) ?_
    refine lv_iconst (v := zI 0) hx hb dX1_value_20 rfl ?_
    refine zw_callR (W.runV (As := [.int (zI (mstF (mxF 1 w 4) (qF p0) : Int)), .int (zI 0)]) (rest := []) ⟨hx, hb, hml, hown, hts⟩ (met_X1_ahead l dC dI h0 h1 d0 f w hw (mstF (mxF 1 w 4) (qF p0)) (by omega) 0 (by omega)) (cwV 2 hts (lw_V q98 q100 qs5 q8 q101) rfl rfl rfl (by decide +kernel) ⟨Nat.le_of_ble_eq_true rfl, Nat.le_of_ble_eq_true rfl⟩) ⟨fun a U g mk q => by obtain ⟨q0, qP, qK⟩ := q; exact ⟨q0, qP, va_K.moved (u := U) (U := U.calling g mk a) (Vm.Alike.refl U.vm) qK⟩, va_recv hK hP (ci := 1) (q0 := 0) rfl rfl, fun U hU hW => ⟨rfl, by rw [hU]; exact hP, va_K.moved hW.alike hK⟩⟩ rfl rfl hl.1 rfl (lv_room (Nat.le_of_ble_eq_true rfl)) dX1_value_21 ⟨Nat.zero_le _, Nat.zero_le _⟩) ?_
    refine lv_goto (tgt := 28) hx hb dX1_value_24 (by decide) ?_
    exact W.iret hx hb hr (fun t ht _ => ⟨by rw [hv], ht⟩) (fun _ h => absurd h List.not_mem_nil) dX1_value_28
abbrev wsX1_withNarrow : List Cond := ws_ yX1_withNarrow cX1_withNarrow 7 (some .int)
abbrev rmX1_withNarrow : Room := { frames := 2, cells := 0, slots := 0, locals := 50 }
/-- has one of the first k widths the width 1 -/
def narK (w : Nat → Nat) : Nat → Int
  | 0 => 0
  | k + 1 => if w k = 1 then 1 else narK w k
theorem narK_in (w : Nat → Nat) : ∀ k, narK w k = 0 ∨ narK w k = 1
  | 0 => Or.inl rfl
  | k + 1 => by
    show (if w k = 1 then 1 else narK w k) = 0 ∨ (if w k = 1 then 1 else narK w k) = 1
    by_cases h : w k = 1
    · rw [if_pos h]; exact Or.inr rfl
    · rw [if_neg h]; exact narK_in w k
theorem narK_4 (w : Nat → Nat) : narK w 4 = narI w := by
  have e : narK w 4 = if w 3 = 1 then 1 else if w 2 = 1 then 1 else if w 1 = 1 then 1 else if w 0 = 1 then 1 else 0 := rfl
  rw [e]
  have h := narI_in w
  by_cases h3 : w 3 = 1
  · rw [if_pos h3]; omega
  · rw [if_neg h3]
    by_cases h2 : w 2 = 1
    · rw [if_pos h2]; omega
    · rw [if_neg h2]
      by_cases h1 : w 1 = 1
      · rw [if_pos h1]; omega
      · rw [if_neg h1]
        by_cases h0 : w 0 = 1
        · rw [if_pos h0]; omega
        · rw [if_neg h0]; omega
theorem or_1 {t : Int} (h : t = 0 ∨ t = 1) : zI t ||| zI 1 = zI 1 := by
  rcases h with rfl | rfl <;> decide +kernel
theorem or_0 {t : Int} (h : t = 0 ∨ t = 1) : zI t ||| zI 0 = zI t := by
  rcases h with rfl | rfl <;> decide +kernel
set_option maxHeartbeats 4000000 in
set_option maxRecDepth 100000 in
theorem loop_X1_withNarrow {p : Program} {l : Launch} {e : Env} {R : Room} {s : State} {m : MethodId} {args : Array Value} {below : List Frame} {meth : Method} {c : Code} {Q : State → Prop} {dC : Nat → ClassId} {dI : Nat → Nat → Nat} {h0 h1 : Nat} {d0 : ClassId} {f : Nat → Int32} {w : Nat → Nat} {p0 : Int32} (hx : p.tables.exec = Jvm.exec) (hb : c.code = cX1_withNarrow) (hK : va_K (dC, dI) vwCl [(d0, .int)] s) (hP : va_P (dC, dI) vwCl [(h0, .inr (1, [.ref h1])), (h1, .inl (d0, 4, .inl f))] s.heap) (hw : okw f w)
    (kk : ∀ ls : Array Slot, lv_has ls 7 [(0, .ref h0), (1, .int p0), (2, .int (zI (narI w)))] → W p l e R s m args below meth c s.heap [] 0 0 Q (F0 m 47 ls [])) :
    ∀ (r j : Nat) (i t : Int), j + r = 4 → i = (j : Int) → t = narK w j → ∀ ls : Array Slot, lv_has ls 7 [(0, .ref h0), (1, .int p0), (2, .int (zI t)), (3, .ref h1), (4, .int (zI 4)), (5, .int (zI i))] → W p l e R s m args below meth c s.heap [] 0 0 Q (F0 m 14 ls []) := by
  intro r
  induction r with
  | zero =>
    intro j i t hj hi ht ls hl
    have hj4 : j = 4 := by omega
    refine lv_iload hx hb dX1_withNarrow_14 (lv_at hl 5 rfl) ?_
    refine lv_iload hx hb dX1_withNarrow_16 (lv_at hl 4 rfl) ?_
    refine zw_icmp_ge_t (tgt := 47) hx hb (by omega) (by omega) (by decide) dX1_withNarrow_18 ?_
    rw [ht, hj4, narK_4] at hl
    exact kk ls (lv_sub hl [0, 1, 2] rfl)
  | succ r ih =>
    intro j i t hj hi ht ls hl
    have hwj := hw j (by omega)
    have ht2 : t = 0 ∨ t = 1 := by rw [ht]; exact narK_in w j
    refine lv_iload hx hb dX1_withNarrow_14 (lv_at hl 5 rfl) ?_
    refine lv_iload hx hb dX1_withNarrow_16 (lv_at hl 4 rfl) ?_
    refine zw_icmp_ge_f (tgt := 47) hx hb (by omega) (by omega) (by decide) dX1_withNarrow_18 ?_
    refine lv_aload_n hx hb dX1_withNarrow_21 rfl (lv_at hl 3 rfl) ?_
    refine lv_iload hx hb dX1_withNarrow_22 (lv_at hl 5 rfl) ?_
    refine zw_iald (b := j) hx hb hK hP 1 0 rfl rfl hi ⟨by omega, by decide⟩ hwj.1 dX1_withNarrow_24 ?_
    refine lv_istore (lv' := [(6, .int (zI (w j : Int))), (0, .ref h0), (1, .int p0), (2, .int (zI t)), (3, .ref h1), (4, .int (zI 4)), (5, .int (zI i))]) hx hb dX1_withNarrow_25 hl (by decide) rfl (fun ls hl => ?_)
    refine lv_iload_n hx hb dX1_withNarrow_27 rfl (lv_at hl 3 rfl) ?_
    refine lv_iload hx hb dX1_withNarrow_28 (lv_at hl 0 rfl) ?_
    refine lv_iconst (v := zI 1) hx hb dX1_withNarrow_30 rfl ?_
    refine zw_icmp_ne (tgt := 38) hx hb (by omega) (by decide) dX1_withNarrow_31 (fun g1 => ?_) (fun g1 => ?_)
    · refine lv_iconst (v := zI 0) hx hb dX1_withNarrow_38 rfl ?_
      refine lv_ior hx hb dX1_withNarrow_39 ?_
      refine zw_top (or_0 ht2) ?_
      refine lv_istore_n (lv' := [(2, .int (zI t)), (6, .int (zI (w j : Int))), (0, .ref h0), (1, .int p0), (3, .ref h1), (4, .int (zI 4)), (5, .int (zI i))]) hx hb dX1_withNarrow_40 rfl hl (by decide) rfl (fun ls hl => ?_)
      refine lv_iinc (v := zI (i + 1)) (lv' := [(5, .int (zI (i + 1))), (2, .int (zI t)), (6, .int (zI (w j : Int))), (0, .ref h0), (1, .int p0), (3, .ref h1), (4, .int (zI 4))]) hx hb dX1_withNarrow_41 hl (k := 6) rfl (zI_add i 1) (by decide) rfl (fun ls hl => ?_)
      refine lv_goto (tgt := 14) hx hb dX1_withNarrow_44 (by decide) ?_
      exact ih (j + 1) (i + 1) t (by omega) (by omega) (by show t = if w j = 1 then 1 else narK w j; rw [if_neg (by omega)]; exact ht) ls (lv_sub hl [3, 4, 1, 5, 6, 0] rfl)
    · refine lv_iconst (v := zI 1) hx hb dX1_withNarrow_34 rfl ?_
      refine lv_goto (tgt := 39) hx hb dX1_withNarrow_35 (by decide) ?_
      refine lv_ior hx hb dX1_withNarrow_39 ?_
      refine zw_top (or_1 ht2) ?_
      refine lv_istore_n (lv' := [(2, .int (zI 1)), (6, .int (zI (w j : Int))), (0, .ref h0), (1, .int p0), (3, .ref h1), (4, .int (zI 4)), (5, .int (zI i))]) hx hb dX1_withNarrow_40 rfl hl (by decide) rfl (fun ls hl => ?_)
      refine lv_iinc (v := zI (i + 1)) (lv' := [(5, .int (zI (i + 1))), (2, .int (zI 1)), (6, .int (zI (w j : Int))), (0, .ref h0), (1, .int p0), (3, .ref h1), (4, .int (zI 4))]) hx hb dX1_withNarrow_41 hl (k := 6) rfl (zI_add i 1) (by decide) rfl (fun ls hl => ?_)
      refine lv_goto (tgt := 14) hx hb dX1_withNarrow_44 (by decide) ?_
      exact ih (j + 1) (i + 1) 1 (by omega) (by omega) (by show 1 = if w j = 1 then 1 else narK w j; rw [if_pos (by omega)]) ls (lv_sub hl [3, 4, 1, 5, 6, 0] rfl)
set_option maxHeartbeats 4000000 in
set_option maxRecDepth 100000 in
/-- withNarrow(most) -/
theorem met_X1_withNarrow (l : Launch) (dC : Nat → ClassId) (dI : Nat → Nat → Nat) (h0 h1 : Nat) (d0 : ClassId) (f : Nat → Int32) (w : Nat → Nat) (hw : okw f w) (p0 : Int32) : Met l yX1_withNarrow wsX1_withNarrow rmX1_withNarrow (va_Pc [.ref h0, .int p0] (fun U => va_P (dC, dI) vwCl [(h0, .inr (1, [.ref h1])), (h1, .inl (d0, 4, .inl f))] U.heap ∧ va_K (dC, dI) vwCl [(d0, .int)] U)) (QcRead (zI (narB w (mstF (mxF 1 w 4) (qF p0))))) 0 0 (fun _ => False) := by
  refine Met.ofW (cc := cX1_withNarrow) (maxL := 7) (ret := (some .int)) (by decide) rfl ?_
  intro p e s m args below meth c s₁ B hml hv
  obtain ⟨rfl, hP, hK⟩ := hv
  have hx := B.exec
  have hb := B.bytes
  have hr := B.returns
  have hts := atoms_spec (ws := wsX1_withNarrow) B.pre
  have hts : ∀ w ∈ lw_all, w.before _ s = true := fun w h => hts w (List.mem_cons_of_mem _ h)
  have hown : s.vm.findClass RX1 = some m.cls := findClass_of_methodNamed B.named
  have hlocks := B.notSynchronized
  have hl := lv_entry ([.ref h0, .int p0]) (n := 7) (Nat.le_of_ble_eq_true rfl)
  rw [lg_entry_eq]
  generalize (lg_sl ([.ref h0, .int p0]) ++ List.replicate (7 - (lg_sl ([.ref h0, .int p0])).length) Slot.unset).toArray = ls at hl ⊢
  have hl : lv_has ls 7 [(0, .ref h0), (1, .int p0)] := hl
  have hmi := mst_in (z := 1) hw (by decide) (qF p0)
  have hms := hmi.2
  have hm1 := hmi.1 0 (by decide)
  have hs4 := s4_in hw
  have hnn := narI_in w
  refine lv_iconst (v := zI 0) hx hb dX1_withNarrow_0 rfl ?_
  refine lv_istore_n (lv' := [(2, .int (zI 0)), (0, .ref h0), (1, .int p0)]) hx hb dX1_withNarrow_1 rfl hl (by decide) rfl (fun ls hl => ?_)
  refine lv_aload_n hx hb dX1_withNarrow_2 rfl (lv_at hl 1 rfl) ?_
  refine va_get (D := (dC, dI)) (ci := 1) (v := .ref h1) (C := RX1) (T := TX1) (N := 1) hx hb hts in_X1 hown hK hP 0 rfl rfl 0 (by decide) (hts _ q68) (fun _ h9 => h9) rfl dX1_withNarrow_3 ?_
  refine lv_astore_n (lv' := [(3, .ref h1), (2, .int (zI 0)), (0, .ref h0), (1, .int p0)]) hx hb dX1_withNarrow_6 rfl hl (by decide) rfl (fun ls hl => ?_)
  refine lv_aload_n hx hb dX1_withNarrow_7 rfl (lv_at hl 0 rfl) ?_
  refine va_alen (v := (zI 4)) hx hb hK hP 1 0 rfl rfl rfl dX1_withNarrow_8 ?_
  refine lv_istore (lv' := [(4, .int (zI 4)), (3, .ref h1), (2, .int (zI 0)), (0, .ref h0), (1, .int p0)]) hx hb dX1_withNarrow_9 hl (by decide) rfl (fun ls hl => ?_)
  refine lv_iconst (v := zI 0) hx hb dX1_withNarrow_11 rfl ?_
  refine lv_istore (lv' := [(5, .int (zI 0)), (4, .int (zI 4)), (3, .ref h1), (2, .int (zI 0)), (0, .ref h0), (1, .int p0)]) hx hb dX1_withNarrow_12 hl (by decide) rfl (fun ls hl => ?_)
  refine loop_X1_withNarrow hx hb hK hP hw (p0 := p0) (fun ls hl => ?_) 4 0 0 0 rfl rfl rfl ls (lv_sub hl [4, 5, 3, 2, 1, 0] rfl)
  refine lv_aload_n hx hb dX1_withNarrow_47 rfl (lv_at hl 0 rfl) ?_
  refine lv_iload_n hx hb dX1_withNarrow_48 rfl (lv_at hl 1 rfl) ?_
  refine zw_callR (W.runV (As := [.int p0]) (rest := []) ⟨hx, hb, hml, hown, hts⟩ (met_X1_most l dC dI h0 h1 d0 f w hw p0) (cwV 1 hts (lw_V q89 q91 qs3 q8 q92) rfl rfl rfl (by decide +kernel) ⟨Nat.le_of_ble_eq_true rfl, Nat.le_of_ble_eq_true rfl⟩) ⟨fun a U g mk q => by obtain ⟨q0, qP, qK⟩ := q; exact ⟨q0, qP, va_K.moved (u := U) (U := U.calling g mk a) (Vm.Alike.refl U.vm) qK⟩, va_recv hK hP (ci := 1) (q0 := 0) rfl rfl, fun U hU hW => ⟨rfl, by rw [hU]; exact hP, va_K.moved hW.alike hK⟩⟩ rfl rfl hl.1 rfl (lv_room (Nat.le_of_ble_eq_true rfl)) dX1_withNarrow_49 ⟨Nat.zero_le _, Nat.zero_le _⟩) ?_
  refine lv_istore_n (lv' := [(3, .int (zI (mstF (mxF 1 w 4) (qF p0) : Int))), (0, .ref h0), (1, .int p0), (2, .int (zI (narI w)))]) hx hb dX1_withNarrow_52 rfl hl (by decide) rfl (fun ls hl => ?_)
  refine lv_iload_n hx hb dX1_withNarrow_53 rfl (lv_at hl 3 rfl) ?_
  refine zw_if_eq (tgt := 89) hx hb (by omega) (by decide) dX1_withNarrow_54 (fun g1 => ?_) (fun g1 => ?_)
  · have hv : narB w (mstF (mxF 1 w 4) (qF p0)) = -1 := by
      unfold narB
      rw [if_neg (by omega)]
    refine lv_iconst (v := zI (-1)) hx hb dX1_withNarrow_89 rfl ?_
    exact W.iret hx hb hr (fun t ht _ => ⟨by rw [hv], ht⟩) (fun _ h => absurd h List.not_mem_nil) dX1_withNarrow_90
  · refine lv_aload_n hx hb dX1_withNarrow_57 rfl (lv_at hl 1 rfl) ?_
    refine zw_callR (W.runV (As := []) (rest := []) ⟨hx, hb, hml, hown, hts⟩ (met_X1_sum l dC dI h0 h1 d0 f w hw) (cwV 0 hts (lw_V q94 q96 qs4 q8 q97) rfl rfl rfl (by decide +kernel) ⟨Nat.le_of_ble_eq_true rfl, Nat.le_of_ble_eq_true rfl⟩) ⟨fun a U g mk q => by obtain ⟨q0, qP, qK⟩ := q; exact ⟨q0, qP, va_K.moved (u := U) (U := U.calling g mk a) (Vm.Alike.refl U.vm) qK⟩, va_recv hK hP (ci := 1) (q0 := 0) rfl rfl, fun U hU hW => ⟨rfl, by rw [hU]; exact hP, va_K.moved hW.alike hK⟩⟩ rfl rfl hl.1 rfl (lv_room (Nat.le_of_ble_eq_true rfl)) dX1_withNarrow_58 ⟨Nat.zero_le _, Nat.zero_le _⟩) ?_
    refine lv_iload_n hx hb dX1_withNarrow_61 rfl (lv_at hl 0 rfl) ?_
    refine lv_bipush (v := zI 7) hx hb dX1_withNarrow_62 (by decide +kernel) ?_
    refine zw_iadd hx hb dX1_withNarrow_64 ?_
    refine zw_icmp_ge (tgt := 89) hx hb (by omega) (by decide) dX1_withNarrow_65 (fun g2 => ?_) (fun g2 => ?_)
    · have hv : narB w (mstF (mxF 1 w 4) (qF p0)) = -1 := by
        unfold narB
        rw [if_neg (by omega)]
      refine lv_iconst (v := zI (-1)) hx hb dX1_withNarrow_89 rfl ?_
      exact W.iret hx hb hr (fun t ht _ => ⟨by rw [hv], ht⟩) (fun _ h => absurd h List.not_mem_nil) dX1_withNarrow_90
    · refine lv_aload_n hx hb dX1_withNarrow_68 rfl (lv_at hl 1 rfl) ?_
      refine zw_callR (W.runV (As := []) (rest := []) ⟨hx, hb, hml, hown, hts⟩ (met_X1_sum l dC dI h0 h1 d0 f w hw) (cwV 0 hts (lw_V q94 q96 qs4 q8 q97) rfl rfl rfl (by decide +kernel) ⟨Nat.le_of_ble_eq_true rfl, Nat.le_of_ble_eq_true rfl⟩) ⟨fun a U g mk q => by obtain ⟨q0, qP, qK⟩ := q; exact ⟨q0, qP, va_K.moved (u := U) (U := U.calling g mk a) (Vm.Alike.refl U.vm) qK⟩, va_recv hK hP (ci := 1) (q0 := 0) rfl rfl, fun U hU hW => ⟨rfl, by rw [hU]; exact hP, va_K.moved hW.alike hK⟩⟩ rfl rfl hl.1 rfl (lv_room (Nat.le_of_ble_eq_true rfl)) dX1_withNarrow_69 ⟨Nat.zero_le _, Nat.zero_le _⟩) ?_
      refine lv_iconst (v := zI 2) hx hb dX1_withNarrow_72 rfl ?_
      refine lv_iload_n hx hb dX1_withNarrow_73 rfl (lv_at hl 0 rfl) ?_
      refine zw_imul hx hb dX1_withNarrow_74 ?_
      refine lv_iconst (v := zI 4) hx hb dX1_withNarrow_75 rfl ?_
      refine zw_iadd hx hb dX1_withNarrow_76 ?_
      refine zw_icmp_ge (tgt := 89) hx hb (by omega) (by decide) dX1_withNarrow_77 (fun g3 => ?_) (fun g3 => ?_)
      · have hv : narB w (mstF (mxF 1 w 4) (qF p0)) = -1 := by
          unfold narB
          rw [if_neg (by omega)]
        refine lv_iconst (v := zI (-1)) hx hb dX1_withNarrow_89 rfl ?_
        exact W.iret hx hb hr (fun t ht _ => ⟨by rw [hv], ht⟩) (fun _ h => absurd h List.not_mem_nil) dX1_withNarrow_90
      · have hv : narB w (mstF (mxF 1 w 4) (qF p0)) = aheadZ (w 0) (w 1) (w 2) (s4 w) (mstF (mxF 1 w 4) (qF p0)) 1 := by
          unfold narB
          rw [if_pos (by omega)]
        refine lv_aload_n hx hb dX1_withNarrow_80 rfl (lv_at hl 1 rfl) ?_
        refine lv_iload_n hx hb dX1_withNarrow_81 rfl (lv_at hl 0 rfl) ?_
        refine lv_iconst (v := zI 1) hx hb dX1_withNarrow_82 rfl ?_
        refine zw_callR (W.runV (As := [.int (zI (mstF (mxF 1 w 4) (qF p0) : Int)), .int (zI 1)]) (rest := []) ⟨hx, hb, hml, hown, hts⟩ (met_X1_ahead l dC dI h0 h1 d0 f w hw (mstF (mxF 1 w 4) (qF p0)) (by omega) 1 (by omega)) (cwV 2 hts (lw_V q98 q100 qs5 q8 q101) rfl rfl rfl (by decide +kernel) ⟨Nat.le_of_ble_eq_true rfl, Nat.le_of_ble_eq_true rfl⟩) ⟨fun a U g mk q => by obtain ⟨q0, qP, qK⟩ := q; exact ⟨q0, qP, va_K.moved (u := U) (U := U.calling g mk a) (Vm.Alike.refl U.vm) qK⟩, va_recv hK hP (ci := 1) (q0 := 0) rfl rfl, fun U hU hW => ⟨rfl, by rw [hU]; exact hP, va_K.moved hW.alike hK⟩⟩ rfl rfl hl.1 rfl (lv_room (Nat.le_of_ble_eq_true rfl)) dX1_withNarrow_83 ⟨Nat.zero_le _, Nat.zero_le _⟩) ?_
        refine lv_goto (tgt := 90) hx hb dX1_withNarrow_86 (by decide) ?_
        exact W.iret hx hb hr (fun t ht _ => ⟨by rw [hv], ht⟩) (fun _ h => absurd h List.not_mem_nil) dX1_withNarrow_90
end
section
/-- the widths as a constructor leaves them -/
def initF : Nat → Int32 := upd (upd (upd (upd (fun _ => 0) (0 : Int32).toNatClampNeg 1) (1 : Int32).toNatClampNeg 1) (2 : Int32).toNatClampNeg 1) (3 : Int32).toNatClampNeg 1
theorem initF_ok : okw initF (fun _ => 1) := by
  intro j hj
  have q : j = 0 ∨ j = 1 ∨ j = 2 ∨ j = 3 := by omega
  rcases q with rfl | rfl | rfl | rfl <;> exact ⟨by decide +kernel, by decide, by decide⟩
/-- one width set, all set -/
def setF (f : Nat → Int32) (i v : Int32) : Nat → Int32 := upd f (i &&& 3).toNatClampNeg (1 + (v &&& 7))
def setsF (f : Nat → Int32) (a b c d : Int32) : Nat → Int32 := upd (upd (upd (upd f (0 : Int32).toNatClampNeg (1 + (a &&& 7))) (1 : Int32).toNatClampNeg (1 + (b &&& 7))) (2 : Int32).toNatClampNeg (1 + (c &&& 7))) (3 : Int32).toNatClampNeg (1 + (d &&& 7))
theorem setsF_eq (f : Nat → Int32) (a b c d : Int32) : setF (setF (setF (setF f 0 a) 1 b) 2 c) 3 d = setsF f a b c d := by
  have e0 : ((0 : Int32) &&& 3) = 0 := by decide +kernel
  have e1 : ((1 : Int32) &&& 3) = 1 := by decide +kernel
  have e2 : ((2 : Int32) &&& 3) = 2 := by decide +kernel
  have e3 : ((3 : Int32) &&& 3) = 3 := by decide +kernel
  unfold setF setsF
  rw [e0, e1, e2, e3]
theorem v7_ok (v : Int32) : ∃ k : Nat, 1 + (v &&& 7) = zI (k : Int) ∧ 1 ≤ k ∧ k ≤ 8 := by
  obtain ⟨j, hj, e⟩ := pk_andE v (m := 7) 3 (by decide)
  refine ⟨1 + j, ?_, by omega, by omega⟩
  rw [e, zI_nat, show (1 : Int32) = zI 1 from rfl, zI_add]
  rfl
theorem upd_ok {f : Nat → Int32} {w : Nat → Nat} (hw : okw f w) (k : Nat) (v : Int32) : ∃ w2 : Nat → Nat, okw (upd f k (1 + (v &&& 7))) w2 := by
  obtain ⟨n, e, h1, h2⟩ := v7_ok v
  refine ⟨fun j => if j = k then n else w j, fun j hj => ?_⟩
  by_cases h : j = k
  · subst h
    refine ⟨?_, ?_⟩
    · show (if j = j then 1 + (v &&& 7) else f j) = zI ((if j = j then n else w j : Nat) : Int)
      rw [if_pos rfl, if_pos rfl, e]
    · show 1 ≤ (if j = j then n else w j) ∧ (if j = j then n else w j) ≤ 8
      rw [if_pos rfl]
      exact ⟨h1, h2⟩
  · refine ⟨?_, ?_⟩
    · show (if j = k then 1 + (v &&& 7) else f j) = zI ((if j = k then n else w j : Nat) : Int)
      rw [if_neg h, if_neg h]
      exact (hw j hj).1
    · show 1 ≤ (if j = k then n else w j) ∧ (if j = k then n else w j) ≤ 8
      rw [if_neg h]
      exact (hw j hj).2
theorem setF_ok {f : Nat → Int32} {w : Nat → Nat} (hw : okw f w) (i v : Int32) : ∃ w2 : Nat → Nat, okw (setF f i v) w2 := upd_ok hw _ v
theorem setsF_ok {f : Nat → Int32} {w : Nat → Nat} (hw : okw f w) (a b c d : Int32) : ∃ w2 : Nat → Nat, okw (setsF f a b c d) w2 := by
  obtain ⟨w1, h1⟩ := upd_ok hw (0 : Int32).toNatClampNeg a
  obtain ⟨w2, h2⟩ := upd_ok h1 (1 : Int32).toNatClampNeg b
  obtain ⟨w3, h3⟩ := upd_ok h2 (2 : Int32).toNatClampNeg c
  exact upd_ok h3 (3 : Int32).toNatClampNeg d
/-- the world behind a call that writes -/
abbrev BX0 (dC : Nat → ClassId) (dI : Nat → Nat → Nat) (A : Nat → Prop) (h0 h1 : Nat) (d0 : ClassId) (u : Nat → Int32) (t : State) : Prop := va_P (dC, dI) vwCl [(h0, .inr (0, [.ref h1])), (h1, .inl (d0, 4, .inl u))] t.heap ∧ va_K (dC, dI) vwCl [(d0, .int)] t ∧ va_D A [(h0, .inr (0, [.ref h1])), (h1, .inl (d0, 4, .inl u))]
abbrev BX0_init (dC : Nat → ClassId) (dI : Nat → Nat → Nat) (A : Nat → Prop) (h0 : Nat) (u : Nat → Int32) (t : State) : Prop := ∃ (h1 : Nat) (d0 : ClassId), BX0 dC dI A h0 h1 d0 u t
abbrev wsX0_init : List Cond := ws_ yX0_init cX0_init 1 (none)
abbrev rmX0_init : Room := { frames := 1, cells := 1, slots := 4, locals := 12 }
set_option maxHeartbeats 4000000 in
set_option maxRecDepth 100000 in
/-- the constructor -/
theorem met_X0_init (l : Launch) (dC : Nat → ClassId) (dI : Nat → Nat → Nat) (h0 : Nat) (sz : Nat) : Met l yX0_init wsX0_init rmX0_init (va_Pc [.ref h0] (fun U => U.heap.size = sz ∧ va_P (dC, dI) vwCl [(h0, .inr (0, [.null]))] U.heap ∧ va_K (dC, dI) vwCl [] U ∧ va_D (fun _ => True) [(h0, .inr (0, [.null]))])) (va_Qv (fun u : Nat → Int32 => u = initF) (BX0_init dC dI (va_A [(h0, .inr (0, [.null]))] sz) h0) (va_A [(h0, .inr (0, [.null]))] sz)) 1 4 (va_A [(h0, .inr (0, [.null]))] sz) := by
  refine Met.ofW (cc := cX0_init) (maxL := 1) (ret := none) (by decide) rfl ?_
  intro p e s m args below meth c s₁ B hml hv
  obtain ⟨rfl, hsz, hP, hK, hD0⟩ := hv
  have hx := B.exec
  have hb := B.bytes
  have hr := B.returns
  have hts := atoms_spec (ws := wsX0_init) B.pre
  have hts : ∀ w ∈ lw_all, w.before _ s = true := fun w h => hts w (List.mem_cons_of_mem _ h)
  have hown : s.vm.findClass RX0 = some m.cls := findClass_of_methodNamed B.named
  have hlocks := B.notSynchronized
  have hin : meth.name = "<init>" := (name_of_methodNamed B.named B.method).1
  subst hsz
  have hD := hD0.self (sz := s.heap.size)
  generalize hAe : va_A [(h0, .inr (0, [.null]))] s.heap.size = A at hD ⊢
  have hA : ∀ q : Nat, s.heap.size ≤ q → A q := fun q h => by rw [← hAe]; exact Or.inr h
  have hS : va_S A s.heap s.heap [] := va_S.rf
  have hP : va_P (dC, dI) vwCl [(h0, .inr (0, [.null]))] s.heap := hP
  have hl := lv_entry ([.ref h0]) (n := 1) (Nat.le_of_ble_eq_true rfl)
  rw [lg_entry_eq]
  generalize (lg_sl ([.ref h0]) ++ List.replicate (1 - (lg_sl ([.ref h0])).length) Slot.unset).toArray = ls at hl ⊢
  have hl : lv_has ls 1 [(0, .ref h0)] := hl
  refine lv_aload_n hx hb dX0_init_0 rfl (lv_at hl 0 rfl) ?_
  refine W.objInit hx hb hown (hts _ q15) (hts _ q16) (hts _ q17) rfl (by rw [hml]; exact hl.1) rfl dX0_init_1 (Nat.le_of_ble_eq_true rfl) (Nat.le_of_ble_eq_true rfl) ?_
  refine W.eq (g2 := F0 m 4 ls []) rfl ?_
  refine lv_aload_n hx hb dX0_init_4 rfl (lv_at hl 0 rfl) ?_
  refine lv_iconst (v := 4) hx hb dX0_init_5 (by decide) ?_
  have h_1 : 0 + 1 ≤ (headSpec wsX0_init rmX0_init).room.cells := Nat.le_of_ble_eq_true rfl
  have h_2 : 0 + 4 ≤ (headSpec wsX0_init rmX0_init).room.slots := Nat.le_of_ble_eq_true rfl
  refine va_newa (atype := .int) (ty := .int) (N' := 4) (a0 := (4, .inl (fun _ => 0))) hx hb (hts _ q22) rfl hK hP hD hS hA (fun _ => rfl) (by decide) (by decide +kernel) (by decide +kernel) h_1 h_2 dX0_init_6 (fun q1 cA H hK hP hD hS => ?_)
  have hK : va_K (dC, dI) vwCl [(cA, .int)] s := hK
  have hP : va_P (dC, dI) vwCl [(h0, .inr (0, [.null])), (q1, .inl (cA, 4, .inl (fun _ => 0)))] H := hP
  have hD : va_D A [(h0, .inr (0, [.null])), (q1, .inl (cA, 4, .inl (fun _ => 0)))] := hD
  refine lv_dup hx hb dX0_init_8 rfl ?_
  refine lv_iconst (v := 0) hx hb dX0_init_9 (by decide) ?_
  refine lv_iconst (v := 1) hx hb dX0_init_10 (by decide) ?_
  refine va_iast hx hb hK hP hD hS 1 0 rfl rfl (pk_in 0 4 (by decide)) dX0_init_11 (fun H locs hP hD hS => ?_)
  have hP : va_P (dC, dI) vwCl [(h0, .inr (0, [.null])), (q1, .inl (cA, 4, .inl (upd (fun _ => 0) (0 : Int32).toNatClampNeg 1)))] H := hP
  have hD : va_D A [(h0, .inr (0, [.null])), (q1, .inl (cA, 4, .inl (upd (fun _ => 0) (0 : Int32).toNatClampNeg 1)))] := hD
  refine lv_dup hx hb dX0_init_12 rfl ?_
  refine lv_iconst (v := 1) hx hb dX0_init_13 (by decide) ?_
  refine lv_iconst (v := 1) hx hb dX0_init_14 (by decide) ?_
  refine va_iast hx hb hK hP hD hS 1 0 rfl rfl (pk_in 1 4 (by decide)) dX0_init_15 (fun H locs hP hD hS => ?_)
  have hP : va_P (dC, dI) vwCl [(h0, .inr (0, [.null])), (q1, .inl (cA, 4, .inl (upd (upd (fun _ => 0) (0 : Int32).toNatClampNeg 1) (1 : Int32).toNatClampNeg 1)))] H := hP
  have hD : va_D A [(h0, .inr (0, [.null])), (q1, .inl (cA, 4, .inl (upd (upd (fun _ => 0) (0 : Int32).toNatClampNeg 1) (1 : Int32).toNatClampNeg 1)))] := hD
  refine lv_dup hx hb dX0_init_16 rfl ?_
  refine lv_iconst (v := 2) hx hb dX0_init_17 (by decide) ?_
  refine lv_iconst (v := 1) hx hb dX0_init_18 (by decide) ?_
  refine va_iast hx hb hK hP hD hS 1 0 rfl rfl (pk_in 2 4 (by decide)) dX0_init_19 (fun H locs hP hD hS => ?_)
  have hP : va_P (dC, dI) vwCl [(h0, .inr (0, [.null])), (q1, .inl (cA, 4, .inl (upd (upd (upd (fun _ => 0) (0 : Int32).toNatClampNeg 1) (1 : Int32).toNatClampNeg 1) (2 : Int32).toNatClampNeg 1)))] H := hP
  have hD : va_D A [(h0, .inr (0, [.null])), (q1, .inl (cA, 4, .inl (upd (upd (upd (fun _ => 0) (0 : Int32).toNatClampNeg 1) (1 : Int32).toNatClampNeg 1) (2 : Int32).toNatClampNeg 1)))] := hD
  refine lv_dup hx hb dX0_init_20 rfl ?_
  refine lv_iconst (v := 3) hx hb dX0_init_21 (by decide) ?_
  refine lv_iconst (v := 1) hx hb dX0_init_22 (by decide) ?_
  refine va_iast hx hb hK hP hD hS 1 0 rfl rfl (pk_in 3 4 (by decide)) dX0_init_23 (fun H locs hP hD hS => ?_)
  have hP : va_P (dC, dI) vwCl [(h0, .inr (0, [.null])), (q1, .inl (cA, 4, .inl (upd (upd (upd (upd (fun _ => 0) (0 : Int32).toNatClampNeg 1) (1 : Int32).toNatClampNeg 1) (2 : Int32).toNatClampNeg 1) (3 : Int32).toNatClampNeg 1)))] H := hP
  have hD : va_D A [(h0, .inr (0, [.null])), (q1, .inl (cA, 4, .inl (upd (upd (upd (upd (fun _ => 0) (0 : Int32).toNatClampNeg 1) (1 : Int32).toNatClampNeg 1) (2 : Int32).toNatClampNeg 1) (3 : Int32).toNatClampNeg 1)))] := hD
  refine va_putF (D := (dC, dI)) (ci := 0) (v := .ref q1) (ty := .array .int) (C := RX0) (T := TX0) (N := 1) hx hb hts in_X0 tyX0 tyX0_ok nmX0 hown hK hP hD hS 0 rfl rfl 0 (by decide) (hts _ q18) (fun _ h9 => h9) rfl hin rfl (by decide +kernel) rfl rfl (Nat.le_of_ble_eq_true rfl) dX0_init_24 (fun H locs hP hD hS => ?_)
  have hP : va_P (dC, dI) vwCl [(h0, .inr (0, [.ref q1])), (q1, .inl (cA, 4, .inl initF))] H := hP
  have hD : va_D A [(h0, .inr (0, [.ref q1])), (q1, .inl (cA, 4, .inl initF))] := hD
  refine W.widen (k := 1) (n := 4) (Nat.le_of_ble_eq_true rfl) (Nat.le_of_ble_eq_true rfl) ?_
  exact W.vret hx hb hr (fun t ht hW => ⟨⟨initF, rfl, rfl, q1, cA, by rw [ht]; exact hP, va_K.moved hW.alike hK, hD⟩, hS.F ht⟩) hS.2.2 dX0_init_27
abbrev wsX0_width : List Cond := ws_ yX0_width cX0_width 3 (none)
abbrev rmX0_width : Room := { frames := 0, cells := 0, slots := 0, locals := 0 }
set_option maxHeartbeats 4000000 in
set_option maxRecDepth 100000 in
/-- width(i, v) -/
theorem met_X0_width (l : Launch) (dC : Nat → ClassId) (dI : Nat → Nat → Nat) (h0 h1 : Nat) (d0 : ClassId) (sz : Nat) (f : Nat → Int32) (p0 p1 : Int32) : Met l yX0_width wsX0_width rmX0_width (va_Pc [.ref h0, .int p0, .int p1] (fun U => U.heap.size = sz ∧ va_P (dC, dI) vwCl [(h0, .inr (0, [.ref h1])), (h1, .inl (d0, 4, .inl f))] U.heap ∧ va_K (dC, dI) vwCl [(d0, .int)] U ∧ va_D (fun _ => True) [(h0, .inr (0, [.ref h1])), (h1, .inl (d0, 4, .inl f))])) (va_Qv (fun u : Nat → Int32 => u = setF f p0 p1) (BX0 dC dI (va_A [(h0, .inr (0, [.ref h1])), (h1, .inl (d0, 4, .inl f))] sz) h0 h1 d0) (va_A [(h0, .inr (0, [.ref h1])), (h1, .inl (d0, 4, .inl f))] sz)) 0 0 (va_A [(h0, .inr (0, [.ref h1])), (h1, .inl (d0, 4, .inl f))] sz) := by
  refine Met.ofW (cc := cX0_width) (maxL := 3) (ret := none) (by decide) rfl ?_
  intro p e s m args below meth c s₁ B hml hv
  obtain ⟨rfl, hsz, hP, hK, hD0⟩ := hv
  have hx := B.exec
  have hb := B.bytes
  have hr := B.returns
  have hts := atoms_spec (ws := wsX0_width) B.pre
  have hts : ∀ w ∈ lw_all, w.before _ s = true := fun w h => hts w (List.mem_cons_of_mem _ h)
  have hown : s.vm.findClass RX0 = some m.cls := findClass_of_methodNamed B.named
  have hlocks := B.notSynchronized
  subst hsz
  have hD := hD0.self (sz := s.heap.size)
  generalize hAe : va_A [(h0, .inr (0, [.ref h1])), (h1, .inl (d0, 4, .inl f))] s.heap.size = A at hD ⊢
  have hA : ∀ q : Nat, s.heap.size ≤ q → A q := fun q h => by rw [← hAe]; exact Or.inr h
  have hS : va_S A s.heap s.heap [] := va_S.rf
  have hP : va_P (dC, dI) vwCl [(h0, .inr (0, [.ref h1])), (h1, .inl (d0, 4, .inl f))] s.heap := hP
  have hl := lv_entry ([.ref h0, .int p0, .int p1]) (n := 3) (Nat.le_of_ble_eq_true rfl)
  rw [lg_entry_eq]
  generalize (lg_sl ([.ref h0, .int p0, .int p1]) ++ List.replicate (3 - (lg_sl ([.ref h0, .int p0, .int p1])).length) Slot.unset).toArray = ls at hl ⊢
  have hl : lv_has ls 3 [(0, .ref h0), (1, .int p0), (2, .int p1)] := hl
  refine lv_aload_n hx hb dX0_width_0 rfl (lv_at hl 0 rfl) ?_
  refine va_get (D := (dC, dI)) (ci := 0) (v := .ref h1) (C := RX0) (T := TX0) (N := 1) hx hb hts in_X0 hown hK hP 0 rfl rfl 0 (by decide) (hts _ q18) (fun _ h9 => h9) rfl dX0_width_1 ?_
  refine lv_iload_n hx hb dX0_width_4 rfl (lv_at hl 1 rfl) ?_
  refine lv_iconst (v := 3) hx hb dX0_width_5 (by decide) ?_
  refine lv_iand hx hb dX0_width_6 ?_
  refine lv_iconst (v := 1) hx hb dX0_width_7 (by decide) ?_
  refine lv_iload_n hx hb dX0_width_8 rfl (lv_at hl 2 rfl) ?_
  refine lv_bipush (v := 7) hx hb dX0_width_9 (by decide) ?_
  refine lv_iand hx hb dX0_width_11 ?_
  refine lv_iadd hx hb dX0_width_12 ?_
  refine va_iast hx hb hK hP hD hS 1 0 rfl rfl (pk_andIn p0 2 (by decide) (by decide)) dX0_width_13 (fun H locs hP hD hS => ?_)
  have hP : va_P (dC, dI) vwCl [(h0, .inr (0, [.ref h1])), (h1, .inl (d0, 4, .inl (setF f p0 p1)))] H := hP
  have hD : va_D A [(h0, .inr (0, [.ref h1])), (h1, .inl (d0, 4, .inl (setF f p0 p1)))] := hD
  exact W.vret hx hb hr (fun t ht hW => ⟨⟨setF f p0 p1, rfl, rfl, by rw [ht]; exact hP, va_K.moved hW.alike hK, hD⟩, hS.F ht⟩) hS.2.2 dX0_width_14
abbrev wsX0_widths : List Cond := ws_ yX0_widths cX0_widths 5 (none)
abbrev rmX0_widths : Room := { frames := 0, cells := 0, slots := 0, locals := 0 }
set_option maxHeartbeats 4000000 in
set_option maxRecDepth 100000 in
/-- widths(a, b, c, d) -/
theorem met_X0_widths (l : Launch) (dC : Nat → ClassId) (dI : Nat → Nat → Nat) (h0 h1 : Nat) (d0 : ClassId) (sz : Nat) (f : Nat → Int32) (p0 p1 p2 p3 : Int32) : Met l yX0_widths wsX0_widths rmX0_widths (va_Pc [.ref h0, .int p0, .int p1, .int p2, .int p3] (fun U => U.heap.size = sz ∧ va_P (dC, dI) vwCl [(h0, .inr (0, [.ref h1])), (h1, .inl (d0, 4, .inl f))] U.heap ∧ va_K (dC, dI) vwCl [(d0, .int)] U ∧ va_D (fun _ => True) [(h0, .inr (0, [.ref h1])), (h1, .inl (d0, 4, .inl f))])) (va_Qv (fun u : Nat → Int32 => u = setsF f p0 p1 p2 p3) (BX0 dC dI (va_A [(h0, .inr (0, [.ref h1])), (h1, .inl (d0, 4, .inl f))] sz) h0 h1 d0) (va_A [(h0, .inr (0, [.ref h1])), (h1, .inl (d0, 4, .inl f))] sz)) 0 0 (va_A [(h0, .inr (0, [.ref h1])), (h1, .inl (d0, 4, .inl f))] sz) := by
  refine Met.ofW (cc := cX0_widths) (maxL := 5) (ret := none) (by decide) rfl ?_
  intro p e s m args below meth c s₁ B hml hv
  obtain ⟨rfl, hsz, hP, hK, hD0⟩ := hv
  have hx := B.exec
  have hb := B.bytes
  have hr := B.returns
  have hts := atoms_spec (ws := wsX0_widths) B.pre
  have hts : ∀ w ∈ lw_all, w.before _ s = true := fun w h => hts w (List.mem_cons_of_mem _ h)
  have hown : s.vm.findClass RX0 = some m.cls := findClass_of_methodNamed B.named
  have hlocks := B.notSynchronized
  subst hsz
  have hD := hD0.self (sz := s.heap.size)
  generalize hAe : va_A [(h0, .inr (0, [.ref h1])), (h1, .inl (d0, 4, .inl f))] s.heap.size = A at hD ⊢
  have hA : ∀ q : Nat, s.heap.size ≤ q → A q := fun q h => by rw [← hAe]; exact Or.inr h
  have hS : va_S A s.heap s.heap [] := va_S.rf
  have hP : va_P (dC, dI) vwCl [(h0, .inr (0, [.ref h1])), (h1, .inl (d0, 4, .inl f))] s.heap := hP
  have hl := lv_entry ([.ref h0, .int p0, .int p1, .int p2, .int p3]) (n := 5) (Nat.le_of_ble_eq_true rfl)
  rw [lg_entry_eq]
  generalize (lg_sl ([.ref h0, .int p0, .int p1, .int p2, .int p3]) ++ List.replicate (5 - (lg_sl ([.ref h0, .int p0, .int p1, .int p2, .int p3])).length) Slot.unset).toArray = ls at hl ⊢
  have hl : lv_has ls 5 [(0, .ref h0), (1, .int p0), (2, .int p1), (3, .int p2), (4, .int p3)] := hl
  refine lv_aload_n hx hb dX0_widths_0 rfl (lv_at hl 0 rfl) ?_
  refine va_get (D := (dC, dI)) (ci := 0) (v := .ref h1) (C := RX0) (T := TX0) (N := 1) hx hb hts in_X0 hown hK hP 0 rfl rfl 0 (by decide) (hts _ q18) (fun _ h9 => h9) rfl dX0_widths_1 ?_
  refine lv_iconst (v := 0) hx hb dX0_widths_4 (by decide) ?_
  refine lv_iconst (v := 1) hx hb dX0_widths_5 (by decide) ?_
  refine lv_iload_n hx hb dX0_widths_6 rfl (lv_at hl 1 rfl) ?_
  refine lv_bipush (v := 7) hx hb dX0_widths_7 (by decide) ?_
  refine lv_iand hx hb dX0_widths_9 ?_
  refine lv_iadd hx hb dX0_widths_10 ?_
  refine va_iast hx hb hK hP hD hS 1 0 rfl rfl (pk_in 0 4 (by decide)) dX0_widths_11 (fun H locs hP hD hS => ?_)
  have hP : va_P (dC, dI) vwCl [(h0, .inr (0, [.ref h1])), (h1, .inl (d0, 4, .inl (upd f (0 : Int32).toNatClampNeg (1 + (p0 &&& 7)))))] H := hP
  have hD : va_D A [(h0, .inr (0, [.ref h1])), (h1, .inl (d0, 4, .inl (upd f (0 : Int32).toNatClampNeg (1 + (p0 &&& 7)))))] := hD
  refine lv_aload_n hx hb dX0_widths_12 rfl (lv_at hl 0 rfl) ?_
  refine va_get (D := (dC, dI)) (ci := 0) (v := .ref h1) (C := RX0) (T := TX0) (N := 1) hx hb hts in_X0 hown hK hP 0 rfl rfl 0 (by decide) (hts _ q18) (fun _ h9 => h9) rfl dX0_widths_13 ?_
  refine lv_iconst (v := 1) hx hb dX0_widths_16 (by decide) ?_
  refine lv_iconst (v := 1) hx hb dX0_widths_17 (by decide) ?_
  refine lv_iload_n hx hb dX0_widths_18 rfl (lv_at hl 2 rfl) ?_
  refine lv_bipush (v := 7) hx hb dX0_widths_19 (by decide) ?_
  refine lv_iand hx hb dX0_widths_21 ?_
  refine lv_iadd hx hb dX0_widths_22 ?_
  refine va_iast hx hb hK hP hD hS 1 0 rfl rfl (pk_in 1 4 (by decide)) dX0_widths_23 (fun H locs hP hD hS => ?_)
  have hP : va_P (dC, dI) vwCl [(h0, .inr (0, [.ref h1])), (h1, .inl (d0, 4, .inl (upd (upd f (0 : Int32).toNatClampNeg (1 + (p0 &&& 7))) (1 : Int32).toNatClampNeg (1 + (p1 &&& 7)))))] H := hP
  have hD : va_D A [(h0, .inr (0, [.ref h1])), (h1, .inl (d0, 4, .inl (upd (upd f (0 : Int32).toNatClampNeg (1 + (p0 &&& 7))) (1 : Int32).toNatClampNeg (1 + (p1 &&& 7)))))] := hD
  refine lv_aload_n hx hb dX0_widths_24 rfl (lv_at hl 0 rfl) ?_
  refine va_get (D := (dC, dI)) (ci := 0) (v := .ref h1) (C := RX0) (T := TX0) (N := 1) hx hb hts in_X0 hown hK hP 0 rfl rfl 0 (by decide) (hts _ q18) (fun _ h9 => h9) rfl dX0_widths_25 ?_
  refine lv_iconst (v := 2) hx hb dX0_widths_28 (by decide) ?_
  refine lv_iconst (v := 1) hx hb dX0_widths_29 (by decide) ?_
  refine lv_iload_n hx hb dX0_widths_30 rfl (lv_at hl 3 rfl) ?_
  refine lv_bipush (v := 7) hx hb dX0_widths_31 (by decide) ?_
  refine lv_iand hx hb dX0_widths_33 ?_
  refine lv_iadd hx hb dX0_widths_34 ?_
  refine va_iast hx hb hK hP hD hS 1 0 rfl rfl (pk_in 2 4 (by decide)) dX0_widths_35 (fun H locs hP hD hS => ?_)
  have hP : va_P (dC, dI) vwCl [(h0, .inr (0, [.ref h1])), (h1, .inl (d0, 4, .inl (upd (upd (upd f (0 : Int32).toNatClampNeg (1 + (p0 &&& 7))) (1 : Int32).toNatClampNeg (1 + (p1 &&& 7))) (2 : Int32).toNatClampNeg (1 + (p2 &&& 7)))))] H := hP
  have hD : va_D A [(h0, .inr (0, [.ref h1])), (h1, .inl (d0, 4, .inl (upd (upd (upd f (0 : Int32).toNatClampNeg (1 + (p0 &&& 7))) (1 : Int32).toNatClampNeg (1 + (p1 &&& 7))) (2 : Int32).toNatClampNeg (1 + (p2 &&& 7)))))] := hD
  refine lv_aload_n hx hb dX0_widths_36 rfl (lv_at hl 0 rfl) ?_
  refine va_get (D := (dC, dI)) (ci := 0) (v := .ref h1) (C := RX0) (T := TX0) (N := 1) hx hb hts in_X0 hown hK hP 0 rfl rfl 0 (by decide) (hts _ q18) (fun _ h9 => h9) rfl dX0_widths_37 ?_
  refine lv_iconst (v := 3) hx hb dX0_widths_40 (by decide) ?_
  refine lv_iconst (v := 1) hx hb dX0_widths_41 (by decide) ?_
  refine lv_iload hx hb dX0_widths_42 (lv_at hl 4 rfl) ?_
  refine lv_bipush (v := 7) hx hb dX0_widths_44 (by decide) ?_
  refine lv_iand hx hb dX0_widths_46 ?_
  refine lv_iadd hx hb dX0_widths_47 ?_
  refine va_iast hx hb hK hP hD hS 1 0 rfl rfl (pk_in 3 4 (by decide)) dX0_widths_48 (fun H locs hP hD hS => ?_)
  have hP : va_P (dC, dI) vwCl [(h0, .inr (0, [.ref h1])), (h1, .inl (d0, 4, .inl (upd (upd (upd (upd f (0 : Int32).toNatClampNeg (1 + (p0 &&& 7))) (1 : Int32).toNatClampNeg (1 + (p1 &&& 7))) (2 : Int32).toNatClampNeg (1 + (p2 &&& 7))) (3 : Int32).toNatClampNeg (1 + (p3 &&& 7)))))] H := hP
  have hD : va_D A [(h0, .inr (0, [.ref h1])), (h1, .inl (d0, 4, .inl (upd (upd (upd (upd f (0 : Int32).toNatClampNeg (1 + (p0 &&& 7))) (1 : Int32).toNatClampNeg (1 + (p1 &&& 7))) (2 : Int32).toNatClampNeg (1 + (p2 &&& 7))) (3 : Int32).toNatClampNeg (1 + (p3 &&& 7)))))] := hD
  exact W.vret hx hb hr (fun t ht hW => ⟨⟨setsF f p0 p1 p2 p3, rfl, rfl, by rw [ht]; exact hP, va_K.moved hW.alike hK, hD⟩, hS.F ht⟩) hS.2.2 dX0_widths_49
/-- the world behind a call that writes -/
abbrev BX1 (dC : Nat → ClassId) (dI : Nat → Nat → Nat) (A : Nat → Prop) (h0 h1 : Nat) (d0 : ClassId) (u : Nat → Int32) (t : State) : Prop := va_P (dC, dI) vwCl [(h0, .inr (1, [.ref h1])), (h1, .inl (d0, 4, .inl u))] t.heap ∧ va_K (dC, dI) vwCl [(d0, .int)] t ∧ va_D A [(h0, .inr (1, [.ref h1])), (h1, .inl (d0, 4, .inl u))]
abbrev BX1_init (dC : Nat → ClassId) (dI : Nat → Nat → Nat) (A : Nat → Prop) (h0 : Nat) (u : Nat → Int32) (t : State) : Prop := ∃ (h1 : Nat) (d0 : ClassId), BX1 dC dI A h0 h1 d0 u t
abbrev wsX1_init : List Cond := ws_ yX1_init cX1_init 1 (none)
abbrev rmX1_init : Room := { frames := 1, cells := 1, slots := 4, locals := 12 }
set_option maxHeartbeats 4000000 in
set_option maxRecDepth 100000 in
/-- the constructor -/
theorem met_X1_init (l : Launch) (dC : Nat → ClassId) (dI : Nat → Nat → Nat) (h0 : Nat) (sz : Nat) : Met l yX1_init wsX1_init rmX1_init (va_Pc [.ref h0] (fun U => U.heap.size = sz ∧ va_P (dC, dI) vwCl [(h0, .inr (1, [.null]))] U.heap ∧ va_K (dC, dI) vwCl [] U ∧ va_D (fun _ => True) [(h0, .inr (1, [.null]))])) (va_Qv (fun u : Nat → Int32 => u = initF) (BX1_init dC dI (va_A [(h0, .inr (1, [.null]))] sz) h0) (va_A [(h0, .inr (1, [.null]))] sz)) 1 4 (va_A [(h0, .inr (1, [.null]))] sz) := by
  refine Met.ofW (cc := cX1_init) (maxL := 1) (ret := none) (by decide) rfl ?_
  intro p e s m args below meth c s₁ B hml hv
  obtain ⟨rfl, hsz, hP, hK, hD0⟩ := hv
  have hx := B.exec
  have hb := B.bytes
  have hr := B.returns
  have hts := atoms_spec (ws := wsX1_init) B.pre
  have hts : ∀ w ∈ lw_all, w.before _ s = true := fun w h => hts w (List.mem_cons_of_mem _ h)
  have hown : s.vm.findClass RX1 = some m.cls := findClass_of_methodNamed B.named
  have hlocks := B.notSynchronized
  have hin : meth.name = "<init>" := (name_of_methodNamed B.named B.method).1
  subst hsz
  have hD := hD0.self (sz := s.heap.size)
  generalize hAe : va_A [(h0, .inr (1, [.null]))] s.heap.size = A at hD ⊢
  have hA : ∀ q : Nat, s.heap.size ≤ q → A q := fun q h => by rw [← hAe]; exact Or.inr h
  have hS : va_S A s.heap s.heap [] := va_S.rf
  have hP : va_P (dC, dI) vwCl [(h0, .inr (1, [.null]))] s.heap := hP
  have hl := lv_entry ([.ref h0]) (n := 1) (Nat.le_of_ble_eq_true rfl)
  rw [lg_entry_eq]
  generalize (lg_sl ([.ref h0]) ++ List.replicate (1 - (lg_sl ([.ref h0])).length) Slot.unset).toArray = ls at hl ⊢
  have hl : lv_has ls 1 [(0, .ref h0)] := hl
  refine lv_aload_n hx hb dX1_init_0 rfl (lv_at hl 0 rfl) ?_
  refine W.objInit hx hb hown (hts _ q67) (hts _ q16) (hts _ q17) rfl (by rw [hml]; exact hl.1) rfl dX1_init_1 (Nat.le_of_ble_eq_true rfl) (Nat.le_of_ble_eq_true rfl) ?_
  refine W.eq (g2 := F0 m 4 ls []) rfl ?_
  refine lv_aload_n hx hb dX1_init_4 rfl (lv_at hl 0 rfl) ?_
  refine lv_iconst (v := 4) hx hb dX1_init_5 (by decide) ?_
  have h_1 : 0 + 1 ≤ (headSpec wsX1_init rmX1_init).room.cells := Nat.le_of_ble_eq_true rfl
  have h_2 : 0 + 4 ≤ (headSpec wsX1_init rmX1_init).room.slots := Nat.le_of_ble_eq_true rfl
  refine va_newa (atype := .int) (ty := .int) (N' := 4) (a0 := (4, .inl (fun _ => 0))) hx hb (hts _ q22) rfl hK hP hD hS hA (fun _ => rfl) (by decide) (by decide +kernel) (by decide +kernel) h_1 h_2 dX1_init_6 (fun q1 cA H hK hP hD hS => ?_)
  have hK : va_K (dC, dI) vwCl [(cA, .int)] s := hK
  have hP : va_P (dC, dI) vwCl [(h0, .inr (1, [.null])), (q1, .inl (cA, 4, .inl (fun _ => 0)))] H := hP
  have hD : va_D A [(h0, .inr (1, [.null])), (q1, .inl (cA, 4, .inl (fun _ => 0)))] := hD
  refine lv_dup hx hb dX1_init_8 rfl ?_
  refine lv_iconst (v := 0) hx hb dX1_init_9 (by decide) ?_
  refine lv_iconst (v := 1) hx hb dX1_init_10 (by decide) ?_
  refine va_iast hx hb hK hP hD hS 1 0 rfl rfl (pk_in 0 4 (by decide)) dX1_init_11 (fun H locs hP hD hS => ?_)
  have hP : va_P (dC, dI) vwCl [(h0, .inr (1, [.null])), (q1, .inl (cA, 4, .inl (upd (fun _ => 0) (0 : Int32).toNatClampNeg 1)))] H := hP
  have hD : va_D A [(h0, .inr (1, [.null])), (q1, .inl (cA, 4, .inl (upd (fun _ => 0) (0 : Int32).toNatClampNeg 1)))] := hD
  refine lv_dup hx hb dX1_init_12 rfl ?_
  refine lv_iconst (v := 1) hx hb dX1_init_13 (by decide) ?_
  refine lv_iconst (v := 1) hx hb dX1_init_14 (by decide) ?_
  refine va_iast hx hb hK hP hD hS 1 0 rfl rfl (pk_in 1 4 (by decide)) dX1_init_15 (fun H locs hP hD hS => ?_)
  have hP : va_P (dC, dI) vwCl [(h0, .inr (1, [.null])), (q1, .inl (cA, 4, .inl (upd (upd (fun _ => 0) (0 : Int32).toNatClampNeg 1) (1 : Int32).toNatClampNeg 1)))] H := hP
  have hD : va_D A [(h0, .inr (1, [.null])), (q1, .inl (cA, 4, .inl (upd (upd (fun _ => 0) (0 : Int32).toNatClampNeg 1) (1 : Int32).toNatClampNeg 1)))] := hD
  refine lv_dup hx hb dX1_init_16 rfl ?_
  refine lv_iconst (v := 2) hx hb dX1_init_17 (by decide) ?_
  refine lv_iconst (v := 1) hx hb dX1_init_18 (by decide) ?_
  refine va_iast hx hb hK hP hD hS 1 0 rfl rfl (pk_in 2 4 (by decide)) dX1_init_19 (fun H locs hP hD hS => ?_)
  have hP : va_P (dC, dI) vwCl [(h0, .inr (1, [.null])), (q1, .inl (cA, 4, .inl (upd (upd (upd (fun _ => 0) (0 : Int32).toNatClampNeg 1) (1 : Int32).toNatClampNeg 1) (2 : Int32).toNatClampNeg 1)))] H := hP
  have hD : va_D A [(h0, .inr (1, [.null])), (q1, .inl (cA, 4, .inl (upd (upd (upd (fun _ => 0) (0 : Int32).toNatClampNeg 1) (1 : Int32).toNatClampNeg 1) (2 : Int32).toNatClampNeg 1)))] := hD
  refine lv_dup hx hb dX1_init_20 rfl ?_
  refine lv_iconst (v := 3) hx hb dX1_init_21 (by decide) ?_
  refine lv_iconst (v := 1) hx hb dX1_init_22 (by decide) ?_
  refine va_iast hx hb hK hP hD hS 1 0 rfl rfl (pk_in 3 4 (by decide)) dX1_init_23 (fun H locs hP hD hS => ?_)
  have hP : va_P (dC, dI) vwCl [(h0, .inr (1, [.null])), (q1, .inl (cA, 4, .inl (upd (upd (upd (upd (fun _ => 0) (0 : Int32).toNatClampNeg 1) (1 : Int32).toNatClampNeg 1) (2 : Int32).toNatClampNeg 1) (3 : Int32).toNatClampNeg 1)))] H := hP
  have hD : va_D A [(h0, .inr (1, [.null])), (q1, .inl (cA, 4, .inl (upd (upd (upd (upd (fun _ => 0) (0 : Int32).toNatClampNeg 1) (1 : Int32).toNatClampNeg 1) (2 : Int32).toNatClampNeg 1) (3 : Int32).toNatClampNeg 1)))] := hD
  refine va_putF (D := (dC, dI)) (ci := 1) (v := .ref q1) (ty := .array .int) (C := RX1) (T := TX1) (N := 1) hx hb hts in_X1 tyX1 tyX1_ok nmX1 hown hK hP hD hS 0 rfl rfl 0 (by decide) (hts _ q68) (fun _ h9 => h9) rfl hin rfl (by decide +kernel) rfl rfl (Nat.le_of_ble_eq_true rfl) dX1_init_24 (fun H locs hP hD hS => ?_)
  have hP : va_P (dC, dI) vwCl [(h0, .inr (1, [.ref q1])), (q1, .inl (cA, 4, .inl initF))] H := hP
  have hD : va_D A [(h0, .inr (1, [.ref q1])), (q1, .inl (cA, 4, .inl initF))] := hD
  refine W.widen (k := 1) (n := 4) (Nat.le_of_ble_eq_true rfl) (Nat.le_of_ble_eq_true rfl) ?_
  exact W.vret hx hb hr (fun t ht hW => ⟨⟨initF, rfl, rfl, q1, cA, by rw [ht]; exact hP, va_K.moved hW.alike hK, hD⟩, hS.F ht⟩) hS.2.2 dX1_init_27
abbrev wsX1_width : List Cond := ws_ yX1_width cX1_width 3 (none)
abbrev rmX1_width : Room := { frames := 0, cells := 0, slots := 0, locals := 0 }
set_option maxHeartbeats 4000000 in
set_option maxRecDepth 100000 in
/-- width(i, v) -/
theorem met_X1_width (l : Launch) (dC : Nat → ClassId) (dI : Nat → Nat → Nat) (h0 h1 : Nat) (d0 : ClassId) (sz : Nat) (f : Nat → Int32) (p0 p1 : Int32) : Met l yX1_width wsX1_width rmX1_width (va_Pc [.ref h0, .int p0, .int p1] (fun U => U.heap.size = sz ∧ va_P (dC, dI) vwCl [(h0, .inr (1, [.ref h1])), (h1, .inl (d0, 4, .inl f))] U.heap ∧ va_K (dC, dI) vwCl [(d0, .int)] U ∧ va_D (fun _ => True) [(h0, .inr (1, [.ref h1])), (h1, .inl (d0, 4, .inl f))])) (va_Qv (fun u : Nat → Int32 => u = setF f p0 p1) (BX1 dC dI (va_A [(h0, .inr (1, [.ref h1])), (h1, .inl (d0, 4, .inl f))] sz) h0 h1 d0) (va_A [(h0, .inr (1, [.ref h1])), (h1, .inl (d0, 4, .inl f))] sz)) 0 0 (va_A [(h0, .inr (1, [.ref h1])), (h1, .inl (d0, 4, .inl f))] sz) := by
  refine Met.ofW (cc := cX1_width) (maxL := 3) (ret := none) (by decide) rfl ?_
  intro p e s m args below meth c s₁ B hml hv
  obtain ⟨rfl, hsz, hP, hK, hD0⟩ := hv
  have hx := B.exec
  have hb := B.bytes
  have hr := B.returns
  have hts := atoms_spec (ws := wsX1_width) B.pre
  have hts : ∀ w ∈ lw_all, w.before _ s = true := fun w h => hts w (List.mem_cons_of_mem _ h)
  have hown : s.vm.findClass RX1 = some m.cls := findClass_of_methodNamed B.named
  have hlocks := B.notSynchronized
  subst hsz
  have hD := hD0.self (sz := s.heap.size)
  generalize hAe : va_A [(h0, .inr (1, [.ref h1])), (h1, .inl (d0, 4, .inl f))] s.heap.size = A at hD ⊢
  have hA : ∀ q : Nat, s.heap.size ≤ q → A q := fun q h => by rw [← hAe]; exact Or.inr h
  have hS : va_S A s.heap s.heap [] := va_S.rf
  have hP : va_P (dC, dI) vwCl [(h0, .inr (1, [.ref h1])), (h1, .inl (d0, 4, .inl f))] s.heap := hP
  have hl := lv_entry ([.ref h0, .int p0, .int p1]) (n := 3) (Nat.le_of_ble_eq_true rfl)
  rw [lg_entry_eq]
  generalize (lg_sl ([.ref h0, .int p0, .int p1]) ++ List.replicate (3 - (lg_sl ([.ref h0, .int p0, .int p1])).length) Slot.unset).toArray = ls at hl ⊢
  have hl : lv_has ls 3 [(0, .ref h0), (1, .int p0), (2, .int p1)] := hl
  refine lv_aload_n hx hb dX1_width_0 rfl (lv_at hl 0 rfl) ?_
  refine va_get (D := (dC, dI)) (ci := 1) (v := .ref h1) (C := RX1) (T := TX1) (N := 1) hx hb hts in_X1 hown hK hP 0 rfl rfl 0 (by decide) (hts _ q68) (fun _ h9 => h9) rfl dX1_width_1 ?_
  refine lv_iload_n hx hb dX1_width_4 rfl (lv_at hl 1 rfl) ?_
  refine lv_iconst (v := 3) hx hb dX1_width_5 (by decide) ?_
  refine lv_iand hx hb dX1_width_6 ?_
  refine lv_iconst (v := 1) hx hb dX1_width_7 (by decide) ?_
  refine lv_iload_n hx hb dX1_width_8 rfl (lv_at hl 2 rfl) ?_
  refine lv_bipush (v := 7) hx hb dX1_width_9 (by decide) ?_
  refine lv_iand hx hb dX1_width_11 ?_
  refine lv_iadd hx hb dX1_width_12 ?_
  refine va_iast hx hb hK hP hD hS 1 0 rfl rfl (pk_andIn p0 2 (by decide) (by decide)) dX1_width_13 (fun H locs hP hD hS => ?_)
  have hP : va_P (dC, dI) vwCl [(h0, .inr (1, [.ref h1])), (h1, .inl (d0, 4, .inl (setF f p0 p1)))] H := hP
  have hD : va_D A [(h0, .inr (1, [.ref h1])), (h1, .inl (d0, 4, .inl (setF f p0 p1)))] := hD
  exact W.vret hx hb hr (fun t ht hW => ⟨⟨setF f p0 p1, rfl, rfl, by rw [ht]; exact hP, va_K.moved hW.alike hK, hD⟩, hS.F ht⟩) hS.2.2 dX1_width_14
abbrev wsX1_widths : List Cond := ws_ yX1_widths cX1_widths 5 (none)
abbrev rmX1_widths : Room := { frames := 1, cells := 0, slots := 0, locals := 22 }
set_option maxHeartbeats 4000000 in
set_option maxRecDepth 100000 in
/-- widths(a, b, c, d) -/
theorem met_X1_widths (l : Launch) (dC : Nat → ClassId) (dI : Nat → Nat → Nat) (h0 h1 : Nat) (d0 : ClassId) (sz : Nat) (f : Nat → Int32) (p0 p1 p2 p3 : Int32) : Met l yX1_widths wsX1_widths rmX1_widths (va_Pc [.ref h0, .int p0, .int p1, .int p2, .int p3] (fun U => U.heap.size = sz ∧ va_P (dC, dI) vwCl [(h0, .inr (1, [.ref h1])), (h1, .inl (d0, 4, .inl f))] U.heap ∧ va_K (dC, dI) vwCl [(d0, .int)] U ∧ va_D (fun _ => True) [(h0, .inr (1, [.ref h1])), (h1, .inl (d0, 4, .inl f))])) (va_Qv (fun u : Nat → Int32 => u = setsF f p0 p1 p2 p3) (BX1 dC dI (va_A [(h0, .inr (1, [.ref h1])), (h1, .inl (d0, 4, .inl f))] sz) h0 h1 d0) (va_A [(h0, .inr (1, [.ref h1])), (h1, .inl (d0, 4, .inl f))] sz)) 0 0 (va_A [(h0, .inr (1, [.ref h1])), (h1, .inl (d0, 4, .inl f))] sz) := by
  refine Met.ofW (cc := cX1_widths) (maxL := 5) (ret := none) (by decide) rfl ?_
  intro p e s m args below meth c s₁ B hml hv
  obtain ⟨rfl, hsz, hP, hK, hD0⟩ := hv
  have hx := B.exec
  have hb := B.bytes
  have hr := B.returns
  have hts := atoms_spec (ws := wsX1_widths) B.pre
  have hts : ∀ w ∈ lw_all, w.before _ s = true := fun w h => hts w (List.mem_cons_of_mem _ h)
  have hown : s.vm.findClass RX1 = some m.cls := findClass_of_methodNamed B.named
  have hlocks := B.notSynchronized
  subst hsz
  have hD := hD0.self (sz := s.heap.size)
  generalize hAe : va_A [(h0, .inr (1, [.ref h1])), (h1, .inl (d0, 4, .inl f))] s.heap.size = A at hD ⊢
  have hA : ∀ q : Nat, s.heap.size ≤ q → A q := fun q h => by rw [← hAe]; exact Or.inr h
  have hS : va_S A s.heap s.heap [] := va_S.rf
  have hP : va_P (dC, dI) vwCl [(h0, .inr (1, [.ref h1])), (h1, .inl (d0, 4, .inl f))] s.heap := hP
  have hl := lv_entry ([.ref h0, .int p0, .int p1, .int p2, .int p3]) (n := 5) (Nat.le_of_ble_eq_true rfl)
  rw [lg_entry_eq]
  generalize (lg_sl ([.ref h0, .int p0, .int p1, .int p2, .int p3]) ++ List.replicate (5 - (lg_sl ([.ref h0, .int p0, .int p1, .int p2, .int p3])).length) Slot.unset).toArray = ls at hl ⊢
  have hl : lv_has ls 5 [(0, .ref h0), (1, .int p0), (2, .int p1), (3, .int p2), (4, .int p3)] := hl
  refine lv_aload_n hx hb dX1_widths_0 rfl (lv_at hl 0 rfl) ?_
  refine lv_iconst (v := 0) hx hb dX1_widths_1 (by decide) ?_
  refine lv_iload_n hx hb dX1_widths_2 rfl (lv_at hl 1 rfl) ?_
  have hPc := hP.sub (ws' := [(h0, .inr (1, [.ref h1])), (h1, .inl (d0, 4, .inl f))]) [0, 1] rfl
  have hDc := hD.sub (ws' := [(h0, .inr (1, [.ref h1])), (h1, .inl (d0, 4, .inl f))]) [0, 1] (by decide) rfl
  have hKc := hK.sub (tys' := [(d0, .int)]) [0] rfl
  have hFc := va_free (wc := [(h0, .inr (1, [.ref h1])), (h1, .inl (d0, 4, .inl f))]) hD hS hA [0, 1] rfl
  refine va_callv (va_runV (As := [.int 0, .int p0]) (rest := []) ⟨hx, hb, hml, hown, hts⟩ (met_X1_width l dC dI h0 h1 d0 s.heap.size f 0 p0) (cwV 2 hts (lw_V q80 q73 q74 q8 q75) rfl rfl rfl (by decide +kernel) ⟨Nat.le_of_ble_eq_true rfl, Nat.le_of_ble_eq_true rfl⟩) ⟨fun a U g mk q => by obtain ⟨q0, q1, qP, qK, qD⟩ := q; exact ⟨q0, q1, qP, va_K.moved (u := U) (U := U.calling g mk a) (Vm.Alike.refl U.vm) qK, qD⟩, va_recv hKc hPc (ci := 1) (q0 := 0) rfl rfl, fun U hU hW => ⟨rfl, by rw [hU], by rw [hU]; exact hPc, va_K.moved hW.alike hKc, hDc.weaken (fun _ _ _ _ => trivial)⟩⟩ rfl rfl hl.1 rfl (lv_room (Nat.le_of_ble_eq_true rfl)) dX1_widths_3 ⟨Nat.zero_le _, Nat.zero_le _⟩) hS (fun q _ h => hFc q h) hFc (fun u t H1 locs ht hvm hw1 hB hz1 hk1 hS => ?_)
  have hw1 : u = setF f 0 p0 := hw1
  subst hw1
  obtain ⟨hP1, hK1, hD1⟩ := hB
  rw [ht] at hP1
  have hK1 := va_K.moved hvm.symm hK1
  obtain ⟨hP, hD⟩ := va_join (wr := []) (w1 := [(h0, .inr (1, [.ref h1])), (h1, .inl (d0, 4, .inl (setF f 0 p0)))]) hP hD [0, 1] [] rfl rfl (by decide) (by decide) hk1 hFc hP1 hD1
  generalize H1 = H at hP hS ⊢
  have hP : va_P (dC, dI) vwCl [(h0, .inr (1, [.ref h1])), (h1, .inl (d0, 4, .inl (setF f 0 p0)))] H := hP
  have hD : va_D A [(h0, .inr (1, [.ref h1])), (h1, .inl (d0, 4, .inl (setF f 0 p0)))] := hD
  have hK : va_K (dC, dI) vwCl [(d0, .int)] s := hK1
  refine lv_aload_n hx hb dX1_widths_6 rfl (lv_at hl 0 rfl) ?_
  refine lv_iconst (v := 1) hx hb dX1_widths_7 (by decide) ?_
  refine lv_iload_n hx hb dX1_widths_8 rfl (lv_at hl 2 rfl) ?_
  have hPc := hP.sub (ws' := [(h0, .inr (1, [.ref h1])), (h1, .inl (d0, 4, .inl (setF f 0 p0)))]) [0, 1] rfl
  have hDc := hD.sub (ws' := [(h0, .inr (1, [.ref h1])), (h1, .inl (d0, 4, .inl (setF f 0 p0)))]) [0, 1] (by decide) rfl
  have hKc := hK.sub (tys' := [(d0, .int)]) [0] rfl
  have hFc := va_free (wc := [(h0, .inr (1, [.ref h1])), (h1, .inl (d0, 4, .inl (setF f 0 p0)))]) hD hS hA [0, 1] rfl
  refine va_callv (va_runV (As := [.int 1, .int p1]) (rest := []) ⟨hx, hb, hml, hown, hts⟩ (met_X1_width l dC dI h0 h1 d0 H.size (setF f 0 p0) 1 p1) (cwV 2 hts (lw_V q80 q73 q74 q8 q75) rfl rfl rfl (by decide +kernel) ⟨Nat.le_of_ble_eq_true rfl, Nat.le_of_ble_eq_true rfl⟩) ⟨fun a U g mk q => by obtain ⟨q0, q1, qP, qK, qD⟩ := q; exact ⟨q0, q1, qP, va_K.moved (u := U) (U := U.calling g mk a) (Vm.Alike.refl U.vm) qK, qD⟩, va_recv hKc hPc (ci := 1) (q0 := 0) rfl rfl, fun U hU hW => ⟨rfl, by rw [hU], by rw [hU]; exact hPc, va_K.moved hW.alike hKc, hDc.weaken (fun _ _ _ _ => trivial)⟩⟩ rfl rfl hl.1 rfl (lv_room (Nat.le_of_ble_eq_true rfl)) dX1_widths_9 ⟨Nat.zero_le _, Nat.zero_le _⟩) hS (fun q _ h => hFc q h) hFc (fun u t H1 locs ht hvm hw1 hB hz1 hk1 hS => ?_)
  have hw1 : u = setF (setF f 0 p0) 1 p1 := hw1
  subst hw1
  obtain ⟨hP1, hK1, hD1⟩ := hB
  rw [ht] at hP1
  have hK1 := va_K.moved hvm.symm hK1
  obtain ⟨hP, hD⟩ := va_join (wr := []) (w1 := [(h0, .inr (1, [.ref h1])), (h1, .inl (d0, 4, .inl (setF (setF f 0 p0) 1 p1)))]) hP hD [0, 1] [] rfl rfl (by decide) (by decide) hk1 hFc hP1 hD1
  generalize H1 = H at hP hS ⊢
  have hP : va_P (dC, dI) vwCl [(h0, .inr (1, [.ref h1])), (h1, .inl (d0, 4, .inl (setF (setF f 0 p0) 1 p1)))] H := hP
  have hD : va_D A [(h0, .inr (1, [.ref h1])), (h1, .inl (d0, 4, .inl (setF (setF f 0 p0) 1 p1)))] := hD
  have hK : va_K (dC, dI) vwCl [(d0, .int)] s := hK1
  refine lv_aload_n hx hb dX1_widths_12 rfl (lv_at hl 0 rfl) ?_
  refine lv_iconst (v := 2) hx hb dX1_widths_13 (by decide) ?_
  refine lv_iload_n hx hb dX1_widths_14 rfl (lv_at hl 3 rfl) ?_
  have hPc := hP.sub (ws' := [(h0, .inr (1, [.ref h1])), (h1, .inl (d0, 4, .inl (setF (setF f 0 p0) 1 p1)))]) [0, 1] rfl
  have hDc := hD.sub (ws' := [(h0, .inr (1, [.ref h1])), (h1, .inl (d0, 4, .inl (setF (setF f 0 p0) 1 p1)))]) [0, 1] (by decide) rfl
  have hKc := hK.sub (tys' := [(d0, .int)]) [0] rfl
  have hFc := va_free (wc := [(h0, .inr (1, [.ref h1])), (h1, .inl (d0, 4, .inl (setF (setF f 0 p0) 1 p1)))]) hD hS hA [0, 1] rfl
  refine va_callv (va_runV (As := [.int 2, .int p2]) (rest := []) ⟨hx, hb, hml, hown, hts⟩ (met_X1_width l dC dI h0 h1 d0 H.size (setF (setF f 0 p0) 1 p1) 2 p2) (cwV 2 hts (lw_V q80 q73 q74 q8 q75) rfl rfl rfl (by decide +kernel) ⟨Nat.le_of_ble_eq_true rfl, Nat.le_of_ble_eq_true rfl⟩) ⟨fun a U g mk q => by obtain ⟨q0, q1, qP, qK, qD⟩ := q; exact ⟨q0, q1, qP, va_K.moved (u := U) (U := U.calling g mk a) (Vm.Alike.refl U.vm) qK, qD⟩, va_recv hKc hPc (ci := 1) (q0 := 0) rfl rfl, fun U hU hW => ⟨rfl, by rw [hU], by rw [hU]; exact hPc, va_K.moved hW.alike hKc, hDc.weaken (fun _ _ _ _ => trivial)⟩⟩ rfl rfl hl.1 rfl (lv_room (Nat.le_of_ble_eq_true rfl)) dX1_widths_15 ⟨Nat.zero_le _, Nat.zero_le _⟩) hS (fun q _ h => hFc q h) hFc (fun u t H1 locs ht hvm hw1 hB hz1 hk1 hS => ?_)
  have hw1 : u = setF (setF (setF f 0 p0) 1 p1) 2 p2 := hw1
  subst hw1
  obtain ⟨hP1, hK1, hD1⟩ := hB
  rw [ht] at hP1
  have hK1 := va_K.moved hvm.symm hK1
  obtain ⟨hP, hD⟩ := va_join (wr := []) (w1 := [(h0, .inr (1, [.ref h1])), (h1, .inl (d0, 4, .inl (setF (setF (setF f 0 p0) 1 p1) 2 p2)))]) hP hD [0, 1] [] rfl rfl (by decide) (by decide) hk1 hFc hP1 hD1
  generalize H1 = H at hP hS ⊢
  have hP : va_P (dC, dI) vwCl [(h0, .inr (1, [.ref h1])), (h1, .inl (d0, 4, .inl (setF (setF (setF f 0 p0) 1 p1) 2 p2)))] H := hP
  have hD : va_D A [(h0, .inr (1, [.ref h1])), (h1, .inl (d0, 4, .inl (setF (setF (setF f 0 p0) 1 p1) 2 p2)))] := hD
  have hK : va_K (dC, dI) vwCl [(d0, .int)] s := hK1
  refine lv_aload_n hx hb dX1_widths_18 rfl (lv_at hl 0 rfl) ?_
  refine lv_iconst (v := 3) hx hb dX1_widths_19 (by decide) ?_
  refine lv_iload hx hb dX1_widths_20 (lv_at hl 4 rfl) ?_
  have hPc := hP.sub (ws' := [(h0, .inr (1, [.ref h1])), (h1, .inl (d0, 4, .inl (setF (setF (setF f 0 p0) 1 p1) 2 p2)))]) [0, 1] rfl
  have hDc := hD.sub (ws' := [(h0, .inr (1, [.ref h1])), (h1, .inl (d0, 4, .inl (setF (setF (setF f 0 p0) 1 p1) 2 p2)))]) [0, 1] (by decide) rfl
  have hKc := hK.sub (tys' := [(d0, .int)]) [0] rfl
  have hFc := va_free (wc := [(h0, .inr (1, [.ref h1])), (h1, .inl (d0, 4, .inl (setF (setF (setF f 0 p0) 1 p1) 2 p2)))]) hD hS hA [0, 1] rfl
  refine va_callv (va_runV (As := [.int 3, .int p3]) (rest := []) ⟨hx, hb, hml, hown, hts⟩ (met_X1_width l dC dI h0 h1 d0 H.size (setF (setF (setF f 0 p0) 1 p1) 2 p2) 3 p3) (cwV 2 hts (lw_V q80 q73 q74 q8 q75) rfl rfl rfl (by decide +kernel) ⟨Nat.le_of_ble_eq_true rfl, Nat.le_of_ble_eq_true rfl⟩) ⟨fun a U g mk q => by obtain ⟨q0, q1, qP, qK, qD⟩ := q; exact ⟨q0, q1, qP, va_K.moved (u := U) (U := U.calling g mk a) (Vm.Alike.refl U.vm) qK, qD⟩, va_recv hKc hPc (ci := 1) (q0 := 0) rfl rfl, fun U hU hW => ⟨rfl, by rw [hU], by rw [hU]; exact hPc, va_K.moved hW.alike hKc, hDc.weaken (fun _ _ _ _ => trivial)⟩⟩ rfl rfl hl.1 rfl (lv_room (Nat.le_of_ble_eq_true rfl)) dX1_widths_22 ⟨Nat.zero_le _, Nat.zero_le _⟩) hS (fun q _ h => hFc q h) hFc (fun u t H1 locs ht hvm hw1 hB hz1 hk1 hS => ?_)
  have hw1 : u = setF (setF (setF (setF f 0 p0) 1 p1) 2 p2) 3 p3 := hw1
  subst hw1
  obtain ⟨hP1, hK1, hD1⟩ := hB
  rw [ht] at hP1
  have hK1 := va_K.moved hvm.symm hK1
  obtain ⟨hP, hD⟩ := va_join (wr := []) (w1 := [(h0, .inr (1, [.ref h1])), (h1, .inl (d0, 4, .inl (setF (setF (setF (setF f 0 p0) 1 p1) 2 p2) 3 p3)))]) hP hD [0, 1] [] rfl rfl (by decide) (by decide) hk1 hFc hP1 hD1
  generalize H1 = H at hP hS ⊢
  have hP : va_P (dC, dI) vwCl [(h0, .inr (1, [.ref h1])), (h1, .inl (d0, 4, .inl (setF (setF (setF (setF f 0 p0) 1 p1) 2 p2) 3 p3)))] H := hP
  have hD : va_D A [(h0, .inr (1, [.ref h1])), (h1, .inl (d0, 4, .inl (setF (setF (setF (setF f 0 p0) 1 p1) 2 p2) 3 p3)))] := hD
  have hK : va_K (dC, dI) vwCl [(d0, .int)] s := hK1
  rw [setsF_eq] at hP hD
  exact W.vret hx hb hr (fun t ht hW => ⟨⟨setsF f p0 p1 p2 p3, rfl, rfl, by rw [ht]; exact hP, va_K.moved hW.alike hK, hD⟩, hS.F ht⟩) hS.2.2 dX1_widths_25
end
section

/-! THE CLAIM OUT OF ONE WALK OF THE LAW'S BODY. Your part is whole_start (and what it stands on); all else here is the same for every law, but numbers. -/
def R_law : String := "BarValueDeskLaw"
def lw_P (b : Addr) (xs : List Int32) (args : Array Value) (s : State) : Prop := args = #[.ref b] ∧ s.IntsAt b xs ∧ xs.length ≤ 288 ∧ (Jvm.Cond.and given_1 narrow_1).before args s = true
def lw_Q (_ : Array Value) (s : State) (o : Outcome) (t : State) : Prop := o = .returned (some (.int 1)) ∧ Framed s o t [] 600000 7290000
def lw_Z (below : List Frame) (a : Array Value) (s : State) : State → Prop := fun t => ∃ o, t.status = .running ∧ Ended t below o ∧ lw_Q a s o t
/-- the law's own end, with 1 on the stack, nothing written that was there before, its room as the claim has it -/
theorem lw_ret {p : Program} {l : Launch} {e : Env} {s : State} {m : MethodId} {below : List Frame} {meth : Method} {c : Code} {b : Nat} (hx : p.tables.exec = Jvm.exec) (hb : c.code = code) (hr : meth.sig.returnType = ret) (hlocks : meth.locks = false) {pc : Nat} {H : Heap} {ls : Array Slot} (hdg : decode code pc = .ok (.ireturn, 1)) : W p l e room_1 s m #[Value.ref b] below meth c H [] 600000 7290000 (lw_Z below #[Value.ref b] s) (F0 m pc ls [.int 1]) := by
  intro T hT X
  obtain ⟨fs, hret, hrun, hended, hW, hframe⟩ := X.leave (v := some (.int 1)) (hlocks := hlocks) (fun h => by rw [hr] at h; cases h)
  have hmeth' : T.vm.method? m = some meth := X.method'
  refine ⟨T.setFrames fs, ?_, .returned (some (.int 1)), hrun, hended, rfl, ⟨_, rfl⟩, hW, hframe⟩
  jvm_step X.here [X.here.top, hx, hb, hdg, hmeth', hr, ret, narrow_b1]
  (try refine ⟨rfl, ?_⟩); (try refine ⟨rfl, ?_⟩)
  first | (intro acts; rw [hret _ acts rfl rfl rfl]) | rw [hret _ _ rfl rfl rfl]
  exact Steps.refl _
/-- what holds at the law's entry: the machine, the code, the tables' words (any of lw_tbl by 'hts w (by decide +kernel)'), the script of L ints xs at the cell b, what the Statement gives of the start (any of its parts by flat_of_before) -/
def lw_At (p : Program) (s : State) (m : MethodId) (meth : Method) (c : Code) (b L : Nat) (xs : Nat → Int32) : Prop :=
  p.tables.exec = Jvm.exec ∧ c.code = code ∧ meth.sig.returnType = ret ∧ c.maxLocals = 4 ∧ s.vm.findClass R_law = some m.cls ∧ (∀ w ∈ lw_tbl, w.before #[Value.ref b] s = true) ∧ va_X b L xs s s.heap ∧ b < s.heap.size ∧ meth.locks = false ∧ (Jvm.Cond.and given_1 narrow_1).before #[Value.ref b] s = true
/-- the two values are one -/
theorem value_same {f : Nat → Int32} {w : Nat → Nat} (hw : okw f w) (q : Nat) : zI (valA w (mstF (mxF 0 w 4) q)) = zI (valB w (mstF (mxF 1 w 4) q)) := by
  have e := mxF_10 (w := w) (hw 0 (by decide)).2.1 3
  have h := mst_in (z := 0) hw (by decide) q
  rw [e, val_eq h.1 h.2]
theorem narrow_same {f : Nat → Int32} {w : Nat → Nat} (hw : okw f w) (q : Nat) : zI (narA w (mstF (mxF 0 w 4) q)) = zI (narB w (mstF (mxF 1 w 4) q)) := by
  have e := mxF_10 (w := w) (hw 0 (by decide)).2.1 3
  have h := mst_in (z := 0) hw (by decide) q
  rw [e, nar_eq h.1 h.2]
set_option maxHeartbeats 4000000 in
set_option maxRecDepth 100000 in
/-- THE LAW'S LOOP: at its head, with i ints read, both hold the same widths -/
theorem law_loop {p : Program} {l : Launch} {e : Env} {s : State} {m : MethodId} {below : List Frame} {meth : Method} {c : Code} {dC : Nat → ClassId} {dI : Nat → Nat → Nat} {b L : Nat} {xs : Nat → Int32} (hL : L ≤ 288) (C0 : lw_At p s m meth c b L xs) {qa qb qc qd : Nat} {d0 d1 : ClassId} (hK : va_K (dC, dI) vwCl [(d0, .int), (d1, .int)] s) :
    ∀ (n i : Nat) (x3 : Int), i ≤ L → L + 1 ≤ i + n → x3 = (i : Int) → ∀ (f : Nat → Int32) (w : Nat → Nat), okw f w → ∀ (H : Heap) (locs : List Loc), va_P (dC, dI) vwCl [(qa, .inr (0, [.ref qb])), (qb, .inl (d0, 4, .inl f)), (qc, .inr (1, [.ref qd])), (qd, .inl (d1, 4, .inl f))] H → va_D (fun q : Nat => s.heap.size ≤ q) [(qa, .inr (0, [.ref qb])), (qb, .inl (d0, 4, .inl f)), (qc, .inr (1, [.ref qd])), (qd, .inl (d1, 4, .inl f))] → va_S (fun q : Nat => s.heap.size ≤ q) s.heap H locs → ∀ ls : Array Slot, lv_has ls 4 [(0, .ref b), (1, .ref qa), (2, .ref qc), (3, .int (zI x3))] → W p l e room_1 s m #[Value.ref b] below meth c H locs 4 10 (lw_Z below #[Value.ref b] s) (F0 m 18 ls []) := by
  obtain ⟨hx, hb, hr, hml, hown, hts0, hX, hbl, hlocks, hgv⟩ := C0
  have hts : ∀ w ∈ lw_all, w.before #[Value.ref b] s = true := fun w h => hts0 w (lw_all_tbl h)
  have hA : ∀ q : Nat, s.heap.size ≤ q → (fun q : Nat => s.heap.size ≤ q) q := fun _ h => h
  have hbA : ¬ (fun q : Nat => s.heap.size ≤ q) b := Nat.not_le.mpr hbl
  have hKa := hK.sub (tys' := [(d0, .int)]) [0] rfl
  have hKb := hK.sub (tys' := [(d1, .int)]) [1] rfl
  intro n
  induction n with
  | zero =>
    intro i x3 h1 h2
    exact absurd h2 (by omega)
  | succ n ih =>
    intro i x3 hi hin hx3 f w hw H locs hP hD hS ls hl
    subst hx3
    refine lv_iload_n hx hb dL_law_18 rfl (lv_at hl 3 rfl) ?_
    refine lv_aload_n hx hb dL_law_19 rfl (lv_at hl 0 rfl) ?_
    refine va_slen hx hb hX hbl hbA hS dL_law_20 ?_
    refine zw_top (zI_nat L) ?_
    refine lv_bipush (v := zI 6) hx hb dL_law_21 (by decide +kernel) ?_
    refine zw_isub hx hb dL_law_23 ?_
    refine zw_icmp_gt (tgt := 225) hx hb (by omega) (by decide) dL_law_24 (fun c1 => ?_) (fun c1 => ?_)
    · refine lv_iconst (v := 1) hx hb dL_law_225 (by decide) ?_
      refine va_forget (fun q hq => hS.2.2 q hq) ?_
      refine W.widen (k := 600000) (n := 7290000) (Nat.le_of_ble_eq_true rfl) (Nat.le_of_ble_eq_true rfl) ?_
      exact lw_ret hx hb hr hlocks dL_law_226
    · have k219 : ∀ (f : Nat → Int32) (w : Nat → Nat), okw f w → ∀ (H : Heap) (locs : List Loc), va_P (dC, dI) vwCl [(qa, .inr (0, [.ref qb])), (qb, .inl (d0, 4, .inl f)), (qc, .inr (1, [.ref qd])), (qd, .inl (d1, 4, .inl f))] H → va_D (fun q : Nat => s.heap.size ≤ q) [(qa, .inr (0, [.ref qb])), (qb, .inl (d0, 4, .inl f)), (qc, .inr (1, [.ref qd])), (qd, .inl (d1, 4, .inl f))] → va_S (fun q : Nat => s.heap.size ≤ q) s.heap H locs → ∀ ls : Array Slot, lv_has ls 4 [(0, .ref b), (1, .ref qa), (2, .ref qc), (3, .int (zI (i : Int)))] → W p l e room_1 s m #[Value.ref b] below meth c H locs 4 10 (lw_Z below #[Value.ref b] s) (F0 m 219 ls []) := by
        intro f w hw H locs hP hD hS ls hl
        refine lv_iinc (v := zI ((i : Int) + 6)) (lv' := [(3, .int (zI ((i : Int) + 6))), (0, .ref b), (1, .ref qa), (2, .ref qc)]) hx hb dL_law_219 hl (k := 3) rfl (zI_add (i : Int) 6) (by decide) rfl (fun ls hl => ?_)
        refine lv_goto (tgt := 18) hx hb dL_law_222 (by decide) ?_
        exact ih (i + 6) ((i : Int) + 6) (by omega) (by omega) (by omega) f w hw H locs hP hD hS ls (lv_sub hl [1, 2, 3, 0] rfl)
      have hPa := hP.sub (ws' := [(qa, .inr (0, [.ref qb])), (qb, .inl (d0, 4, .inl f))]) [0, 1] rfl
      have hPb := hP.sub (ws' := [(qc, .inr (1, [.ref qd])), (qd, .inl (d1, 4, .inl f))]) [2, 3] rfl
      refine lv_aload_n hx hb dL_law_27 rfl (lv_at hl 0 rfl) ?_
      refine lv_iload_n hx hb dL_law_28 rfl (lv_at hl 3 rfl) ?_
      refine va_sld hx hb hX hbl hbA hS (zI_in (by omega) (by omega) (by omega)) dL_law_29 ?_
      refine lv_bipush (v := 7) hx hb dL_law_30 (by decide) ?_
      refine lv_iand hx hb dL_law_32 ?_
      obtain ⟨j, hj, ej⟩ := pk_andE (xs (zI (i : Int)).toNatClampNeg) (m := 7) 3 (by decide)
      refine zw_top (ej.trans (zI_nat j)) ?_
      have hjc : j = 0 ∨ j = 1 ∨ j = 2 ∨ j = 3 ∨ j = 4 ∨ (5 ≤ j ∧ j < 8) := by omega
      rcases hjc with rfl | rfl | rfl | rfl | rfl | hj5
      · refine lv_tableIn (off := 35) (tgt := 68) hx hb dL_law_33 (by decide +kernel) (by decide +kernel) (by decide +kernel) (by decide) ?_
        obtain ⟨w2, hw2⟩ := setF_ok hw (xs (zI ((i : Int) + 1)).toNatClampNeg) (xs (zI ((i : Int) + 2)).toNatClampNeg)
        refine lv_aload_n hx hb dL_law_68 rfl (lv_at hl 1 rfl) ?_
        refine lv_aload_n hx hb dL_law_69 rfl (lv_at hl 0 rfl) ?_
        refine lv_iload_n hx hb dL_law_70 rfl (lv_at hl 3 rfl) ?_
        refine lv_iconst (v := zI 1) hx hb dL_law_71 rfl ?_
        refine zw_iadd hx hb dL_law_72 ?_
        refine va_sld hx hb hX hbl hbA hS (zI_in (by omega) (by omega) (by omega)) dL_law_73 ?_
        refine lv_aload_n hx hb dL_law_74 rfl (lv_at hl 0 rfl) ?_
        refine lv_iload_n hx hb dL_law_75 rfl (lv_at hl 3 rfl) ?_
        refine lv_iconst (v := zI 2) hx hb dL_law_76 rfl ?_
        refine zw_iadd hx hb dL_law_77 ?_
        refine va_sld hx hb hX hbl hbA hS (zI_in (by omega) (by omega) (by omega)) dL_law_78 ?_
        have hPc := hP.sub (ws' := [(qa, .inr (0, [.ref qb])), (qb, .inl (d0, 4, .inl f))]) [0, 1] rfl
        have hDc := hD.sub (ws' := [(qa, .inr (0, [.ref qb])), (qb, .inl (d0, 4, .inl f))]) [0, 1] (by decide) rfl
        have hFc := va_free (wc := [(qa, .inr (0, [.ref qb])), (qb, .inl (d0, 4, .inl f))]) hD hS hA [0, 1] rfl
        refine va_callv (va_runV (As := [.int (xs (zI ((i : Int) + 1)).toNatClampNeg), .int (xs (zI ((i : Int) + 2)).toNatClampNeg)]) (rest := []) ⟨hx, hb, hml, hown, hts⟩ (met_X0_width l dC dI qa qb d0 H.size f (xs (zI ((i : Int) + 1)).toNatClampNeg) (xs (zI ((i : Int) + 2)).toNatClampNeg)) (cwV 2 hts (lw_V q23 q24 q25 q7 q26) rfl rfl rfl (by decide +kernel) ⟨Nat.le_of_ble_eq_true rfl, Nat.le_of_ble_eq_true rfl⟩) ⟨fun a U g mk q => by obtain ⟨q0, q1, qP, qK, qD⟩ := q; exact ⟨q0, q1, qP, va_K.moved (u := U) (U := U.calling g mk a) (Vm.Alike.refl U.vm) qK, qD⟩, va_recv hKa hPc (ci := 0) (q0 := 0) rfl rfl, fun U hU hW => ⟨rfl, by rw [hU], by rw [hU]; exact hPc, va_K.moved hW.alike hKa, hDc.weaken (fun _ _ _ _ => trivial)⟩⟩ rfl rfl hl.1 rfl (lv_room (Nat.le_of_ble_eq_true rfl)) dL_law_79 ⟨Nat.le_of_ble_eq_true rfl, Nat.le_of_ble_eq_true rfl⟩) hS (fun q _ h => hFc q h) hFc (fun u t H1 locs ht hvm hw1 hB hz1 hk1 hS => ?_)
        have hw1 : u = setF f (xs (zI ((i : Int) + 1)).toNatClampNeg) (xs (zI ((i : Int) + 2)).toNatClampNeg) := hw1
        subst hw1
        obtain ⟨hP1, hK1, hD1⟩ := hB
        rw [ht] at hP1
        obtain ⟨hP, hD⟩ := va_join (wr := [(qc, .inr (1, [.ref qd])), (qd, .inl (d1, 4, .inl f))]) (w1 := [(qa, .inr (0, [.ref qb])), (qb, .inl (d0, 4, .inl (setF f (xs (zI ((i : Int) + 1)).toNatClampNeg) (xs (zI ((i : Int) + 2)).toNatClampNeg))))]) hP hD [0, 1] [2, 3] rfl rfl (by decide) (by decide) hk1 hFc hP1 hD1
        generalize H1 = H at hP hS ⊢
        have hP : va_P (dC, dI) vwCl [(qc, .inr (1, [.ref qd])), (qd, .inl (d1, 4, .inl f)), (qa, .inr (0, [.ref qb])), (qb, .inl (d0, 4, .inl (setF f (xs (zI ((i : Int) + 1)).toNatClampNeg) (xs (zI ((i : Int) + 2)).toNatClampNeg))))] H := hP
        have hD : va_D (fun q : Nat => s.heap.size ≤ q) [(qc, .inr (1, [.ref qd])), (qd, .inl (d1, 4, .inl f)), (qa, .inr (0, [.ref qb])), (qb, .inl (d0, 4, .inl (setF f (xs (zI ((i : Int) + 1)).toNatClampNeg) (xs (zI ((i : Int) + 2)).toNatClampNeg))))] := hD
        refine lv_aload_n hx hb dL_law_82 rfl (lv_at hl 2 rfl) ?_
        refine lv_aload_n hx hb dL_law_83 rfl (lv_at hl 0 rfl) ?_
        refine lv_iload_n hx hb dL_law_84 rfl (lv_at hl 3 rfl) ?_
        refine lv_iconst (v := zI 1) hx hb dL_law_85 rfl ?_
        refine zw_iadd hx hb dL_law_86 ?_
        refine va_sld hx hb hX hbl hbA hS (zI_in (by omega) (by omega) (by omega)) dL_law_87 ?_
        refine lv_aload_n hx hb dL_law_88 rfl (lv_at hl 0 rfl) ?_
        refine lv_iload_n hx hb dL_law_89 rfl (lv_at hl 3 rfl) ?_
        refine lv_iconst (v := zI 2) hx hb dL_law_90 rfl ?_
        refine zw_iadd hx hb dL_law_91 ?_
        refine va_sld hx hb hX hbl hbA hS (zI_in (by omega) (by omega) (by omega)) dL_law_92 ?_
        have hPc := hP.sub (ws' := [(qc, .inr (1, [.ref qd])), (qd, .inl (d1, 4, .inl f))]) [0, 1] rfl
        have hDc := hD.sub (ws' := [(qc, .inr (1, [.ref qd])), (qd, .inl (d1, 4, .inl f))]) [0, 1] (by decide) rfl
        have hFc := va_free (wc := [(qc, .inr (1, [.ref qd])), (qd, .inl (d1, 4, .inl f))]) hD hS hA [0, 1] rfl
        refine va_callv (va_runV (As := [.int (xs (zI ((i : Int) + 1)).toNatClampNeg), .int (xs (zI ((i : Int) + 2)).toNatClampNeg)]) (rest := []) ⟨hx, hb, hml, hown, hts⟩ (met_X1_width l dC dI qc qd d1 H.size f (xs (zI ((i : Int) + 1)).toNatClampNeg) (xs (zI ((i : Int) + 2)).toNatClampNeg)) (cwV 2 hts (lw_V q72 q73 q74 q8 q75) rfl rfl rfl (by decide +kernel) ⟨Nat.le_of_ble_eq_true rfl, Nat.le_of_ble_eq_true rfl⟩) ⟨fun a U g mk q => by obtain ⟨q0, q1, qP, qK, qD⟩ := q; exact ⟨q0, q1, qP, va_K.moved (u := U) (U := U.calling g mk a) (Vm.Alike.refl U.vm) qK, qD⟩, va_recv hKb hPc (ci := 1) (q0 := 0) rfl rfl, fun U hU hW => ⟨rfl, by rw [hU], by rw [hU]; exact hPc, va_K.moved hW.alike hKb, hDc.weaken (fun _ _ _ _ => trivial)⟩⟩ rfl rfl hl.1 rfl (lv_room (Nat.le_of_ble_eq_true rfl)) dL_law_93 ⟨Nat.le_of_ble_eq_true rfl, Nat.le_of_ble_eq_true rfl⟩) hS (fun q _ h => hFc q h) hFc (fun u t H1 locs ht hvm hw1 hB hz1 hk1 hS => ?_)
        have hw1 : u = setF f (xs (zI ((i : Int) + 1)).toNatClampNeg) (xs (zI ((i : Int) + 2)).toNatClampNeg) := hw1
        subst hw1
        obtain ⟨hP1, hK1, hD1⟩ := hB
        rw [ht] at hP1
        obtain ⟨hP, hD⟩ := va_join (wr := [(qa, .inr (0, [.ref qb])), (qb, .inl (d0, 4, .inl (setF f (xs (zI ((i : Int) + 1)).toNatClampNeg) (xs (zI ((i : Int) + 2)).toNatClampNeg))))]) (w1 := [(qc, .inr (1, [.ref qd])), (qd, .inl (d1, 4, .inl (setF f (xs (zI ((i : Int) + 1)).toNatClampNeg) (xs (zI ((i : Int) + 2)).toNatClampNeg))))]) hP hD [0, 1] [2, 3] rfl rfl (by decide) (by decide) hk1 hFc hP1 hD1
        generalize H1 = H at hP hS ⊢
        have hP : va_P (dC, dI) vwCl [(qa, .inr (0, [.ref qb])), (qb, .inl (d0, 4, .inl (setF f (xs (zI ((i : Int) + 1)).toNatClampNeg) (xs (zI ((i : Int) + 2)).toNatClampNeg)))), (qc, .inr (1, [.ref qd])), (qd, .inl (d1, 4, .inl (setF f (xs (zI ((i : Int) + 1)).toNatClampNeg) (xs (zI ((i : Int) + 2)).toNatClampNeg))))] H := hP
        have hD : va_D (fun q : Nat => s.heap.size ≤ q) [(qa, .inr (0, [.ref qb])), (qb, .inl (d0, 4, .inl (setF f (xs (zI ((i : Int) + 1)).toNatClampNeg) (xs (zI ((i : Int) + 2)).toNatClampNeg)))), (qc, .inr (1, [.ref qd])), (qd, .inl (d1, 4, .inl (setF f (xs (zI ((i : Int) + 1)).toNatClampNeg) (xs (zI ((i : Int) + 2)).toNatClampNeg))))] := hD
        refine lv_goto (tgt := 219) hx hb dL_law_96 (by decide) ?_
        exact k219 _ w2 hw2 _ _ hP hD hS ls hl
      · refine lv_tableIn (off := 66) (tgt := 99) hx hb dL_law_33 (by decide +kernel) (by decide +kernel) (by decide +kernel) (by decide) ?_
        obtain ⟨w2, hw2⟩ := setsF_ok hw (xs (zI ((i : Int) + 1)).toNatClampNeg) (xs (zI ((i : Int) + 2)).toNatClampNeg) (xs (zI ((i : Int) + 3)).toNatClampNeg) (xs (zI ((i : Int) + 4)).toNatClampNeg)
        refine lv_aload_n hx hb dL_law_99 rfl (lv_at hl 1 rfl) ?_
        refine lv_aload_n hx hb dL_law_100 rfl (lv_at hl 0 rfl) ?_
        refine lv_iload_n hx hb dL_law_101 rfl (lv_at hl 3 rfl) ?_
        refine lv_iconst (v := zI 1) hx hb dL_law_102 rfl ?_
        refine zw_iadd hx hb dL_law_103 ?_
        refine va_sld hx hb hX hbl hbA hS (zI_in (by omega) (by omega) (by omega)) dL_law_104 ?_
        refine lv_aload_n hx hb dL_law_105 rfl (lv_at hl 0 rfl) ?_
        refine lv_iload_n hx hb dL_law_106 rfl (lv_at hl 3 rfl) ?_
        refine lv_iconst (v := zI 2) hx hb dL_law_107 rfl ?_
        refine zw_iadd hx hb dL_law_108 ?_
        refine va_sld hx hb hX hbl hbA hS (zI_in (by omega) (by omega) (by omega)) dL_law_109 ?_
        refine lv_aload_n hx hb dL_law_110 rfl (lv_at hl 0 rfl) ?_
        refine lv_iload_n hx hb dL_law_111 rfl (lv_at hl 3 rfl) ?_
        refine lv_iconst (v := zI 3) hx hb dL_law_112 rfl ?_
        refine zw_iadd hx hb dL_law_113 ?_
        refine va_sld hx hb hX hbl hbA hS (zI_in (by omega) (by omega) (by omega)) dL_law_114 ?_
        refine lv_aload_n hx hb dL_law_115 rfl (lv_at hl 0 rfl) ?_
        refine lv_iload_n hx hb dL_law_116 rfl (lv_at hl 3 rfl) ?_
        refine lv_iconst (v := zI 4) hx hb dL_law_117 rfl ?_
        refine zw_iadd hx hb dL_law_118 ?_
        refine va_sld hx hb hX hbl hbA hS (zI_in (by omega) (by omega) (by omega)) dL_law_119 ?_
        have hPc := hP.sub (ws' := [(qa, .inr (0, [.ref qb])), (qb, .inl (d0, 4, .inl f))]) [0, 1] rfl
        have hDc := hD.sub (ws' := [(qa, .inr (0, [.ref qb])), (qb, .inl (d0, 4, .inl f))]) [0, 1] (by decide) rfl
        have hFc := va_free (wc := [(qa, .inr (0, [.ref qb])), (qb, .inl (d0, 4, .inl f))]) hD hS hA [0, 1] rfl
        refine va_callv (va_runV (As := [.int (xs (zI ((i : Int) + 1)).toNatClampNeg), .int (xs (zI ((i : Int) + 2)).toNatClampNeg), .int (xs (zI ((i : Int) + 3)).toNatClampNeg), .int (xs (zI ((i : Int) + 4)).toNatClampNeg)]) (rest := []) ⟨hx, hb, hml, hown, hts⟩ (met_X0_widths l dC dI qa qb d0 H.size f (xs (zI ((i : Int) + 1)).toNatClampNeg) (xs (zI ((i : Int) + 2)).toNatClampNeg) (xs (zI ((i : Int) + 3)).toNatClampNeg) (xs (zI ((i : Int) + 4)).toNatClampNeg)) (cwV 4 hts (lw_V q27 q28 q29 q7 q30) rfl rfl rfl (by decide +kernel) ⟨Nat.le_of_ble_eq_true rfl, Nat.le_of_ble_eq_true rfl⟩) ⟨fun a U g mk q => by obtain ⟨q0, q1, qP, qK, qD⟩ := q; exact ⟨q0, q1, qP, va_K.moved (u := U) (U := U.calling g mk a) (Vm.Alike.refl U.vm) qK, qD⟩, va_recv hKa hPc (ci := 0) (q0 := 0) rfl rfl, fun U hU hW => ⟨rfl, by rw [hU], by rw [hU]; exact hPc, va_K.moved hW.alike hKa, hDc.weaken (fun _ _ _ _ => trivial)⟩⟩ rfl rfl hl.1 rfl (lv_room (Nat.le_of_ble_eq_true rfl)) dL_law_120 ⟨Nat.le_of_ble_eq_true rfl, Nat.le_of_ble_eq_true rfl⟩) hS (fun q _ h => hFc q h) hFc (fun u t H1 locs ht hvm hw1 hB hz1 hk1 hS => ?_)
        have hw1 : u = setsF f (xs (zI ((i : Int) + 1)).toNatClampNeg) (xs (zI ((i : Int) + 2)).toNatClampNeg) (xs (zI ((i : Int) + 3)).toNatClampNeg) (xs (zI ((i : Int) + 4)).toNatClampNeg) := hw1
        subst hw1
        obtain ⟨hP1, hK1, hD1⟩ := hB
        rw [ht] at hP1
        obtain ⟨hP, hD⟩ := va_join (wr := [(qc, .inr (1, [.ref qd])), (qd, .inl (d1, 4, .inl f))]) (w1 := [(qa, .inr (0, [.ref qb])), (qb, .inl (d0, 4, .inl (setsF f (xs (zI ((i : Int) + 1)).toNatClampNeg) (xs (zI ((i : Int) + 2)).toNatClampNeg) (xs (zI ((i : Int) + 3)).toNatClampNeg) (xs (zI ((i : Int) + 4)).toNatClampNeg))))]) hP hD [0, 1] [2, 3] rfl rfl (by decide) (by decide) hk1 hFc hP1 hD1
        generalize H1 = H at hP hS ⊢
        have hP : va_P (dC, dI) vwCl [(qc, .inr (1, [.ref qd])), (qd, .inl (d1, 4, .inl f)), (qa, .inr (0, [.ref qb])), (qb, .inl (d0, 4, .inl (setsF f (xs (zI ((i : Int) + 1)).toNatClampNeg) (xs (zI ((i : Int) + 2)).toNatClampNeg) (xs (zI ((i : Int) + 3)).toNatClampNeg) (xs (zI ((i : Int) + 4)).toNatClampNeg))))] H := hP
        have hD : va_D (fun q : Nat => s.heap.size ≤ q) [(qc, .inr (1, [.ref qd])), (qd, .inl (d1, 4, .inl f)), (qa, .inr (0, [.ref qb])), (qb, .inl (d0, 4, .inl (setsF f (xs (zI ((i : Int) + 1)).toNatClampNeg) (xs (zI ((i : Int) + 2)).toNatClampNeg) (xs (zI ((i : Int) + 3)).toNatClampNeg) (xs (zI ((i : Int) + 4)).toNatClampNeg))))] := hD
        refine lv_aload_n hx hb dL_law_123 rfl (lv_at hl 2 rfl) ?_
        refine lv_aload_n hx hb dL_law_124 rfl (lv_at hl 0 rfl) ?_
        refine lv_iload_n hx hb dL_law_125 rfl (lv_at hl 3 rfl) ?_
        refine lv_iconst (v := zI 1) hx hb dL_law_126 rfl ?_
        refine zw_iadd hx hb dL_law_127 ?_
        refine va_sld hx hb hX hbl hbA hS (zI_in (by omega) (by omega) (by omega)) dL_law_128 ?_
        refine lv_aload_n hx hb dL_law_129 rfl (lv_at hl 0 rfl) ?_
        refine lv_iload_n hx hb dL_law_130 rfl (lv_at hl 3 rfl) ?_
        refine lv_iconst (v := zI 2) hx hb dL_law_131 rfl ?_
        refine zw_iadd hx hb dL_law_132 ?_
        refine va_sld hx hb hX hbl hbA hS (zI_in (by omega) (by omega) (by omega)) dL_law_133 ?_
        refine lv_aload_n hx hb dL_law_134 rfl (lv_at hl 0 rfl) ?_
        refine lv_iload_n hx hb dL_law_135 rfl (lv_at hl 3 rfl) ?_
        refine lv_iconst (v := zI 3) hx hb dL_law_136 rfl ?_
        refine zw_iadd hx hb dL_law_137 ?_
        refine va_sld hx hb hX hbl hbA hS (zI_in (by omega) (by omega) (by omega)) dL_law_138 ?_
        refine lv_aload_n hx hb dL_law_139 rfl (lv_at hl 0 rfl) ?_
        refine lv_iload_n hx hb dL_law_140 rfl (lv_at hl 3 rfl) ?_
        refine lv_iconst (v := zI 4) hx hb dL_law_141 rfl ?_
        refine zw_iadd hx hb dL_law_142 ?_
        refine va_sld hx hb hX hbl hbA hS (zI_in (by omega) (by omega) (by omega)) dL_law_143 ?_
        have hPc := hP.sub (ws' := [(qc, .inr (1, [.ref qd])), (qd, .inl (d1, 4, .inl f))]) [0, 1] rfl
        have hDc := hD.sub (ws' := [(qc, .inr (1, [.ref qd])), (qd, .inl (d1, 4, .inl f))]) [0, 1] (by decide) rfl
        have hFc := va_free (wc := [(qc, .inr (1, [.ref qd])), (qd, .inl (d1, 4, .inl f))]) hD hS hA [0, 1] rfl
        refine va_callv (va_runV (As := [.int (xs (zI ((i : Int) + 1)).toNatClampNeg), .int (xs (zI ((i : Int) + 2)).toNatClampNeg), .int (xs (zI ((i : Int) + 3)).toNatClampNeg), .int (xs (zI ((i : Int) + 4)).toNatClampNeg)]) (rest := []) ⟨hx, hb, hml, hown, hts⟩ (met_X1_widths l dC dI qc qd d1 H.size f (xs (zI ((i : Int) + 1)).toNatClampNeg) (xs (zI ((i : Int) + 2)).toNatClampNeg) (xs (zI ((i : Int) + 3)).toNatClampNeg) (xs (zI ((i : Int) + 4)).toNatClampNeg)) (cwV 4 hts (lw_V q76 q77 q78 q8 q79) rfl rfl rfl (by decide +kernel) ⟨Nat.le_of_ble_eq_true rfl, Nat.le_of_ble_eq_true rfl⟩) ⟨fun a U g mk q => by obtain ⟨q0, q1, qP, qK, qD⟩ := q; exact ⟨q0, q1, qP, va_K.moved (u := U) (U := U.calling g mk a) (Vm.Alike.refl U.vm) qK, qD⟩, va_recv hKb hPc (ci := 1) (q0 := 0) rfl rfl, fun U hU hW => ⟨rfl, by rw [hU], by rw [hU]; exact hPc, va_K.moved hW.alike hKb, hDc.weaken (fun _ _ _ _ => trivial)⟩⟩ rfl rfl hl.1 rfl (lv_room (Nat.le_of_ble_eq_true rfl)) dL_law_144 ⟨Nat.le_of_ble_eq_true rfl, Nat.le_of_ble_eq_true rfl⟩) hS (fun q _ h => hFc q h) hFc (fun u t H1 locs ht hvm hw1 hB hz1 hk1 hS => ?_)
        have hw1 : u = setsF f (xs (zI ((i : Int) + 1)).toNatClampNeg) (xs (zI ((i : Int) + 2)).toNatClampNeg) (xs (zI ((i : Int) + 3)).toNatClampNeg) (xs (zI ((i : Int) + 4)).toNatClampNeg) := hw1
        subst hw1
        obtain ⟨hP1, hK1, hD1⟩ := hB
        rw [ht] at hP1
        obtain ⟨hP, hD⟩ := va_join (wr := [(qa, .inr (0, [.ref qb])), (qb, .inl (d0, 4, .inl (setsF f (xs (zI ((i : Int) + 1)).toNatClampNeg) (xs (zI ((i : Int) + 2)).toNatClampNeg) (xs (zI ((i : Int) + 3)).toNatClampNeg) (xs (zI ((i : Int) + 4)).toNatClampNeg))))]) (w1 := [(qc, .inr (1, [.ref qd])), (qd, .inl (d1, 4, .inl (setsF f (xs (zI ((i : Int) + 1)).toNatClampNeg) (xs (zI ((i : Int) + 2)).toNatClampNeg) (xs (zI ((i : Int) + 3)).toNatClampNeg) (xs (zI ((i : Int) + 4)).toNatClampNeg))))]) hP hD [0, 1] [2, 3] rfl rfl (by decide) (by decide) hk1 hFc hP1 hD1
        generalize H1 = H at hP hS ⊢
        have hP : va_P (dC, dI) vwCl [(qa, .inr (0, [.ref qb])), (qb, .inl (d0, 4, .inl (setsF f (xs (zI ((i : Int) + 1)).toNatClampNeg) (xs (zI ((i : Int) + 2)).toNatClampNeg) (xs (zI ((i : Int) + 3)).toNatClampNeg) (xs (zI ((i : Int) + 4)).toNatClampNeg)))), (qc, .inr (1, [.ref qd])), (qd, .inl (d1, 4, .inl (setsF f (xs (zI ((i : Int) + 1)).toNatClampNeg) (xs (zI ((i : Int) + 2)).toNatClampNeg) (xs (zI ((i : Int) + 3)).toNatClampNeg) (xs (zI ((i : Int) + 4)).toNatClampNeg))))] H := hP
        have hD : va_D (fun q : Nat => s.heap.size ≤ q) [(qa, .inr (0, [.ref qb])), (qb, .inl (d0, 4, .inl (setsF f (xs (zI ((i : Int) + 1)).toNatClampNeg) (xs (zI ((i : Int) + 2)).toNatClampNeg) (xs (zI ((i : Int) + 3)).toNatClampNeg) (xs (zI ((i : Int) + 4)).toNatClampNeg)))), (qc, .inr (1, [.ref qd])), (qd, .inl (d1, 4, .inl (setsF f (xs (zI ((i : Int) + 1)).toNatClampNeg) (xs (zI ((i : Int) + 2)).toNatClampNeg) (xs (zI ((i : Int) + 3)).toNatClampNeg) (xs (zI ((i : Int) + 4)).toNatClampNeg))))] := hD
        refine lv_goto (tgt := 219) hx hb dL_law_147 (by decide) ?_
        exact k219 _ w2 hw2 _ _ hP hD hS ls hl
      · refine lv_tableIn (off := 117) (tgt := 150) hx hb dL_law_33 (by decide +kernel) (by decide +kernel) (by decide +kernel) (by decide) ?_
        refine lv_aload_n hx hb dL_law_150 rfl (lv_at hl 1 rfl) ?_
        refine lv_aload_n hx hb dL_law_151 rfl (lv_at hl 0 rfl) ?_
        refine lv_iload_n hx hb dL_law_152 rfl (lv_at hl 3 rfl) ?_
        refine lv_iconst (v := zI 1) hx hb dL_law_153 rfl ?_
        refine zw_iadd hx hb dL_law_154 ?_
        refine va_sld hx hb hX hbl hbA hS (zI_in (by omega) (by omega) (by omega)) dL_law_155 ?_
        refine zw_callR (W.runV (As := [.int (xs (zI ((i : Int) + 1)).toNatClampNeg)]) (rest := []) ⟨hx, hb, hml, hown, hts⟩ (met_X0_value l dC dI qa qb d0 f w hw (xs (zI ((i : Int) + 1)).toNatClampNeg)) (cwV 1 hts (lw_V q31 q32 q33 q7 q34) rfl rfl rfl (by decide +kernel) ⟨Nat.le_of_ble_eq_true rfl, Nat.le_of_ble_eq_true rfl⟩) ⟨fun a U g mk q => by obtain ⟨q0, qP, qK⟩ := q; exact ⟨q0, qP, va_K.moved (u := U) (U := U.calling g mk a) (Vm.Alike.refl U.vm) qK⟩, va_recv hKa hPa (ci := 0) (q0 := 0) rfl rfl, fun U hU hW => ⟨rfl, by rw [hU]; exact hPa, va_K.moved hW.alike hKa⟩⟩ rfl rfl hl.1 rfl (lv_room (Nat.le_of_ble_eq_true rfl)) dL_law_156 ⟨Nat.le_of_ble_eq_true rfl, Nat.le_of_ble_eq_true rfl⟩) ?_
        refine lv_aload_n hx hb dL_law_159 rfl (lv_at hl 2 rfl) ?_
        refine lv_aload_n hx hb dL_law_160 rfl (lv_at hl 0 rfl) ?_
        refine lv_iload_n hx hb dL_law_161 rfl (lv_at hl 3 rfl) ?_
        refine lv_iconst (v := zI 1) hx hb dL_law_162 rfl ?_
        refine zw_iadd hx hb dL_law_163 ?_
        refine va_sld hx hb hX hbl hbA hS (zI_in (by omega) (by omega) (by omega)) dL_law_164 ?_
        refine zw_callR (W.runV (As := [.int (xs (zI ((i : Int) + 1)).toNatClampNeg)]) (rest := [.int (zI (valA w (mstF (mxF 0 w 4) (qF (xs (zI ((i : Int) + 1)).toNatClampNeg)))))]) ⟨hx, hb, hml, hown, hts⟩ (met_X1_value l dC dI qc qd d1 f w hw (xs (zI ((i : Int) + 1)).toNatClampNeg)) (cwV 1 hts (lw_V q85 q86 q87 q8 q88) rfl rfl rfl (by decide +kernel) ⟨Nat.le_of_ble_eq_true rfl, Nat.le_of_ble_eq_true rfl⟩) ⟨fun a U g mk q => by obtain ⟨q0, qP, qK⟩ := q; exact ⟨q0, qP, va_K.moved (u := U) (U := U.calling g mk a) (Vm.Alike.refl U.vm) qK⟩, va_recv hKb hPb (ci := 1) (q0 := 0) rfl rfl, fun U hU hW => ⟨rfl, by rw [hU]; exact hPb, va_K.moved hW.alike hKb⟩⟩ rfl rfl hl.1 rfl (lv_room (Nat.le_of_ble_eq_true rfl)) dL_law_165 ⟨Nat.le_of_ble_eq_true rfl, Nat.le_of_ble_eq_true rfl⟩) ?_
        refine lv_icmp_eq (tgt := 219) hx hb dL_law_168 (by decide) (fun _ => ?_) (fun c9 => absurd (value_same hw _) c9)
        exact k219 f w hw _ _ hP hD hS ls hl
      · refine lv_tableIn (off := 140) (tgt := 173) hx hb dL_law_33 (by decide +kernel) (by decide +kernel) (by decide +kernel) (by decide) ?_
        refine lv_aload_n hx hb dL_law_173 rfl (lv_at hl 1 rfl) ?_
        refine lv_aload_n hx hb dL_law_174 rfl (lv_at hl 0 rfl) ?_
        refine lv_iload_n hx hb dL_law_175 rfl (lv_at hl 3 rfl) ?_
        refine lv_iconst (v := zI 1) hx hb dL_law_176 rfl ?_
        refine zw_iadd hx hb dL_law_177 ?_
        refine va_sld hx hb hX hbl hbA hS (zI_in (by omega) (by omega) (by omega)) dL_law_178 ?_
        refine zw_callR (W.runV (As := [.int (xs (zI ((i : Int) + 1)).toNatClampNeg)]) (rest := []) ⟨hx, hb, hml, hown, hts⟩ (met_X0_withNarrow l dC dI qa qb d0 f w hw (xs (zI ((i : Int) + 1)).toNatClampNeg)) (cwV 1 hts (lw_V q50 q51 q52 q7 q53) rfl rfl rfl (by decide +kernel) ⟨Nat.le_of_ble_eq_true rfl, Nat.le_of_ble_eq_true rfl⟩) ⟨fun a U g mk q => by obtain ⟨q0, qP, qK⟩ := q; exact ⟨q0, qP, va_K.moved (u := U) (U := U.calling g mk a) (Vm.Alike.refl U.vm) qK⟩, va_recv hKa hPa (ci := 0) (q0 := 0) rfl rfl, fun U hU hW => ⟨rfl, by rw [hU]; exact hPa, va_K.moved hW.alike hKa⟩⟩ rfl rfl hl.1 rfl (lv_room (Nat.le_of_ble_eq_true rfl)) dL_law_179 ⟨Nat.le_of_ble_eq_true rfl, Nat.le_of_ble_eq_true rfl⟩) ?_
        refine lv_aload_n hx hb dL_law_182 rfl (lv_at hl 2 rfl) ?_
        refine lv_aload_n hx hb dL_law_183 rfl (lv_at hl 0 rfl) ?_
        refine lv_iload_n hx hb dL_law_184 rfl (lv_at hl 3 rfl) ?_
        refine lv_iconst (v := zI 1) hx hb dL_law_185 rfl ?_
        refine zw_iadd hx hb dL_law_186 ?_
        refine va_sld hx hb hX hbl hbA hS (zI_in (by omega) (by omega) (by omega)) dL_law_187 ?_
        refine zw_callR (W.runV (As := [.int (xs (zI ((i : Int) + 1)).toNatClampNeg)]) (rest := [.int (zI (narA w (mstF (mxF 0 w 4) (qF (xs (zI ((i : Int) + 1)).toNatClampNeg)))))]) ⟨hx, hb, hml, hown, hts⟩ (met_X1_withNarrow l dC dI qc qd d1 f w hw (xs (zI ((i : Int) + 1)).toNatClampNeg)) (cwV 1 hts (lw_V q102 q103 q104 q8 q105) rfl rfl rfl (by decide +kernel) ⟨Nat.le_of_ble_eq_true rfl, Nat.le_of_ble_eq_true rfl⟩) ⟨fun a U g mk q => by obtain ⟨q0, qP, qK⟩ := q; exact ⟨q0, qP, va_K.moved (u := U) (U := U.calling g mk a) (Vm.Alike.refl U.vm) qK⟩, va_recv hKb hPb (ci := 1) (q0 := 0) rfl rfl, fun U hU hW => ⟨rfl, by rw [hU]; exact hPb, va_K.moved hW.alike hKb⟩⟩ rfl rfl hl.1 rfl (lv_room (Nat.le_of_ble_eq_true rfl)) dL_law_188 ⟨Nat.le_of_ble_eq_true rfl, Nat.le_of_ble_eq_true rfl⟩) ?_
        refine lv_icmp_eq (tgt := 219) hx hb dL_law_191 (by decide) (fun _ => ?_) (fun c9 => absurd (narrow_same hw _) c9)
        exact k219 f w hw _ _ hP hD hS ls hl
      · refine lv_tableIn (off := 163) (tgt := 196) hx hb dL_law_33 (by decide +kernel) (by decide +kernel) (by decide +kernel) (by decide) ?_
        refine lv_aload_n hx hb dL_law_196 rfl (lv_at hl 1 rfl) ?_
        refine lv_aload_n hx hb dL_law_197 rfl (lv_at hl 0 rfl) ?_
        refine lv_iload_n hx hb dL_law_198 rfl (lv_at hl 3 rfl) ?_
        refine lv_iconst (v := zI 1) hx hb dL_law_199 rfl ?_
        refine zw_iadd hx hb dL_law_200 ?_
        refine va_sld hx hb hX hbl hbA hS (zI_in (by omega) (by omega) (by omega)) dL_law_201 ?_
        refine zw_callR (W.runV (As := [.int (xs (zI ((i : Int) + 1)).toNatClampNeg)]) (rest := []) ⟨hx, hb, hml, hown, hts⟩ (met_X0_width_2 l dC dI qa qb d0 f (xs (zI ((i : Int) + 1)).toNatClampNeg)) (cwV 1 hts (lw_V q58 q59 q60 q7 q61) rfl rfl rfl (by decide +kernel) ⟨Nat.le_of_ble_eq_true rfl, Nat.le_of_ble_eq_true rfl⟩) ⟨fun a U g mk q => by obtain ⟨q0, qP, qK⟩ := q; exact ⟨q0, qP, va_K.moved (u := U) (U := U.calling g mk a) (Vm.Alike.refl U.vm) qK⟩, va_recv hKa hPa (ci := 0) (q0 := 0) rfl rfl, fun U hU hW => ⟨rfl, by rw [hU]; exact hPa, va_K.moved hW.alike hKa⟩⟩ rfl rfl hl.1 rfl (lv_room (Nat.le_of_ble_eq_true rfl)) dL_law_202 ⟨Nat.le_of_ble_eq_true rfl, Nat.le_of_ble_eq_true rfl⟩) ?_
        refine lv_aload_n hx hb dL_law_205 rfl (lv_at hl 2 rfl) ?_
        refine lv_aload_n hx hb dL_law_206 rfl (lv_at hl 0 rfl) ?_
        refine lv_iload_n hx hb dL_law_207 rfl (lv_at hl 3 rfl) ?_
        refine lv_iconst (v := zI 1) hx hb dL_law_208 rfl ?_
        refine zw_iadd hx hb dL_law_209 ?_
        refine va_sld hx hb hX hbl hbA hS (zI_in (by omega) (by omega) (by omega)) dL_law_210 ?_
        refine zw_callR (W.runV (As := [.int (xs (zI ((i : Int) + 1)).toNatClampNeg)]) (rest := [.int (f ((xs (zI ((i : Int) + 1)).toNatClampNeg) &&& 3).toNatClampNeg)]) ⟨hx, hb, hml, hown, hts⟩ (met_X1_width_2 l dC dI qc qd d1 f (xs (zI ((i : Int) + 1)).toNatClampNeg)) (cwV 1 hts (lw_V q81 q82 q83 q8 q84) rfl rfl rfl (by decide +kernel) ⟨Nat.le_of_ble_eq_true rfl, Nat.le_of_ble_eq_true rfl⟩) ⟨fun a U g mk q => by obtain ⟨q0, qP, qK⟩ := q; exact ⟨q0, qP, va_K.moved (u := U) (U := U.calling g mk a) (Vm.Alike.refl U.vm) qK⟩, va_recv hKb hPb (ci := 1) (q0 := 0) rfl rfl, fun U hU hW => ⟨rfl, by rw [hU]; exact hPb, va_K.moved hW.alike hKb⟩⟩ rfl rfl hl.1 rfl (lv_room (Nat.le_of_ble_eq_true rfl)) dL_law_211 ⟨Nat.le_of_ble_eq_true rfl, Nat.le_of_ble_eq_true rfl⟩) ?_
        refine lv_icmp_eq (tgt := 219) hx hb dL_law_214 (by decide) (fun _ => ?_) (fun c9 => absurd (rfl) c9)
        exact k219 f w hw _ _ hP hD hS ls hl
      · refine lv_tableOut (tgt := 219) hx hb dL_law_33 (Or.inr (by rw [zI_toInt (by omega)]; omega)) (by decide) ?_
        exact k219 f w hw _ _ hP hD hS ls hl
set_option maxHeartbeats 4000000 in
set_option maxRecDepth 100000 in
/-- YOUR PART: from the entry, for every script of at most 288 ints, the law comes to its end with true -/
theorem whole_start {p : Program} {e : Env} {s : State} {m : MethodId} {below : List Frame} {meth : Method} {c : Code} (l : Launch) (hflags : l.flags = flags0) {b L : Nat} {xs : Nat → Int32} (hL : L ≤ 288) (C0 : lw_At p s m meth c b L xs) : W p l e room_1 s m #[Value.ref b] below meth c s.heap [] 0 0 (lw_Z below #[Value.ref b] s) (entryFrame m ([Value.ref b] : List Value).toArray 4) := by
  obtain ⟨hx, hb, hr, hml, hown, hts0, hX, hbl, hlocks, hgv⟩ := id C0
  have hts : ∀ w ∈ lw_all, w.before #[Value.ref b] s = true := fun w h => hts0 w (lw_all_tbl h)
  have hA : ∀ q : Nat, s.heap.size ≤ q → (fun q : Nat => s.heap.size ≤ q) q := fun _ h => h
  have hbA : ¬ (fun q : Nat => s.heap.size ≤ q) b := Nat.not_le.mpr hbl
  obtain ⟨c0_, iS0, hKn0⟩ := u_known (C := RX0) (T := TX0) (N := 1) (n := 1) hts0 (fun w h => lw_all_tbl (in_X0 w h)) (hts0 _ (lw_all_tbl q11))
  obtain ⟨c1_, iS1, hKn1⟩ := u_known (C := RX1) (T := TX1) (N := 1) (n := 1) hts0 (fun w h => lw_all_tbl (in_X1 w h)) (hts0 _ (lw_all_tbl q63))
  obtain ⟨dC, dI, hKc⟩ : ∃ (dC : Nat → ClassId) (dI : Nat → Nat → Nat), ∀ (k : Nat) (q : vw_C), vwCl[k]? = some q → u_Kn s q.1 q.2.1 q.2.2 (dC k) (dI k) := by
    refine ⟨fun k => if k = 0 then c0_ else c1_, fun k => if k = 0 then iS0 else iS1, ?_⟩
    intro k q hq
    match k, hq with
    | 0, hq => cases hq; exact hKn0
    | 1, hq => cases hq; exact hKn1
    | k + 2, hq => simp [vwCl] at hq
  have hS : va_S (fun q : Nat => s.heap.size ≤ q) s.heap s.heap [] := va_S.rf
  have hK : va_K (dC, dI) vwCl [] s := ⟨hKc, fun k q h => by simp at h⟩
  have hP : va_P (dC, dI) vwCl [] s.heap := fun k q h => by simp at h
  have hD : va_D (fun q : Nat => s.heap.size ≤ q) [] := ⟨fun i j p q h => by simp at h, fun k q h => by simp at h⟩
  have hl := lv_entry ([.ref b]) (n := 4) (Nat.le_of_ble_eq_true rfl)
  rw [lg_entry_eq]
  generalize (lg_sl ([.ref b]) ++ List.replicate (4 - (lg_sl ([.ref b])).length) Slot.unset).toArray = ls at hl ⊢
  have hl : lv_has ls 4 [(0, .ref b)] := hl
  refine va_new (ci := 0) (fs := [.null]) (C := RX0) (T := TX0) (N := 1) hx hb hts in_X0 tyX0 tyX0_ok hown (hts _ q10) (hts _ q11) (hts _ q7) hK hP hD hS hA rfl (fun j hj => by rcases (show j = 0 by omega) with rfl <;> rfl) (Nat.le_of_ble_eq_true rfl) (Nat.le_of_ble_eq_true rfl) dL_law_0 (fun qa H hP hD hS => ?_)
  have hP : va_P (dC, dI) vwCl [(qa, .inr (0, [.null]))] H := hP
  have hD : va_D (fun q : Nat => s.heap.size ≤ q) [(qa, .inr (0, [.null]))] := hD
  refine W.widen (k := 1) (n := 1) (Nat.le_of_ble_eq_true rfl) (Nat.le_of_ble_eq_true rfl) ?_
  refine lv_dup hx hb dL_law_3 rfl ?_
  have hPc := hP.sub (ws' := [(qa, .inr (0, [.null]))]) [0] rfl
  have hDc := hD.sub (ws' := [(qa, .inr (0, [.null]))]) [0] (by decide) rfl
  have hKc := hK.sub (tys' := []) [] rfl
  have hFc := va_free (wc := [(qa, .inr (0, [.null]))]) hD hS hA [0] rfl
  refine va_callv (va_runI (As := []) (rest := [.ref qa]) ⟨hx, hb, hml, hown, hts⟩ (met_X0_init l dC dI qa H.size) (cwI 0 hts (lw_meth q14) rfl rfl rfl (hts _ q7) (hts _ q12) (hts _ q13) rfl (by decide +kernel) ⟨Nat.le_of_ble_eq_true rfl, Nat.le_of_ble_eq_true rfl⟩) ⟨fun a U g mk q => by obtain ⟨q0, q1, qP, qK, qD⟩ := q; exact ⟨q0, q1, qP, va_K.moved (u := U) (U := U.calling g mk a) (Vm.Alike.refl U.vm) qK, qD⟩, fun U hU hW => ⟨rfl, by rw [hU], by rw [hU]; exact hPc, va_K.moved hW.alike hKc, hDc.weaken (fun _ _ _ _ => trivial)⟩⟩ rfl rfl hl.1 rfl (lv_room (Nat.le_of_ble_eq_true rfl)) dL_law_4 ⟨Nat.le_of_ble_eq_true rfl, Nat.le_of_ble_eq_true rfl⟩) hS (fun q _ h => hFc q h) hFc (fun u t H1 locs ht hvm hw1 hB hz1 hk1 hS => ?_)
  have hw1 : u = initF := hw1
  subst hw1
  obtain ⟨qb, d0, hP1, hK1, hD1⟩ := hB
  rw [ht] at hP1
  have hK1 := va_K.moved hvm.symm hK1
  obtain ⟨hP, hD⟩ := va_join (wr := []) (w1 := [(qa, .inr (0, [.ref qb])), (qb, .inl (d0, 4, .inl initF))]) hP hD [0] [] rfl rfl (by decide) (by decide) hk1 hFc hP1 hD1
  have hK := (hK.sub (tys' := []) [] rfl).app hK1
  generalize H1 = H at hP hS ⊢
  have hP : va_P (dC, dI) vwCl [(qa, .inr (0, [.ref qb])), (qb, .inl (d0, 4, .inl initF))] H := hP
  have hD : va_D (fun q : Nat => s.heap.size ≤ q) [(qa, .inr (0, [.ref qb])), (qb, .inl (d0, 4, .inl initF))] := hD
  have hK : va_K (dC, dI) vwCl [(d0, .int)] s := hK
  refine W.widen (k := 2) (n := 5) (Nat.le_of_ble_eq_true rfl) (Nat.le_of_ble_eq_true rfl) ?_
  refine lv_astore_n (lv' := [(1, .ref qa), (0, .ref b)]) hx hb dL_law_7 rfl hl (by decide) rfl (fun ls hl => ?_)
  refine va_new (ci := 1) (fs := [.null]) (C := RX1) (T := TX1) (N := 1) hx hb hts in_X1 tyX1 tyX1_ok hown (hts _ q62) (hts _ q63) (hts _ q8) hK hP hD hS hA rfl (fun j hj => by rcases (show j = 0 by omega) with rfl <;> rfl) (Nat.le_of_ble_eq_true rfl) (Nat.le_of_ble_eq_true rfl) dL_law_8 (fun qc H hP hD hS => ?_)
  have hP : va_P (dC, dI) vwCl [(qa, .inr (0, [.ref qb])), (qb, .inl (d0, 4, .inl initF)), (qc, .inr (1, [.null]))] H := hP
  have hD : va_D (fun q : Nat => s.heap.size ≤ q) [(qa, .inr (0, [.ref qb])), (qb, .inl (d0, 4, .inl initF)), (qc, .inr (1, [.null]))] := hD
  refine W.widen (k := 3) (n := 6) (Nat.le_of_ble_eq_true rfl) (Nat.le_of_ble_eq_true rfl) ?_
  refine lv_dup hx hb dL_law_11 rfl ?_
  have hPc := hP.sub (ws' := [(qc, .inr (1, [.null]))]) [2] rfl
  have hDc := hD.sub (ws' := [(qc, .inr (1, [.null]))]) [2] (by decide) rfl
  have hKc := hK.sub (tys' := []) [] rfl
  have hFc := va_free (wc := [(qc, .inr (1, [.null]))]) hD hS hA [2] rfl
  refine va_callv (va_runI (As := []) (rest := [.ref qc]) ⟨hx, hb, hml, hown, hts⟩ (met_X1_init l dC dI qc H.size) (cwI 0 hts (lw_meth q66) rfl rfl rfl (hts _ q8) (hts _ q64) (hts _ q65) rfl (by decide +kernel) ⟨Nat.le_of_ble_eq_true rfl, Nat.le_of_ble_eq_true rfl⟩) ⟨fun a U g mk q => by obtain ⟨q0, q1, qP, qK, qD⟩ := q; exact ⟨q0, q1, qP, va_K.moved (u := U) (U := U.calling g mk a) (Vm.Alike.refl U.vm) qK, qD⟩, fun U hU hW => ⟨rfl, by rw [hU], by rw [hU]; exact hPc, va_K.moved hW.alike hKc, hDc.weaken (fun _ _ _ _ => trivial)⟩⟩ rfl rfl hl.1 rfl (lv_room (Nat.le_of_ble_eq_true rfl)) dL_law_12 ⟨Nat.le_of_ble_eq_true rfl, Nat.le_of_ble_eq_true rfl⟩) hS (fun q _ h => hFc q h) hFc (fun u t H1 locs ht hvm hw1 hB hz1 hk1 hS => ?_)
  have hw1 : u = initF := hw1
  subst hw1
  obtain ⟨qd, d1, hP1, hK1, hD1⟩ := hB
  rw [ht] at hP1
  have hK1 := va_K.moved hvm.symm hK1
  obtain ⟨hP, hD⟩ := va_join (wr := [(qa, .inr (0, [.ref qb])), (qb, .inl (d0, 4, .inl initF))]) (w1 := [(qc, .inr (1, [.ref qd])), (qd, .inl (d1, 4, .inl initF))]) hP hD [2] [0, 1] rfl rfl (by decide) (by decide) hk1 hFc hP1 hD1
  have hK := (hK.sub (tys' := [(d0, .int)]) [0] rfl).app hK1
  generalize H1 = H at hP hS ⊢
  have hP : va_P (dC, dI) vwCl [(qa, .inr (0, [.ref qb])), (qb, .inl (d0, 4, .inl initF)), (qc, .inr (1, [.ref qd])), (qd, .inl (d1, 4, .inl initF))] H := hP
  have hD : va_D (fun q : Nat => s.heap.size ≤ q) [(qa, .inr (0, [.ref qb])), (qb, .inl (d0, 4, .inl initF)), (qc, .inr (1, [.ref qd])), (qd, .inl (d1, 4, .inl initF))] := hD
  have hK : va_K (dC, dI) vwCl [(d0, .int), (d1, .int)] s := hK
  refine W.widen (k := 4) (n := 10) (Nat.le_of_ble_eq_true rfl) (Nat.le_of_ble_eq_true rfl) ?_
  refine lv_astore_n (lv' := [(2, .ref qc), (1, .ref qa), (0, .ref b)]) hx hb dL_law_15 rfl hl (by decide) rfl (fun ls hl => ?_)
  refine lv_iconst (v := zI 0) hx hb dL_law_16 rfl ?_
  refine lv_istore_n (lv' := [(3, .int (zI 0)), (2, .ref qc), (1, .ref qa), (0, .ref b)]) hx hb dL_law_17 rfl hl (by decide) rfl (fun ls hl => ?_)
  exact law_loop hL C0 hK (L + 1) 0 0 (Nat.zero_le L) (by omega) rfl initF (fun _ => 1) initF_ok _ _ hP hD hS ls (lv_sub hl [3, 2, 1, 0] rfl)
end
section
set_option maxHeartbeats 4000000 in
theorem lw_walk (l : Launch) (hflags : l.flags = flags0) (b : Addr) (xs : List Int32) : MetFree l x (headSpec (Jvm.Cond.code x code maxLocals ret :: tables_1) room_1) (lw_P b xs) (fun _ _ _ _ _ => True) lw_Q := by
  refine MetFree.of_bodyS (code := code) (maxLocals := maxLocals) (ret := ret) (by decide) ?_ ?_
  · intro args s m h hn
    obtain ⟨meth, c, h1, h2, h3, h4, h5, h6, -, -⟩ := Cond.code_spec hn (atoms_spec (ws := Jvm.Cond.code x code maxLocals ret :: tables_1) h _ List.mem_cons_self)
    exact ⟨meth, c, h1, h2, h3, h4, h5, h6⟩
  · intro p e s m args below meth c s₁ B hml0 hP _
    obtain ⟨rfl, hx, hbd, hgv⟩ := hP
    obtain ⟨scr, harrAt, hlist, hof, hsmall⟩ := hx
    obtain ⟨hcb, hkn, -, -⟩ := State.arrayAt?_spec harrAt
    have hown : s.vm.findClass R_law = some m.cls := findClass_of_methodNamed B.named
    have hts0 : ∀ c ∈ (Jvm.Cond.code x code maxLocals ret :: tables_1), c.before #[Value.ref b] s = true := atoms_spec (ws := Jvm.Cond.code x code maxLocals ret :: tables_1) B.pre
    have hts : ∀ w ∈ lw_tbl, w.before #[Value.ref b] s = true := k2_hts_sels lw_privs (fun w hw => hts0 w (List.mem_cons_of_mem _ hw)) lw_privs_ok
    have hml : c.maxLocals = 4 := B.maxLocals_eq (hts0 _ List.mem_cons_self)
    have X₀ : Stand p l e room_1 s m #[Value.ref b] below meth c s₁ [] 0 0 := Stand.of_body B
    have hh0 : s₁.heap = s.heap := by rw [B.state]; rfl
    have hsz : scr.slots.size = xs.length := by rw [← Array.length_toList, hlist, List.length_map]
    have hval : ∀ j : Nat, j < xs.length → scr.slots[j]? = some (.int (xs.getD j 0)) := fun j hj => by
      rw [← Array.getElem?_toList, hlist]
      simp [hj]
    have hbl : b < s.heap.size := (Array.getElem?_eq_some_iff.mp hcb).1
    have hX : va_X b xs.length (fun j => xs.getD j 0) s s.heap := ⟨scr, hcb, hof, hkn, hsz, hval⟩
    have K : W p l e room_1 s m #[Value.ref b] below meth c s₁.heap [] 0 0 (lw_Z below #[Value.ref b] s) (entryFrame m ([Value.ref b] : List Value).toArray 4) := by
      rw [hh0]
      exact whole_start l hflags hbd ⟨B.exec, B.bytes, B.returns, hml, hown, hts, hX, hbl, B.notSynchronized, hgv⟩
    obtain ⟨t, a1, o, b1, b2, b3⟩ := K s₁ rfl X₀
    exact ⟨t, o, a1, b1, b2, b3⟩
theorem lw_pre_spec {args : Array Value} {s : State} (h : (Jvm.Cond.and given_1 narrow_1).before args s = true) (hr : rest_1_c.before args s = true) : ∃ (b : Addr) (xs : List Int32), lw_P b xs args s := by
  have hs := flat_of_before _ h
  have hq := flat_of_before _ hr
  have hc : (Cond.count 1).before args s = true := hs _ (by decide +kernel)
  have harr : (Cond.arrayOf (.arg 0) .int).before args s = true := hs _ (by decide +kernel)
  have hle : (Cond.le (.length (.arg 0)) (.int 288)).before args s = true := hs _ (by decide +kernel)
  have hlen : (Cond.isInt (.length (.arg 0))).before args s = true := hq _ (by decide +kernel)
  have hall : (Cond.all (.arg 0) (.isInt (.elem (.arg 0) (.index 0)))).before args s = true := hq _ (by decide +kernel)
  obtain ⟨b, xs, hb, hx⟩ := State.ints_of_pre rfl harr hlen hall
  have hsm : xs.length < 2 ^ 31 := hx.choose_spec.2.2.2
  have hev : (Term.length (.arg 0)).eval args s none [] s = some (.int xs.length.toInt32) := hx.length_eval hb
  have hv := Cond.le_ints hev (show (Term.int 288).eval args s none [] s = some (.int 288) from rfl)
  have hd : xs.length.toInt32 ≤ 288 := by
    simpa [Cond.before, Cond.holds, hv] using hle
  have hN : xs.length ≤ 288 := (Int32.ofNat_le_ofNat hsm (by decide)).mp (show Int32.ofNat xs.length ≤ Int32.ofNat 288 from hd)
  exact ⟨b, xs, Cond.one_arg hc (show args[0]? = some (.ref b) from hb), hx, hN, h⟩
theorem lw_comes (l : Launch) (hflags : l.flags = flags0) : Comes l x (Jvm.Cond.code x code maxLocals ret :: tables_1) room_1 (fun tb e args s => Calls_1 tb e args s ∧ rest_1 tb e args s ∧ Pre_1 tb e args s)
    (fun _ _ args s o t => lw_Q args s o t) := by
  intro p e ha hc hk s m args below hf hfit hheap happ hpre
  obtain ⟨b, xs, hP⟩ := lw_pre_spec hpre.2.2 hpre.2.1
  obtain ⟨k, o, h1, h2, h3, hQ⟩ := lw_walk l hflags b xs p e ha hc hk s m args below hf ((Spec.applies_iff_loose hf).mp happ).1 hP trivial
  exact ⟨k, o, h1, h2, h3, hQ⟩
theorem lw_frame {s t : State} {o : Outcome} {args : Array Value} (h : Framed s o t [] 600000 7290000) :
    Framed s o t (fieldLocs frame_1_writes args s ++ arrayLocs frame_1_arrays args s ++ staticLocs frame_1_statics s) 600000 7290000 := h
theorem lw_limb (L : Cond) (hL : ∀ (args : Array Value) (s t : State), L.after args s (.returned (some (.int 1))) t = true) :
    ArmFor flags0 classFile x code maxLocals ret World_1 tables_1 room_1 Calls_1 rest_1 Pre_1
      (fun tb e a s o t => postC L tb e a s o t ∧ Framed s o t (fieldLocs frame_1_writes a s ++ arrayLocs frame_1_arrays a s ++ staticLocs frame_1_statics s) 600000 7290000) := by
  intro l hflags _ _ p e ha hc hk s m args below hf hfit hheap happ hpre
  obtain ⟨k, o, h1, h2, h3, rfl, hF⟩ := lw_comes l hflags p e ha hc hk s m args below hf hfit hheap happ hpre
  exact ⟨k, _, h1, h2, h3, hL args s _, lw_frame hF⟩
theorem i_vc : Claimed_1_1 ∧ Claimed_1_2 := ⟨lw_limb limb_1_1 (fun args s t => by simp [limb_1_1, Cond.after, Cond.holds, Cond.value]), lw_limb limb_1_2 (fun args s t => Cond.after_iff.mpr (by
  first | (rw [show limb_1_2 = Cond.eq .result (.int 1) from rfl, Cond.eq_ints (x := 1) (y := 1) rfl rfl]; simp; done) | (simp [limb_1_2, Cond.value, Term.eval]; done)))⟩
end
