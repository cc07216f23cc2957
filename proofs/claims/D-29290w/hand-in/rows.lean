section
-- ===== PART A: goes FIRST, ahead of the names: the tables' words, and 'selects' of the private methods out of them =====
/-- a private method of a class that the tables say can be made, by its rows of tables_1 -/
def lw_okq (q : MethodName × Nat) : Prop := (q.1.cls ≠ "java/lang/invoke/MethodHandle" ∧ q.1.cls ≠ "java/lang/invoke/VarHandle") ∧ Cond.instantiable q.1.cls q.2 ∈ tables_1 ∧ Cond.privateMethod q.1 ∈ tables_1 ∧ Cond.instanceMethod q.1 ∈ tables_1
set_option maxRecDepth 100000
theorem lw_p0 : lw_okq (⟨"NtruRingModel", "multiplies", "([III)V"⟩, 3) := ⟨⟨by decide +kernel, by decide +kernel⟩, List.mem_of_getElem? (i := 153) rfl, List.mem_of_getElem? (i := 192) rfl, List.mem_of_getElem? (i := 193) rfl⟩
def lw_privs_1 : List (MethodName × Nat) := [(⟨"NtruRingModel", "multiplies", "([III)V"⟩, 3)]
theorem lw_r1 : ∀ q ∈ lw_privs_1, lw_okq q := List.forall_mem_cons.mpr ⟨lw_p0, fun _ h => absurd h List.not_mem_nil⟩
def lw_privs : List (MethodName × Nat) := lw_privs_1
def lw_tbl : List Cond := k2_sels lw_privs ++ tables_1
theorem lw_privs_ok : ∀ q ∈ lw_privs, lw_okq q := lw_r1
-- ===== ONE list of words for every method: the tables' words that hold all through a run =====
def lw_all : List Cond := lw_tbl.filter goodWord
/-- a word of the tables by its place: claim/WORDS.tsv -/
theorem lw_w {w : Cond} (i : Nat) (h : lw_tbl[i]? = some w) (g : goodWord w = true) : w ∈ lw_all := List.mem_filter.mpr ⟨List.mem_of_getElem? h, g⟩
theorem lw_all_tbl {w : Cond} (h : w ∈ lw_all) : w ∈ lw_tbl := (List.mem_filter.mp h).1
theorem lw_self : GoodIn lw_all lw_all := fun w h => ⟨h, good_of_word (List.mem_filter.mp h).2⟩
/-- a class's field words, by their places -/
theorem lw_in (ws : List Cond) (ps : List Nat) (hp : ws = ps.filterMap (fun i => lw_tbl[i]?)) (hg : ws.all goodWord = true) : ∀ w ∈ ws, w ∈ lw_all := by
  intro w h
  have h1 := List.all_eq_true.mp hg w h
  rw [hp] at h
  obtain ⟨i, -, hi⟩ := List.mem_filterMap.mp h
  exact lw_w i hi h1
/-- the words of a contract for the method y with code b, L locals, answer r -/
abbrev ws_ (y : MethodName) (b : ByteArray) (L : Nat) (r : Option FieldType) : List Cond := Cond.code y b L r :: lw_all
theorem lw_meth {y : MethodName} {b : ByteArray} {L : Nat} {r : Option FieldType} (h : Cond.code y b L r ∈ lw_all) : GoodIn lw_all (ws_ y b L r) := by
  intro w hw
  rcases List.mem_cons.mp hw with e | e
  · rw [e]
    exact lw_self _ h
  · exact lw_self _ e
theorem lw_app {a c : List Cond} (ha : ∀ w ∈ a, w ∈ lw_all) (hc : GoodIn lw_all c) : GoodIn lw_all (a ++ c) := by
  intro w hw
  rcases List.mem_append.mp hw with e | e
  · exact lw_self w (ha w e)
  · exact hc w e
/-- what a call through an object asks: cwV n hts (lw_V ..) -/
theorem lw_V {own : String} {idx : Nat} {C : String} {y : MethodName} {b : ByteArray} {L : Nat} {r : Option FieldType} (h1 : Cond.methodLink own idx y ∈ lw_all) (h2 : Cond.instanceMethod y ∈ lw_all) (h3 : Cond.selects C y y ∈ lw_all) (h4 : Cond.initialized C ∈ lw_all) (h5 : Cond.code y b L r ∈ lw_all) : GoodIn lw_all (wsV own idx C y (ws_ y b L r)) := by
  refine lw_app ?_ (lw_meth h5)
  intro w hw
  simp only [List.mem_cons, List.not_mem_nil, or_false] at hw
  rcases hw with e | e | e | e
  · rw [e]; exact h1
  · rw [e]; exact h2
  · rw [e]; exact h3
  · rw [e]; exact h4
/-- what a static call asks: va_cwS n hts (lw_S ..) -/
theorem lw_S {own : String} {idx : Nat} {y : MethodName} {b : ByteArray} {L : Nat} {r : Option FieldType} (h1 : Cond.methodLink own idx y ∈ lw_all) (h2 : Cond.static y ∈ lw_all) (h3 : Cond.initialized y.cls ∈ lw_all) (h4 : Cond.code y b L r ∈ lw_all) : GoodIn lw_all (va_wsS own idx y (ws_ y b L r)) := by
  refine lw_app ?_ (lw_meth h4)
  intro w hw
  simp only [List.mem_cons, List.not_mem_nil, or_false] at hw
  rcases hw with e | e | e
  · rw [e]; exact h1
  · rw [e]; exact h2
  · rw [e]; exact h3
/-- the words of a contract for a method WITH HANDLERS (hh: its table) -/
abbrev wsW_ (y : MethodName) (b : ByteArray) (L : Nat) (r : Option FieldType) (hh : List (Nat × Nat × Nat × Nat)) : List Cond := Cond.codeWith y b L r hh :: lw_all
theorem lw_methW {y : MethodName} {b : ByteArray} {L : Nat} {r : Option FieldType} {hh : List (Nat × Nat × Nat × Nat)} (h : Cond.codeWith y b L r hh ∈ lw_all) : GoodIn lw_all (wsW_ y b L r hh) := by
  intro w hw
  rcases List.mem_cons.mp hw with e | e
  · rw [e]
    exact lw_self _ h
  · exact lw_self _ e
/-- any list of words by their places (lw_in), good -/
theorem lw_good {ws : List Cond} (h : ∀ w ∈ ws, w ∈ lw_all) : GoodIn lw_all ws := fun w hw => lw_self w (h w hw)
/-- what a call of a method with handlers asks: vx_cwVW n hts (lw_VW ..), vx_cwSW n hts (lw_SW ..) -/
theorem lw_VW {own : String} {idx : Nat} {C : String} {y : MethodName} {b : ByteArray} {L : Nat} {r : Option FieldType} {hh : List (Nat × Nat × Nat × Nat)} (h1 : Cond.methodLink own idx y ∈ lw_all) (h2 : Cond.instanceMethod y ∈ lw_all) (h3 : Cond.selects C y y ∈ lw_all) (h4 : Cond.initialized C ∈ lw_all) (h5 : Cond.codeWith y b L r hh ∈ lw_all) : GoodIn lw_all (wsV own idx C y (wsW_ y b L r hh)) := by
  refine lw_app ?_ (lw_methW h5)
  intro w hw
  simp only [List.mem_cons, List.not_mem_nil, or_false] at hw
  rcases hw with e | e | e | e
  · rw [e]; exact h1
  · rw [e]; exact h2
  · rw [e]; exact h3
  · rw [e]; exact h4
theorem lw_SW {own : String} {idx : Nat} {y : MethodName} {b : ByteArray} {L : Nat} {r : Option FieldType} {hh : List (Nat × Nat × Nat × Nat)} (h1 : Cond.methodLink own idx y ∈ lw_all) (h2 : Cond.static y ∈ lw_all) (h3 : Cond.initialized y.cls ∈ lw_all) (h4 : Cond.codeWith y b L r hh ∈ lw_all) : GoodIn lw_all (va_wsS own idx y (wsW_ y b L r hh)) := by
  refine lw_app ?_ (lw_methW h4)
  intro w hw
  simp only [List.mem_cons, List.not_mem_nil, or_false] at hw
  rcases hw with e | e | e
  · rw [e]; exact h1
  · rw [e]; exact h2
  · rw [e]; exact h3
/-- a word by its place in its run of the tables -/
theorem lw_at {r : List Cond} (hr : ∀ w ∈ r, w ∈ lw_tbl) {w : Cond} (i : Nat) (h : r[i]? = some w) : w ∈ lw_tbl := hr w (List.mem_of_getElem? h)
theorem lw_g {w : Cond} (h : w ∈ lw_tbl) (g : goodWord w = true) : w ∈ lw_all := List.mem_filter.mpr ⟨h, g⟩
theorem lw_ms : ∀ w ∈ k2_sels lw_privs, w ∈ lw_tbl := fun w h => show w ∈ k2_sels lw_privs ++ tables_1 from List.mem_append_left _ h
theorem lw_m0 : ∀ w ∈ tables_1, w ∈ lw_tbl := fun w h => show w ∈ k2_sels lw_privs ++ tables_1 from List.mem_append_right (k2_sels lw_privs) h
theorem qs0 : (Cond.selects "NtruRingModel" ⟨"NtruRingModel", "multiplies", "([III)V"⟩ ⟨"NtruRingModel", "multiplies", "([III)V"⟩) ∈ lw_all := lw_g (lw_at lw_ms 0 rfl) rfl
end
section
/-! DECODE ROWS BY BYTES: one lemma an opcode; a method's code is cut into short pieces once, and a row reads its own piece alone. -/
set_option maxRecDepth 100000
/-- the code has just these bytes from pc on -/
def DkAt (code : ByteArray) (pc : Nat) (bs : List UInt8) : Prop := ∀ (j : Nat) (b : UInt8), bs[j]? = some b → code.data.toList[pc + j]? = some b
/-- the piece W has the bytes bs from its place j on -/
def dkIn (W : List UInt8) (j : Nat) (bs : List UInt8) : Bool := decide ((W.drop j).take bs.length = bs)
theorem dk_seg {l W T : List UInt8} {o o2 : Nat} (h : l.drop o = W ++ T) (n : Nat) (hn : W.length = n) (ho : o + n = o2) : l.drop o2 = T := by
  subst ho
  rw [← List.drop_drop, h, List.drop_left' hn]
theorem dk_at {code : ByteArray} {W T bs : List UInt8} {o pc : Nat} (h : code.data.toList.drop o = W ++ T) (j : Nat) (hp : o + j = pc) (hw : dkIn W j bs = true) : DkAt code pc bs := by
  subst hp
  intro i b e
  have h1 := of_decide_eq_true hw
  have h2 : i < bs.length := (List.getElem?_eq_some_iff.mp e).1
  have h3 : W[j + i]? = some b := by
    rw [← h1, List.getElem?_take, if_pos h2, List.getElem?_drop] at e
    exact e
  have h4 : j + i < W.length := (List.getElem?_eq_some_iff.mp h3).1
  have h5 : (code.data.toList.drop o)[j + i]? = some b := by
    rw [h, List.getElem?_append_left h4]
    exact h3
  rw [List.getElem?_drop, ← Nat.add_assoc] at h5
  exact h5
theorem dk_u1 {A : ByteArray} {p : Nat} {b : UInt8} (h : A.data.toList[p]? = some b) : (Reader.u1 : Reader DecodeError Nat) A p = .ok (b.toNat, p + 1) := by
  obtain ⟨h1, h2⟩ := List.getElem?_eq_some_iff.mp h
  have h3 : p < A.size := by simpa using h1
  have h4 : A[p]'h3 = b := h2
  have e : (Reader.u1 : Reader DecodeError Nat) A p = (if h : p < A.size then .ok (A[p].toNat, p + 1) else .error (HasTruncated.truncated p)) := by
    show (do if h : p < A.size then do set (p + 1); Pure.pure A[p].toNat else MonadExcept.throw (HasTruncated.truncated p) : Reader DecodeError Nat) A p = _
    by_cases hi : p < A.size
    · rw [dif_pos hi, dif_pos hi]; rfl
    · rw [dif_neg hi, dif_neg hi]; rfl
  rw [e, dif_pos h3, h4]
theorem dk_bind {α β : Type} {r : Reader DecodeError α} {f : α → Reader DecodeError β} {A : ByteArray} {p s : Nat} {a : α} (h : r A p = .ok (a, s)) : (r >>= f) A p = f a A s := by
  show (do let (a, s) ← r A p; f a A s : Except DecodeError (β × Nat)) = _
  rw [h]
  rfl
theorem dk_map {α β : Type} {r : Reader DecodeError α} {g : α → β} {A : ByteArray} {p s : Nat} {a : α} (h : r A p = .ok (a, s)) : (g <$> r) A p = .ok (g a, s) := by
  show (do let (a, s) ← r A p; .ok (g a, s) : Except DecodeError (β × Nat)) = _
  rw [h]
  rfl
theorem dk_u2 {A : ByteArray} {p : Nat} {a b : UInt8} (h : A.data.toList[p]? = some a) (h2 : A.data.toList[p + 1]? = some b) : (Reader.u2 : Reader DecodeError Nat) A p = .ok (a.toNat * 256 + b.toNat, p + 2) := by
  show (Reader.u1 >>= fun hi => Reader.u1 >>= fun lo => Pure.pure (hi * 256 + lo) : Reader DecodeError Nat) A p = _
  rw [dk_bind (dk_u1 h), dk_bind (dk_u1 h2)]
  rfl
theorem dk_of {code : ByteArray} {pc n : Nat} {i : Instr} (h : Decoder.instr pc code pc = .ok (i, pc + n)) : decode code pc = .ok (i, n) := by
  have e : decode code pc = (match Decoder.instr pc code pc with | .error x => .error x | .ok (j, s) => .ok (j, s - pc)) := by
    show (do let (j, s) ← Decoder.instr pc code pc; Pure.pure (j, s - pc) : Except DecodeError (Instr × Nat)) = _
    cases Decoder.instr pc code pc <;> rfl
  rw [e, h]
  show Except.ok (i, pc + n - pc) = _
  rw [Nat.add_sub_cancel_left]
theorem dk_2 {code : ByteArray} {pc : Nat} (h : DkAt code pc [2]) : decode code pc = .ok (.iconst (-1), 1) := dk_of ((dk_bind (dk_u1 (h 0 _ rfl))).trans rfl)
theorem dk_3 {code : ByteArray} {pc : Nat} (h : DkAt code pc [3]) : decode code pc = .ok (.iconst 0, 1) := dk_of ((dk_bind (dk_u1 (h 0 _ rfl))).trans rfl)
theorem dk_4 {code : ByteArray} {pc : Nat} (h : DkAt code pc [4]) : decode code pc = .ok (.iconst 1, 1) := dk_of ((dk_bind (dk_u1 (h 0 _ rfl))).trans rfl)
theorem dk_5 {code : ByteArray} {pc : Nat} (h : DkAt code pc [5]) : decode code pc = .ok (.iconst 2, 1) := dk_of ((dk_bind (dk_u1 (h 0 _ rfl))).trans rfl)
theorem dk_6 {code : ByteArray} {pc : Nat} (h : DkAt code pc [6]) : decode code pc = .ok (.iconst 3, 1) := dk_of ((dk_bind (dk_u1 (h 0 _ rfl))).trans rfl)
theorem dk_7 {code : ByteArray} {pc : Nat} (h : DkAt code pc [7]) : decode code pc = .ok (.iconst 4, 1) := dk_of ((dk_bind (dk_u1 (h 0 _ rfl))).trans rfl)
theorem dk_16 {code : ByteArray} {pc : Nat} (a : UInt8) (h : DkAt code pc [16, a]) : decode code pc = .ok (.bipush (Reader.signed 8 a.toNat), 2) := dk_of ((dk_bind (dk_u1 (h 0 _ rfl))).trans ((dk_bind (dk_map (dk_u1 (h 1 _ rfl)))).trans rfl))
theorem dk_17 {code : ByteArray} {pc : Nat} (a b : UInt8) (h : DkAt code pc [17, a, b]) : decode code pc = .ok (.sipush (Reader.signed 16 (a.toNat * 256 + b.toNat)), 3) := dk_of ((dk_bind (dk_u1 (h 0 _ rfl))).trans ((dk_bind (dk_map (dk_u2 (h 1 _ rfl) (h 2 _ rfl)))).trans rfl))
theorem dk_18 {code : ByteArray} {pc : Nat} (a : UInt8) (h : DkAt code pc [18, a]) : decode code pc = .ok (.ldc a.toNat, 2) := dk_of ((dk_bind (dk_u1 (h 0 _ rfl))).trans ((dk_bind (dk_u1 (h 1 _ rfl))).trans rfl))
theorem dk_21 {code : ByteArray} {pc : Nat} (a : UInt8) (h : DkAt code pc [21, a]) : decode code pc = .ok (.iload a.toNat, 2) := dk_of ((dk_bind (dk_u1 (h 0 _ rfl))).trans ((dk_bind (dk_u1 (h 1 _ rfl))).trans rfl))
theorem dk_25 {code : ByteArray} {pc : Nat} (a : UInt8) (h : DkAt code pc [25, a]) : decode code pc = .ok (.aload a.toNat, 2) := dk_of ((dk_bind (dk_u1 (h 0 _ rfl))).trans ((dk_bind (dk_u1 (h 1 _ rfl))).trans rfl))
theorem dk_26 {code : ByteArray} {pc : Nat} (h : DkAt code pc [26]) : decode code pc = .ok (.iload_n 0, 1) := dk_of ((dk_bind (dk_u1 (h 0 _ rfl))).trans rfl)
theorem dk_27 {code : ByteArray} {pc : Nat} (h : DkAt code pc [27]) : decode code pc = .ok (.iload_n 1, 1) := dk_of ((dk_bind (dk_u1 (h 0 _ rfl))).trans rfl)
theorem dk_28 {code : ByteArray} {pc : Nat} (h : DkAt code pc [28]) : decode code pc = .ok (.iload_n 2, 1) := dk_of ((dk_bind (dk_u1 (h 0 _ rfl))).trans rfl)
theorem dk_29 {code : ByteArray} {pc : Nat} (h : DkAt code pc [29]) : decode code pc = .ok (.iload_n 3, 1) := dk_of ((dk_bind (dk_u1 (h 0 _ rfl))).trans rfl)
theorem dk_42 {code : ByteArray} {pc : Nat} (h : DkAt code pc [42]) : decode code pc = .ok (.aload_n 0, 1) := dk_of ((dk_bind (dk_u1 (h 0 _ rfl))).trans rfl)
theorem dk_43 {code : ByteArray} {pc : Nat} (h : DkAt code pc [43]) : decode code pc = .ok (.aload_n 1, 1) := dk_of ((dk_bind (dk_u1 (h 0 _ rfl))).trans rfl)
theorem dk_44 {code : ByteArray} {pc : Nat} (h : DkAt code pc [44]) : decode code pc = .ok (.aload_n 2, 1) := dk_of ((dk_bind (dk_u1 (h 0 _ rfl))).trans rfl)
theorem dk_45 {code : ByteArray} {pc : Nat} (h : DkAt code pc [45]) : decode code pc = .ok (.aload_n 3, 1) := dk_of ((dk_bind (dk_u1 (h 0 _ rfl))).trans rfl)
theorem dk_46 {code : ByteArray} {pc : Nat} (h : DkAt code pc [46]) : decode code pc = .ok (.iaload, 1) := dk_of ((dk_bind (dk_u1 (h 0 _ rfl))).trans rfl)
theorem dk_50 {code : ByteArray} {pc : Nat} (h : DkAt code pc [50]) : decode code pc = .ok (.aaload, 1) := dk_of ((dk_bind (dk_u1 (h 0 _ rfl))).trans rfl)
theorem dk_53 {code : ByteArray} {pc : Nat} (h : DkAt code pc [53]) : decode code pc = .ok (.saload, 1) := dk_of ((dk_bind (dk_u1 (h 0 _ rfl))).trans rfl)
theorem dk_54 {code : ByteArray} {pc : Nat} (a : UInt8) (h : DkAt code pc [54, a]) : decode code pc = .ok (.istore a.toNat, 2) := dk_of ((dk_bind (dk_u1 (h 0 _ rfl))).trans ((dk_bind (dk_u1 (h 1 _ rfl))).trans rfl))
theorem dk_58 {code : ByteArray} {pc : Nat} (a : UInt8) (h : DkAt code pc [58, a]) : decode code pc = .ok (.astore a.toNat, 2) := dk_of ((dk_bind (dk_u1 (h 0 _ rfl))).trans ((dk_bind (dk_u1 (h 1 _ rfl))).trans rfl))
theorem dk_60 {code : ByteArray} {pc : Nat} (h : DkAt code pc [60]) : decode code pc = .ok (.istore_n 1, 1) := dk_of ((dk_bind (dk_u1 (h 0 _ rfl))).trans rfl)
theorem dk_61 {code : ByteArray} {pc : Nat} (h : DkAt code pc [61]) : decode code pc = .ok (.istore_n 2, 1) := dk_of ((dk_bind (dk_u1 (h 0 _ rfl))).trans rfl)
theorem dk_62 {code : ByteArray} {pc : Nat} (h : DkAt code pc [62]) : decode code pc = .ok (.istore_n 3, 1) := dk_of ((dk_bind (dk_u1 (h 0 _ rfl))).trans rfl)
theorem dk_76 {code : ByteArray} {pc : Nat} (h : DkAt code pc [76]) : decode code pc = .ok (.astore_n 1, 1) := dk_of ((dk_bind (dk_u1 (h 0 _ rfl))).trans rfl)
theorem dk_77 {code : ByteArray} {pc : Nat} (h : DkAt code pc [77]) : decode code pc = .ok (.astore_n 2, 1) := dk_of ((dk_bind (dk_u1 (h 0 _ rfl))).trans rfl)
theorem dk_78 {code : ByteArray} {pc : Nat} (h : DkAt code pc [78]) : decode code pc = .ok (.astore_n 3, 1) := dk_of ((dk_bind (dk_u1 (h 0 _ rfl))).trans rfl)
theorem dk_79 {code : ByteArray} {pc : Nat} (h : DkAt code pc [79]) : decode code pc = .ok (.iastore, 1) := dk_of ((dk_bind (dk_u1 (h 0 _ rfl))).trans rfl)
theorem dk_83 {code : ByteArray} {pc : Nat} (h : DkAt code pc [83]) : decode code pc = .ok (.aastore, 1) := dk_of ((dk_bind (dk_u1 (h 0 _ rfl))).trans rfl)
theorem dk_86 {code : ByteArray} {pc : Nat} (h : DkAt code pc [86]) : decode code pc = .ok (.sastore, 1) := dk_of ((dk_bind (dk_u1 (h 0 _ rfl))).trans rfl)
theorem dk_89 {code : ByteArray} {pc : Nat} (h : DkAt code pc [89]) : decode code pc = .ok (.dup, 1) := dk_of ((dk_bind (dk_u1 (h 0 _ rfl))).trans rfl)
theorem dk_92 {code : ByteArray} {pc : Nat} (h : DkAt code pc [92]) : decode code pc = .ok (.dup2, 1) := dk_of ((dk_bind (dk_u1 (h 0 _ rfl))).trans rfl)
theorem dk_96 {code : ByteArray} {pc : Nat} (h : DkAt code pc [96]) : decode code pc = .ok (.iadd, 1) := dk_of ((dk_bind (dk_u1 (h 0 _ rfl))).trans rfl)
theorem dk_100 {code : ByteArray} {pc : Nat} (h : DkAt code pc [100]) : decode code pc = .ok (.isub, 1) := dk_of ((dk_bind (dk_u1 (h 0 _ rfl))).trans rfl)
theorem dk_104 {code : ByteArray} {pc : Nat} (h : DkAt code pc [104]) : decode code pc = .ok (.imul, 1) := dk_of ((dk_bind (dk_u1 (h 0 _ rfl))).trans rfl)
theorem dk_112 {code : ByteArray} {pc : Nat} (h : DkAt code pc [112]) : decode code pc = .ok (.irem, 1) := dk_of ((dk_bind (dk_u1 (h 0 _ rfl))).trans rfl)
theorem dk_122 {code : ByteArray} {pc : Nat} (h : DkAt code pc [122]) : decode code pc = .ok (.ishr, 1) := dk_of ((dk_bind (dk_u1 (h 0 _ rfl))).trans rfl)
theorem dk_124 {code : ByteArray} {pc : Nat} (h : DkAt code pc [124]) : decode code pc = .ok (.iushr, 1) := dk_of ((dk_bind (dk_u1 (h 0 _ rfl))).trans rfl)
theorem dk_126 {code : ByteArray} {pc : Nat} (h : DkAt code pc [126]) : decode code pc = .ok (.iand, 1) := dk_of ((dk_bind (dk_u1 (h 0 _ rfl))).trans rfl)
theorem dk_130 {code : ByteArray} {pc : Nat} (h : DkAt code pc [130]) : decode code pc = .ok (.ixor, 1) := dk_of ((dk_bind (dk_u1 (h 0 _ rfl))).trans rfl)
theorem dk_132 {code : ByteArray} {pc : Nat} (a b : UInt8) (h : DkAt code pc [132, a, b]) : decode code pc = .ok (.iinc a.toNat (Reader.signed 8 b.toNat), 3) := dk_of ((dk_bind (dk_u1 (h 0 _ rfl))).trans ((dk_bind (dk_u1 (h 1 _ rfl))).trans ((dk_bind (dk_map (dk_u1 (h 2 _ rfl)))).trans rfl)))
theorem dk_147 {code : ByteArray} {pc : Nat} (h : DkAt code pc [147]) : decode code pc = .ok (.i2s, 1) := dk_of ((dk_bind (dk_u1 (h 0 _ rfl))).trans rfl)
theorem dk_154 {code : ByteArray} {pc : Nat} (a b : UInt8) (h : DkAt code pc [154, a, b]) : decode code pc = .ok (.ifCond .ne (Reader.signed 16 (a.toNat * 256 + b.toNat)), 3) := dk_of ((dk_bind (dk_u1 (h 0 _ rfl))).trans ((dk_bind (dk_map (dk_u2 (h 1 _ rfl) (h 2 _ rfl)))).trans rfl))
theorem dk_159 {code : ByteArray} {pc : Nat} (a b : UInt8) (h : DkAt code pc [159, a, b]) : decode code pc = .ok (.if_icmp .eq (Reader.signed 16 (a.toNat * 256 + b.toNat)), 3) := dk_of ((dk_bind (dk_u1 (h 0 _ rfl))).trans ((dk_bind (dk_map (dk_u2 (h 1 _ rfl) (h 2 _ rfl)))).trans rfl))
theorem dk_160 {code : ByteArray} {pc : Nat} (a b : UInt8) (h : DkAt code pc [160, a, b]) : decode code pc = .ok (.if_icmp .ne (Reader.signed 16 (a.toNat * 256 + b.toNat)), 3) := dk_of ((dk_bind (dk_u1 (h 0 _ rfl))).trans ((dk_bind (dk_map (dk_u2 (h 1 _ rfl) (h 2 _ rfl)))).trans rfl))
theorem dk_162 {code : ByteArray} {pc : Nat} (a b : UInt8) (h : DkAt code pc [162, a, b]) : decode code pc = .ok (.if_icmp .ge (Reader.signed 16 (a.toNat * 256 + b.toNat)), 3) := dk_of ((dk_bind (dk_u1 (h 0 _ rfl))).trans ((dk_bind (dk_map (dk_u2 (h 1 _ rfl) (h 2 _ rfl)))).trans rfl))
theorem dk_163 {code : ByteArray} {pc : Nat} (a b : UInt8) (h : DkAt code pc [163, a, b]) : decode code pc = .ok (.if_icmp .gt (Reader.signed 16 (a.toNat * 256 + b.toNat)), 3) := dk_of ((dk_bind (dk_u1 (h 0 _ rfl))).trans ((dk_bind (dk_map (dk_u2 (h 1 _ rfl) (h 2 _ rfl)))).trans rfl))
theorem dk_167 {code : ByteArray} {pc : Nat} (a b : UInt8) (h : DkAt code pc [167, a, b]) : decode code pc = .ok (.goto (Reader.signed 16 (a.toNat * 256 + b.toNat)), 3) := dk_of ((dk_bind (dk_u1 (h 0 _ rfl))).trans ((dk_bind (dk_map (dk_u2 (h 1 _ rfl) (h 2 _ rfl)))).trans rfl))
theorem dk_172 {code : ByteArray} {pc : Nat} (h : DkAt code pc [172]) : decode code pc = .ok (.ireturn, 1) := dk_of ((dk_bind (dk_u1 (h 0 _ rfl))).trans rfl)
theorem dk_176 {code : ByteArray} {pc : Nat} (h : DkAt code pc [176]) : decode code pc = .ok (.areturn, 1) := dk_of ((dk_bind (dk_u1 (h 0 _ rfl))).trans rfl)
theorem dk_177 {code : ByteArray} {pc : Nat} (h : DkAt code pc [177]) : decode code pc = .ok (.return_, 1) := dk_of ((dk_bind (dk_u1 (h 0 _ rfl))).trans rfl)
theorem dk_180 {code : ByteArray} {pc : Nat} (a b : UInt8) (h : DkAt code pc [180, a, b]) : decode code pc = .ok (.getfield (a.toNat * 256 + b.toNat), 3) := dk_of ((dk_bind (dk_u1 (h 0 _ rfl))).trans ((dk_bind (dk_u2 (h 1 _ rfl) (h 2 _ rfl))).trans rfl))
theorem dk_181 {code : ByteArray} {pc : Nat} (a b : UInt8) (h : DkAt code pc [181, a, b]) : decode code pc = .ok (.putfield (a.toNat * 256 + b.toNat), 3) := dk_of ((dk_bind (dk_u1 (h 0 _ rfl))).trans ((dk_bind (dk_u2 (h 1 _ rfl) (h 2 _ rfl))).trans rfl))
theorem dk_182 {code : ByteArray} {pc : Nat} (a b : UInt8) (h : DkAt code pc [182, a, b]) : decode code pc = .ok (.invokevirtual (a.toNat * 256 + b.toNat), 3) := dk_of ((dk_bind (dk_u1 (h 0 _ rfl))).trans ((dk_bind (dk_u2 (h 1 _ rfl) (h 2 _ rfl))).trans rfl))
theorem dk_183 {code : ByteArray} {pc : Nat} (a b : UInt8) (h : DkAt code pc [183, a, b]) : decode code pc = .ok (.invokespecial (a.toNat * 256 + b.toNat), 3) := dk_of ((dk_bind (dk_u1 (h 0 _ rfl))).trans ((dk_bind (dk_u2 (h 1 _ rfl) (h 2 _ rfl))).trans rfl))
theorem dk_184 {code : ByteArray} {pc : Nat} (a b : UInt8) (h : DkAt code pc [184, a, b]) : decode code pc = .ok (.invokestatic (a.toNat * 256 + b.toNat), 3) := dk_of ((dk_bind (dk_u1 (h 0 _ rfl))).trans ((dk_bind (dk_u2 (h 1 _ rfl) (h 2 _ rfl))).trans rfl))
theorem dk_187 {code : ByteArray} {pc : Nat} (a b : UInt8) (h : DkAt code pc [187, a, b]) : decode code pc = .ok (.new (a.toNat * 256 + b.toNat), 3) := dk_of ((dk_bind (dk_u1 (h 0 _ rfl))).trans ((dk_bind (dk_u2 (h 1 _ rfl) (h 2 _ rfl))).trans rfl))
theorem dk_188_9 {code : ByteArray} {pc : Nat} (h : DkAt code pc [188, 9]) : decode code pc = .ok (.newarray .short, 2) := dk_of ((dk_bind (dk_u1 (h 0 _ rfl))).trans ((dk_bind (dk_u1 (h 1 _ rfl))).trans rfl))
theorem dk_188_10 {code : ByteArray} {pc : Nat} (h : DkAt code pc [188, 10]) : decode code pc = .ok (.newarray .int, 2) := dk_of ((dk_bind (dk_u1 (h 0 _ rfl))).trans ((dk_bind (dk_u1 (h 1 _ rfl))).trans rfl))
theorem dk_189 {code : ByteArray} {pc : Nat} (a b : UInt8) (h : DkAt code pc [189, a, b]) : decode code pc = .ok (.anewarray (a.toNat * 256 + b.toNat), 3) := dk_of ((dk_bind (dk_u1 (h 0 _ rfl))).trans ((dk_bind (dk_u2 (h 1 _ rfl) (h 2 _ rfl))).trans rfl))
theorem dk_190 {code : ByteArray} {pc : Nat} (h : DkAt code pc [190]) : decode code pc = .ok (.arraylength, 1) := dk_of ((dk_bind (dk_u1 (h 0 _ rfl))).trans rfl)
/-! NtruRing -/
set_option maxRecDepth 100000
def RX0 : String := "NtruRing"
def TX0 : u_T := fun k => match k with
  | 0 => ("NtruRing", "wide", "[LPolynomial;", true)
  | _ => ("NtruRing", "small", "[LPolynomial;", true)
def tyX0 : Nat → FieldType := fun k => match k with
  | 0 => .array (.object "Polynomial")
  | _ => .array (.object "Polynomial")
abbrev wsX00 : List Cond := u_ws RX0 TX0 2
theorem nmX0 : ∀ a, a < 2 → ∀ b, b < 2 → a ≠ b → (TX0 a).2.1 ≠ (TX0 b).2.1 := by decide +kernel
theorem tyX0_ok : ∀ k, k < 2 → parseFieldDescriptor (TX0 k).2.2.1 = some (tyX0 k) := by decide +kernel
abbrev cX0_init : ByteArray := prog_5_method_1_code
def yX0_init : MethodName := ⟨RX0, "<init>", "()V"⟩
def dkwX0_init_2 : List UInt8 := [89, 5, 184, 0, 9, 83, 181, 0, 19, 177]
abbrev dktX0_init_2 : List UInt8 := dkwX0_init_2 ++ []
def dkwX0_init_1 : List UInt8 := [184, 0, 9, 83, 181, 0, 15, 42, 6, 189, 0, 7, 89, 3, 184, 0, 9, 83, 89, 4, 184, 0, 9, 83]
abbrev dktX0_init_1 : List UInt8 := dkwX0_init_1 ++ dktX0_init_2
def dkwX0_init_0 : List UInt8 := [42, 183, 0, 1, 42, 6, 189, 0, 7, 89, 3, 184, 0, 9, 83, 89, 4, 184, 0, 9, 83, 89, 5]
abbrev dktX0_init_0 : List UInt8 := dkwX0_init_0 ++ dktX0_init_1
theorem dksX0_init_0 : cX0_init.data.toList.drop 0 = dktX0_init_0 := by decide +kernel
theorem dksX0_init_1 : cX0_init.data.toList.drop 23 = dktX0_init_1 := dk_seg dksX0_init_0 23 rfl rfl
theorem dksX0_init_2 : cX0_init.data.toList.drop 47 = dktX0_init_2 := dk_seg dksX0_init_1 24 rfl rfl
theorem dX0_init_0 : decode cX0_init 0 = .ok (.aload_n 0, 1) := dk_42 (dk_at dksX0_init_0 0 rfl rfl)
theorem dX0_init_1 : decode cX0_init 1 = .ok (.invokespecial 1, 3) := dk_183 0 1 (dk_at dksX0_init_0 1 rfl rfl)
theorem dX0_init_4 : decode cX0_init 4 = .ok (.aload_n 0, 1) := dk_42 (dk_at dksX0_init_0 4 rfl rfl)
theorem dX0_init_5 : decode cX0_init 5 = .ok (.iconst 3, 1) := dk_6 (dk_at dksX0_init_0 5 rfl rfl)
theorem dX0_init_6 : decode cX0_init 6 = .ok (.anewarray 7, 3) := dk_189 0 7 (dk_at dksX0_init_0 6 rfl rfl)
theorem dX0_init_9 : decode cX0_init 9 = .ok (.dup, 1) := dk_89 (dk_at dksX0_init_0 9 rfl rfl)
theorem dX0_init_10 : decode cX0_init 10 = .ok (.iconst 0, 1) := dk_3 (dk_at dksX0_init_0 10 rfl rfl)
theorem dX0_init_11 : decode cX0_init 11 = .ok (.invokestatic 9, 3) := dk_184 0 9 (dk_at dksX0_init_0 11 rfl rfl)
theorem dX0_init_14 : decode cX0_init 14 = .ok (.aastore, 1) := dk_83 (dk_at dksX0_init_0 14 rfl rfl)
theorem dX0_init_15 : decode cX0_init 15 = .ok (.dup, 1) := dk_89 (dk_at dksX0_init_0 15 rfl rfl)
theorem dX0_init_16 : decode cX0_init 16 = .ok (.iconst 1, 1) := dk_4 (dk_at dksX0_init_0 16 rfl rfl)
theorem dX0_init_17 : decode cX0_init 17 = .ok (.invokestatic 9, 3) := dk_184 0 9 (dk_at dksX0_init_0 17 rfl rfl)
theorem dX0_init_20 : decode cX0_init 20 = .ok (.aastore, 1) := dk_83 (dk_at dksX0_init_0 20 rfl rfl)
theorem dX0_init_21 : decode cX0_init 21 = .ok (.dup, 1) := dk_89 (dk_at dksX0_init_0 21 rfl rfl)
theorem dX0_init_22 : decode cX0_init 22 = .ok (.iconst 2, 1) := dk_5 (dk_at dksX0_init_0 22 rfl rfl)
theorem dX0_init_23 : decode cX0_init 23 = .ok (.invokestatic 9, 3) := dk_184 0 9 (dk_at dksX0_init_1 0 rfl rfl)
theorem dX0_init_26 : decode cX0_init 26 = .ok (.aastore, 1) := dk_83 (dk_at dksX0_init_1 3 rfl rfl)
theorem dX0_init_27 : decode cX0_init 27 = .ok (.putfield 15, 3) := dk_181 0 15 (dk_at dksX0_init_1 4 rfl rfl)
theorem dX0_init_30 : decode cX0_init 30 = .ok (.aload_n 0, 1) := dk_42 (dk_at dksX0_init_1 7 rfl rfl)
theorem dX0_init_31 : decode cX0_init 31 = .ok (.iconst 3, 1) := dk_6 (dk_at dksX0_init_1 8 rfl rfl)
theorem dX0_init_32 : decode cX0_init 32 = .ok (.anewarray 7, 3) := dk_189 0 7 (dk_at dksX0_init_1 9 rfl rfl)
theorem dX0_init_35 : decode cX0_init 35 = .ok (.dup, 1) := dk_89 (dk_at dksX0_init_1 12 rfl rfl)
theorem dX0_init_36 : decode cX0_init 36 = .ok (.iconst 0, 1) := dk_3 (dk_at dksX0_init_1 13 rfl rfl)
theorem dX0_init_37 : decode cX0_init 37 = .ok (.invokestatic 9, 3) := dk_184 0 9 (dk_at dksX0_init_1 14 rfl rfl)
theorem dX0_init_40 : decode cX0_init 40 = .ok (.aastore, 1) := dk_83 (dk_at dksX0_init_1 17 rfl rfl)
theorem dX0_init_41 : decode cX0_init 41 = .ok (.dup, 1) := dk_89 (dk_at dksX0_init_1 18 rfl rfl)
theorem dX0_init_42 : decode cX0_init 42 = .ok (.iconst 1, 1) := dk_4 (dk_at dksX0_init_1 19 rfl rfl)
theorem dX0_init_43 : decode cX0_init 43 = .ok (.invokestatic 9, 3) := dk_184 0 9 (dk_at dksX0_init_1 20 rfl rfl)
theorem dX0_init_46 : decode cX0_init 46 = .ok (.aastore, 1) := dk_83 (dk_at dksX0_init_1 23 rfl rfl)
theorem dX0_init_47 : decode cX0_init 47 = .ok (.dup, 1) := dk_89 (dk_at dksX0_init_2 0 rfl rfl)
theorem dX0_init_48 : decode cX0_init 48 = .ok (.iconst 2, 1) := dk_5 (dk_at dksX0_init_2 1 rfl rfl)
theorem dX0_init_49 : decode cX0_init 49 = .ok (.invokestatic 9, 3) := dk_184 0 9 (dk_at dksX0_init_2 2 rfl rfl)
theorem dX0_init_52 : decode cX0_init 52 = .ok (.aastore, 1) := dk_83 (dk_at dksX0_init_2 5 rfl rfl)
theorem dX0_init_53 : decode cX0_init 53 = .ok (.putfield 19, 3) := dk_181 0 19 (dk_at dksX0_init_2 6 rfl rfl)
theorem dX0_init_56 : decode cX0_init 56 = .ok (.return_, 1) := dk_177 (dk_at dksX0_init_2 9 rfl rfl)
abbrev cX0_made : ByteArray := prog_5_method_2_code
def yX0_made : MethodName := ⟨RX0, "made", "()LPolynomial;"⟩
def dkwX0_made_0 : List UInt8 := [187, 0, 22, 89, 187, 0, 24, 89, 183, 0, 26, 183, 0, 27, 176]
abbrev dktX0_made_0 : List UInt8 := dkwX0_made_0 ++ []
theorem dksX0_made_0 : cX0_made.data.toList.drop 0 = dktX0_made_0 := by decide +kernel
theorem dX0_made_0 : decode cX0_made 0 = .ok (.new 22, 3) := dk_187 0 22 (dk_at dksX0_made_0 0 rfl rfl)
theorem dX0_made_3 : decode cX0_made 3 = .ok (.dup, 1) := dk_89 (dk_at dksX0_made_0 3 rfl rfl)
theorem dX0_made_4 : decode cX0_made 4 = .ok (.new 24, 3) := dk_187 0 24 (dk_at dksX0_made_0 4 rfl rfl)
theorem dX0_made_7 : decode cX0_made 7 = .ok (.dup, 1) := dk_89 (dk_at dksX0_made_0 7 rfl rfl)
theorem dX0_made_8 : decode cX0_made 8 = .ok (.invokespecial 26, 3) := dk_183 0 26 (dk_at dksX0_made_0 8 rfl rfl)
theorem dX0_made_11 : decode cX0_made 11 = .ok (.invokespecial 27, 3) := dk_183 0 27 (dk_at dksX0_made_0 11 rfl rfl)
theorem dX0_made_14 : decode cX0_made 14 = .ok (.areturn, 1) := dk_176 (dk_at dksX0_made_0 14 rfl rfl)
abbrev cX0_wide : ByteArray := prog_5_method_4_code
def yX0_wide : MethodName := ⟨RX0, "wide", "(III)V"⟩
def dkwX0_wide_1 : List UInt8 := [126, 147, 86, 177]
abbrev dktX0_wide_1 : List UInt8 := dkwX0_wide_1 ++ []
def dkwX0_wide_0 : List UInt8 := [42, 180, 0, 15, 27, 184, 0, 31, 50, 180, 0, 35, 28, 18, 30, 126, 17, 1, 253, 112, 29, 17, 7, 255]
abbrev dktX0_wide_0 : List UInt8 := dkwX0_wide_0 ++ dktX0_wide_1
theorem dksX0_wide_0 : cX0_wide.data.toList.drop 0 = dktX0_wide_0 := by decide +kernel
theorem dksX0_wide_1 : cX0_wide.data.toList.drop 24 = dktX0_wide_1 := dk_seg dksX0_wide_0 24 rfl rfl
theorem dX0_wide_0 : decode cX0_wide 0 = .ok (.aload_n 0, 1) := dk_42 (dk_at dksX0_wide_0 0 rfl rfl)
theorem dX0_wide_1 : decode cX0_wide 1 = .ok (.getfield 15, 3) := dk_180 0 15 (dk_at dksX0_wide_0 1 rfl rfl)
theorem dX0_wide_4 : decode cX0_wide 4 = .ok (.iload_n 1, 1) := dk_27 (dk_at dksX0_wide_0 4 rfl rfl)
theorem dX0_wide_5 : decode cX0_wide 5 = .ok (.invokestatic 31, 3) := dk_184 0 31 (dk_at dksX0_wide_0 5 rfl rfl)
theorem dX0_wide_8 : decode cX0_wide 8 = .ok (.aaload, 1) := dk_50 (dk_at dksX0_wide_0 8 rfl rfl)
theorem dX0_wide_9 : decode cX0_wide 9 = .ok (.getfield 35, 3) := dk_180 0 35 (dk_at dksX0_wide_0 9 rfl rfl)
theorem dX0_wide_12 : decode cX0_wide 12 = .ok (.iload_n 2, 1) := dk_28 (dk_at dksX0_wide_0 12 rfl rfl)
theorem dX0_wide_13 : decode cX0_wide 13 = .ok (.ldc 30, 2) := dk_18 30 (dk_at dksX0_wide_0 13 rfl rfl)
theorem dX0_wide_15 : decode cX0_wide 15 = .ok (.iand, 1) := dk_126 (dk_at dksX0_wide_0 15 rfl rfl)
theorem dX0_wide_16 : decode cX0_wide 16 = .ok (.sipush 509, 3) := dk_17 1 253 (dk_at dksX0_wide_0 16 rfl rfl)
theorem dX0_wide_19 : decode cX0_wide 19 = .ok (.irem, 1) := dk_112 (dk_at dksX0_wide_0 19 rfl rfl)
theorem dX0_wide_20 : decode cX0_wide 20 = .ok (.iload_n 3, 1) := dk_29 (dk_at dksX0_wide_0 20 rfl rfl)
theorem dX0_wide_21 : decode cX0_wide 21 = .ok (.sipush 2047, 3) := dk_17 7 255 (dk_at dksX0_wide_0 21 rfl rfl)
theorem dX0_wide_24 : decode cX0_wide 24 = .ok (.iand, 1) := dk_126 (dk_at dksX0_wide_1 0 rfl rfl)
theorem dX0_wide_25 : decode cX0_wide 25 = .ok (.i2s, 1) := dk_147 (dk_at dksX0_wide_1 1 rfl rfl)
theorem dX0_wide_26 : decode cX0_wide 26 = .ok (.sastore, 1) := dk_86 (dk_at dksX0_wide_1 2 rfl rfl)
theorem dX0_wide_27 : decode cX0_wide 27 = .ok (.return_, 1) := dk_177 (dk_at dksX0_wide_1 3 rfl rfl)
abbrev cX0_k : ByteArray := prog_5_method_3_code
def yX0_k : MethodName := ⟨RX0, "k", "(I)I"⟩
def dkwX0_k_0 : List UInt8 := [26, 18, 30, 126, 6, 112, 172]
abbrev dktX0_k_0 : List UInt8 := dkwX0_k_0 ++ []
theorem dksX0_k_0 : cX0_k.data.toList.drop 0 = dktX0_k_0 := by decide +kernel
theorem dX0_k_0 : decode cX0_k 0 = .ok (.iload_n 0, 1) := dk_26 (dk_at dksX0_k_0 0 rfl rfl)
theorem dX0_k_1 : decode cX0_k 1 = .ok (.ldc 30, 2) := dk_18 30 (dk_at dksX0_k_0 1 rfl rfl)
theorem dX0_k_3 : decode cX0_k 3 = .ok (.iand, 1) := dk_126 (dk_at dksX0_k_0 3 rfl rfl)
theorem dX0_k_4 : decode cX0_k 4 = .ok (.iconst 3, 1) := dk_6 (dk_at dksX0_k_0 4 rfl rfl)
theorem dX0_k_5 : decode cX0_k 5 = .ok (.irem, 1) := dk_112 (dk_at dksX0_k_0 5 rfl rfl)
theorem dX0_k_6 : decode cX0_k 6 = .ok (.ireturn, 1) := dk_172 (dk_at dksX0_k_0 6 rfl rfl)
abbrev cX0_small : ByteArray := prog_5_method_5_code
def yX0_small : MethodName := ⟨RX0, "small", "(III)V"⟩
def dkwX0_small_1 : List UInt8 := [184, 0, 31, 50, 180, 0, 35, 21, 4, 29, 18, 30, 126, 6, 112, 147, 86, 177]
abbrev dktX0_small_1 : List UInt8 := dkwX0_small_1 ++ []
def dkwX0_small_0 : List UInt8 := [28, 18, 30, 126, 17, 1, 253, 112, 54, 4, 21, 4, 17, 1, 252, 162, 0, 25, 42, 180, 0, 19, 27]
abbrev dktX0_small_0 : List UInt8 := dkwX0_small_0 ++ dktX0_small_1
theorem dksX0_small_0 : cX0_small.data.toList.drop 0 = dktX0_small_0 := by decide +kernel
theorem dksX0_small_1 : cX0_small.data.toList.drop 23 = dktX0_small_1 := dk_seg dksX0_small_0 23 rfl rfl
theorem dX0_small_0 : decode cX0_small 0 = .ok (.iload_n 2, 1) := dk_28 (dk_at dksX0_small_0 0 rfl rfl)
theorem dX0_small_1 : decode cX0_small 1 = .ok (.ldc 30, 2) := dk_18 30 (dk_at dksX0_small_0 1 rfl rfl)
theorem dX0_small_3 : decode cX0_small 3 = .ok (.iand, 1) := dk_126 (dk_at dksX0_small_0 3 rfl rfl)
theorem dX0_small_4 : decode cX0_small 4 = .ok (.sipush 509, 3) := dk_17 1 253 (dk_at dksX0_small_0 4 rfl rfl)
theorem dX0_small_7 : decode cX0_small 7 = .ok (.irem, 1) := dk_112 (dk_at dksX0_small_0 7 rfl rfl)
theorem dX0_small_8 : decode cX0_small 8 = .ok (.istore 4, 2) := dk_54 4 (dk_at dksX0_small_0 8 rfl rfl)
theorem dX0_small_10 : decode cX0_small 10 = .ok (.iload 4, 2) := dk_21 4 (dk_at dksX0_small_0 10 rfl rfl)
theorem dX0_small_12 : decode cX0_small 12 = .ok (.sipush 508, 3) := dk_17 1 252 (dk_at dksX0_small_0 12 rfl rfl)
theorem dX0_small_15 : decode cX0_small 15 = .ok (.if_icmp .ge 25, 3) := dk_162 0 25 (dk_at dksX0_small_0 15 rfl rfl)
theorem dX0_small_18 : decode cX0_small 18 = .ok (.aload_n 0, 1) := dk_42 (dk_at dksX0_small_0 18 rfl rfl)
theorem dX0_small_19 : decode cX0_small 19 = .ok (.getfield 19, 3) := dk_180 0 19 (dk_at dksX0_small_0 19 rfl rfl)
theorem dX0_small_22 : decode cX0_small 22 = .ok (.iload_n 1, 1) := dk_27 (dk_at dksX0_small_0 22 rfl rfl)
theorem dX0_small_23 : decode cX0_small 23 = .ok (.invokestatic 31, 3) := dk_184 0 31 (dk_at dksX0_small_1 0 rfl rfl)
theorem dX0_small_26 : decode cX0_small 26 = .ok (.aaload, 1) := dk_50 (dk_at dksX0_small_1 3 rfl rfl)
theorem dX0_small_27 : decode cX0_small 27 = .ok (.getfield 35, 3) := dk_180 0 35 (dk_at dksX0_small_1 4 rfl rfl)
theorem dX0_small_30 : decode cX0_small 30 = .ok (.iload 4, 2) := dk_21 4 (dk_at dksX0_small_1 7 rfl rfl)
theorem dX0_small_32 : decode cX0_small 32 = .ok (.iload_n 3, 1) := dk_29 (dk_at dksX0_small_1 9 rfl rfl)
theorem dX0_small_33 : decode cX0_small 33 = .ok (.ldc 30, 2) := dk_18 30 (dk_at dksX0_small_1 10 rfl rfl)
theorem dX0_small_35 : decode cX0_small 35 = .ok (.iand, 1) := dk_126 (dk_at dksX0_small_1 12 rfl rfl)
theorem dX0_small_36 : decode cX0_small 36 = .ok (.iconst 3, 1) := dk_6 (dk_at dksX0_small_1 13 rfl rfl)
theorem dX0_small_37 : decode cX0_small 37 = .ok (.irem, 1) := dk_112 (dk_at dksX0_small_1 14 rfl rfl)
theorem dX0_small_38 : decode cX0_small 38 = .ok (.i2s, 1) := dk_147 (dk_at dksX0_small_1 15 rfl rfl)
theorem dX0_small_39 : decode cX0_small 39 = .ok (.sastore, 1) := dk_86 (dk_at dksX0_small_1 16 rfl rfl)
theorem dX0_small_40 : decode cX0_small 40 = .ok (.return_, 1) := dk_177 (dk_at dksX0_small_1 17 rfl rfl)
abbrev cX0_spread : ByteArray := prog_5_method_6_code
def yX0_spread : MethodName := ⟨RX0, "spread", "(III)V"⟩
def dkwX0_spread_3 : List UInt8 := [18, 30, 126, 6, 112, 147, 86, 132, 4, 1, 167, 255, 180, 177]
abbrev dktX0_spread_3 : List UInt8 := dkwX0_spread_3 ++ []
def dkwX0_spread_2 : List UInt8 := [180, 0, 35, 21, 4, 21, 4, 17, 1, 252, 160, 0, 7, 3, 167, 0, 15, 28, 29, 21, 4, 104, 130]
abbrev dktX0_spread_2 : List UInt8 := dkwX0_spread_2 ++ dktX0_spread_3
def dkwX0_spread_1 : List UInt8 := [21, 4, 28, 29, 21, 4, 104, 96, 17, 7, 255, 126, 147, 86, 42, 180, 0, 19, 27, 184, 0, 31, 50]
abbrev dktX0_spread_1 : List UInt8 := dkwX0_spread_1 ++ dktX0_spread_2
def dkwX0_spread_0 : List UInt8 := [3, 54, 4, 21, 4, 17, 1, 253, 162, 0, 74, 42, 180, 0, 15, 27, 184, 0, 31, 50, 180, 0, 35]
abbrev dktX0_spread_0 : List UInt8 := dkwX0_spread_0 ++ dktX0_spread_1
theorem dksX0_spread_0 : cX0_spread.data.toList.drop 0 = dktX0_spread_0 := by decide +kernel
theorem dksX0_spread_1 : cX0_spread.data.toList.drop 23 = dktX0_spread_1 := dk_seg dksX0_spread_0 23 rfl rfl
theorem dksX0_spread_2 : cX0_spread.data.toList.drop 46 = dktX0_spread_2 := dk_seg dksX0_spread_1 23 rfl rfl
theorem dksX0_spread_3 : cX0_spread.data.toList.drop 69 = dktX0_spread_3 := dk_seg dksX0_spread_2 23 rfl rfl
theorem dX0_spread_0 : decode cX0_spread 0 = .ok (.iconst 0, 1) := dk_3 (dk_at dksX0_spread_0 0 rfl rfl)
theorem dX0_spread_1 : decode cX0_spread 1 = .ok (.istore 4, 2) := dk_54 4 (dk_at dksX0_spread_0 1 rfl rfl)
theorem dX0_spread_3 : decode cX0_spread 3 = .ok (.iload 4, 2) := dk_21 4 (dk_at dksX0_spread_0 3 rfl rfl)
theorem dX0_spread_5 : decode cX0_spread 5 = .ok (.sipush 509, 3) := dk_17 1 253 (dk_at dksX0_spread_0 5 rfl rfl)
theorem dX0_spread_8 : decode cX0_spread 8 = .ok (.if_icmp .ge 74, 3) := dk_162 0 74 (dk_at dksX0_spread_0 8 rfl rfl)
theorem dX0_spread_11 : decode cX0_spread 11 = .ok (.aload_n 0, 1) := dk_42 (dk_at dksX0_spread_0 11 rfl rfl)
theorem dX0_spread_12 : decode cX0_spread 12 = .ok (.getfield 15, 3) := dk_180 0 15 (dk_at dksX0_spread_0 12 rfl rfl)
theorem dX0_spread_15 : decode cX0_spread 15 = .ok (.iload_n 1, 1) := dk_27 (dk_at dksX0_spread_0 15 rfl rfl)
theorem dX0_spread_16 : decode cX0_spread 16 = .ok (.invokestatic 31, 3) := dk_184 0 31 (dk_at dksX0_spread_0 16 rfl rfl)
theorem dX0_spread_19 : decode cX0_spread 19 = .ok (.aaload, 1) := dk_50 (dk_at dksX0_spread_0 19 rfl rfl)
theorem dX0_spread_20 : decode cX0_spread 20 = .ok (.getfield 35, 3) := dk_180 0 35 (dk_at dksX0_spread_0 20 rfl rfl)
theorem dX0_spread_23 : decode cX0_spread 23 = .ok (.iload 4, 2) := dk_21 4 (dk_at dksX0_spread_1 0 rfl rfl)
theorem dX0_spread_25 : decode cX0_spread 25 = .ok (.iload_n 2, 1) := dk_28 (dk_at dksX0_spread_1 2 rfl rfl)
theorem dX0_spread_26 : decode cX0_spread 26 = .ok (.iload_n 3, 1) := dk_29 (dk_at dksX0_spread_1 3 rfl rfl)
theorem dX0_spread_27 : decode cX0_spread 27 = .ok (.iload 4, 2) := dk_21 4 (dk_at dksX0_spread_1 4 rfl rfl)
theorem dX0_spread_29 : decode cX0_spread 29 = .ok (.imul, 1) := dk_104 (dk_at dksX0_spread_1 6 rfl rfl)
theorem dX0_spread_30 : decode cX0_spread 30 = .ok (.iadd, 1) := dk_96 (dk_at dksX0_spread_1 7 rfl rfl)
theorem dX0_spread_31 : decode cX0_spread 31 = .ok (.sipush 2047, 3) := dk_17 7 255 (dk_at dksX0_spread_1 8 rfl rfl)
theorem dX0_spread_34 : decode cX0_spread 34 = .ok (.iand, 1) := dk_126 (dk_at dksX0_spread_1 11 rfl rfl)
theorem dX0_spread_35 : decode cX0_spread 35 = .ok (.i2s, 1) := dk_147 (dk_at dksX0_spread_1 12 rfl rfl)
theorem dX0_spread_36 : decode cX0_spread 36 = .ok (.sastore, 1) := dk_86 (dk_at dksX0_spread_1 13 rfl rfl)
theorem dX0_spread_37 : decode cX0_spread 37 = .ok (.aload_n 0, 1) := dk_42 (dk_at dksX0_spread_1 14 rfl rfl)
theorem dX0_spread_38 : decode cX0_spread 38 = .ok (.getfield 19, 3) := dk_180 0 19 (dk_at dksX0_spread_1 15 rfl rfl)
theorem dX0_spread_41 : decode cX0_spread 41 = .ok (.iload_n 1, 1) := dk_27 (dk_at dksX0_spread_1 18 rfl rfl)
theorem dX0_spread_42 : decode cX0_spread 42 = .ok (.invokestatic 31, 3) := dk_184 0 31 (dk_at dksX0_spread_1 19 rfl rfl)
theorem dX0_spread_45 : decode cX0_spread 45 = .ok (.aaload, 1) := dk_50 (dk_at dksX0_spread_1 22 rfl rfl)
theorem dX0_spread_46 : decode cX0_spread 46 = .ok (.getfield 35, 3) := dk_180 0 35 (dk_at dksX0_spread_2 0 rfl rfl)
theorem dX0_spread_49 : decode cX0_spread 49 = .ok (.iload 4, 2) := dk_21 4 (dk_at dksX0_spread_2 3 rfl rfl)
theorem dX0_spread_51 : decode cX0_spread 51 = .ok (.iload 4, 2) := dk_21 4 (dk_at dksX0_spread_2 5 rfl rfl)
theorem dX0_spread_53 : decode cX0_spread 53 = .ok (.sipush 508, 3) := dk_17 1 252 (dk_at dksX0_spread_2 7 rfl rfl)
theorem dX0_spread_56 : decode cX0_spread 56 = .ok (.if_icmp .ne 7, 3) := dk_160 0 7 (dk_at dksX0_spread_2 10 rfl rfl)
theorem dX0_spread_59 : decode cX0_spread 59 = .ok (.iconst 0, 1) := dk_3 (dk_at dksX0_spread_2 13 rfl rfl)
theorem dX0_spread_60 : decode cX0_spread 60 = .ok (.goto 15, 3) := dk_167 0 15 (dk_at dksX0_spread_2 14 rfl rfl)
theorem dX0_spread_63 : decode cX0_spread 63 = .ok (.iload_n 2, 1) := dk_28 (dk_at dksX0_spread_2 17 rfl rfl)
theorem dX0_spread_64 : decode cX0_spread 64 = .ok (.iload_n 3, 1) := dk_29 (dk_at dksX0_spread_2 18 rfl rfl)
theorem dX0_spread_65 : decode cX0_spread 65 = .ok (.iload 4, 2) := dk_21 4 (dk_at dksX0_spread_2 19 rfl rfl)
theorem dX0_spread_67 : decode cX0_spread 67 = .ok (.imul, 1) := dk_104 (dk_at dksX0_spread_2 21 rfl rfl)
theorem dX0_spread_68 : decode cX0_spread 68 = .ok (.ixor, 1) := dk_130 (dk_at dksX0_spread_2 22 rfl rfl)
theorem dX0_spread_69 : decode cX0_spread 69 = .ok (.ldc 30, 2) := dk_18 30 (dk_at dksX0_spread_3 0 rfl rfl)
theorem dX0_spread_71 : decode cX0_spread 71 = .ok (.iand, 1) := dk_126 (dk_at dksX0_spread_3 2 rfl rfl)
theorem dX0_spread_72 : decode cX0_spread 72 = .ok (.iconst 3, 1) := dk_6 (dk_at dksX0_spread_3 3 rfl rfl)
theorem dX0_spread_73 : decode cX0_spread 73 = .ok (.irem, 1) := dk_112 (dk_at dksX0_spread_3 4 rfl rfl)
theorem dX0_spread_74 : decode cX0_spread 74 = .ok (.i2s, 1) := dk_147 (dk_at dksX0_spread_3 5 rfl rfl)
theorem dX0_spread_75 : decode cX0_spread 75 = .ok (.sastore, 1) := dk_86 (dk_at dksX0_spread_3 6 rfl rfl)
theorem dX0_spread_76 : decode cX0_spread 76 = .ok (.iinc 4 1, 3) := dk_132 4 1 (dk_at dksX0_spread_3 7 rfl rfl)
theorem dX0_spread_79 : decode cX0_spread 79 = .ok (.goto (-76), 3) := dk_167 255 180 (dk_at dksX0_spread_3 10 rfl rfl)
theorem dX0_spread_82 : decode cX0_spread 82 = .ok (.return_, 1) := dk_177 (dk_at dksX0_spread_3 13 rfl rfl)
abbrev cX0_times : ByteArray := prog_5_method_8_code
def yX0_times : MethodName := ⟨RX0, "times", "(III)V"⟩
def dkwX0_times_1 : List UInt8 := [50, 182, 0, 39, 25, 4, 184, 0, 43, 42, 180, 0, 15, 27, 184, 0, 31, 25, 4, 83, 177]
abbrev dktX0_times_1 : List UInt8 := dkwX0_times_1 ++ []
def dkwX0_times_0 : List UInt8 := [184, 0, 9, 58, 4, 25, 4, 42, 180, 0, 15, 28, 184, 0, 31, 50, 42, 180, 0, 15, 29, 184, 0, 31]
abbrev dktX0_times_0 : List UInt8 := dkwX0_times_0 ++ dktX0_times_1
theorem dksX0_times_0 : cX0_times.data.toList.drop 0 = dktX0_times_0 := by decide +kernel
theorem dksX0_times_1 : cX0_times.data.toList.drop 24 = dktX0_times_1 := dk_seg dksX0_times_0 24 rfl rfl
theorem dX0_times_0 : decode cX0_times 0 = .ok (.invokestatic 9, 3) := dk_184 0 9 (dk_at dksX0_times_0 0 rfl rfl)
theorem dX0_times_3 : decode cX0_times 3 = .ok (.astore 4, 2) := dk_58 4 (dk_at dksX0_times_0 3 rfl rfl)
theorem dX0_times_5 : decode cX0_times 5 = .ok (.aload 4, 2) := dk_25 4 (dk_at dksX0_times_0 5 rfl rfl)
theorem dX0_times_7 : decode cX0_times 7 = .ok (.aload_n 0, 1) := dk_42 (dk_at dksX0_times_0 7 rfl rfl)
theorem dX0_times_8 : decode cX0_times 8 = .ok (.getfield 15, 3) := dk_180 0 15 (dk_at dksX0_times_0 8 rfl rfl)
theorem dX0_times_11 : decode cX0_times 11 = .ok (.iload_n 2, 1) := dk_28 (dk_at dksX0_times_0 11 rfl rfl)
theorem dX0_times_12 : decode cX0_times 12 = .ok (.invokestatic 31, 3) := dk_184 0 31 (dk_at dksX0_times_0 12 rfl rfl)
theorem dX0_times_15 : decode cX0_times 15 = .ok (.aaload, 1) := dk_50 (dk_at dksX0_times_0 15 rfl rfl)
theorem dX0_times_16 : decode cX0_times 16 = .ok (.aload_n 0, 1) := dk_42 (dk_at dksX0_times_0 16 rfl rfl)
theorem dX0_times_17 : decode cX0_times 17 = .ok (.getfield 15, 3) := dk_180 0 15 (dk_at dksX0_times_0 17 rfl rfl)
theorem dX0_times_20 : decode cX0_times 20 = .ok (.iload_n 3, 1) := dk_29 (dk_at dksX0_times_0 20 rfl rfl)
theorem dX0_times_21 : decode cX0_times 21 = .ok (.invokestatic 31, 3) := dk_184 0 31 (dk_at dksX0_times_0 21 rfl rfl)
theorem dX0_times_24 : decode cX0_times 24 = .ok (.aaload, 1) := dk_50 (dk_at dksX0_times_1 0 rfl rfl)
theorem dX0_times_25 : decode cX0_times 25 = .ok (.invokevirtual 39, 3) := dk_182 0 39 (dk_at dksX0_times_1 1 rfl rfl)
theorem dX0_times_28 : decode cX0_times 28 = .ok (.aload 4, 2) := dk_25 4 (dk_at dksX0_times_1 4 rfl rfl)
theorem dX0_times_30 : decode cX0_times 30 = .ok (.invokestatic 43, 3) := dk_184 0 43 (dk_at dksX0_times_1 6 rfl rfl)
theorem dX0_times_33 : decode cX0_times 33 = .ok (.aload_n 0, 1) := dk_42 (dk_at dksX0_times_1 9 rfl rfl)
theorem dX0_times_34 : decode cX0_times 34 = .ok (.getfield 15, 3) := dk_180 0 15 (dk_at dksX0_times_1 10 rfl rfl)
theorem dX0_times_37 : decode cX0_times 37 = .ok (.iload_n 1, 1) := dk_27 (dk_at dksX0_times_1 13 rfl rfl)
theorem dX0_times_38 : decode cX0_times 38 = .ok (.invokestatic 31, 3) := dk_184 0 31 (dk_at dksX0_times_1 14 rfl rfl)
theorem dX0_times_41 : decode cX0_times 41 = .ok (.aload 4, 2) := dk_25 4 (dk_at dksX0_times_1 17 rfl rfl)
theorem dX0_times_43 : decode cX0_times 43 = .ok (.aastore, 1) := dk_83 (dk_at dksX0_times_1 19 rfl rfl)
theorem dX0_times_44 : decode cX0_times 44 = .ok (.return_, 1) := dk_177 (dk_at dksX0_times_1 20 rfl rfl)
abbrev cX0_cut : ByteArray := prog_5_method_7_code
def yX0_cut : MethodName := ⟨RX0, "cut", "(LPolynomial;)V"⟩
def dkwX0_cut_1 : List UInt8 := [147, 86, 132, 1, 1, 167, 255, 229, 177]
abbrev dktX0_cut_1 : List UInt8 := dkwX0_cut_1 ++ []
def dkwX0_cut_0 : List UInt8 := [3, 60, 27, 17, 1, 253, 162, 0, 26, 42, 180, 0, 35, 27, 42, 180, 0, 35, 27, 53, 17, 7, 255, 126]
abbrev dktX0_cut_0 : List UInt8 := dkwX0_cut_0 ++ dktX0_cut_1
theorem dksX0_cut_0 : cX0_cut.data.toList.drop 0 = dktX0_cut_0 := by decide +kernel
theorem dksX0_cut_1 : cX0_cut.data.toList.drop 24 = dktX0_cut_1 := dk_seg dksX0_cut_0 24 rfl rfl
theorem dX0_cut_0 : decode cX0_cut 0 = .ok (.iconst 0, 1) := dk_3 (dk_at dksX0_cut_0 0 rfl rfl)
theorem dX0_cut_1 : decode cX0_cut 1 = .ok (.istore_n 1, 1) := dk_60 (dk_at dksX0_cut_0 1 rfl rfl)
theorem dX0_cut_2 : decode cX0_cut 2 = .ok (.iload_n 1, 1) := dk_27 (dk_at dksX0_cut_0 2 rfl rfl)
theorem dX0_cut_3 : decode cX0_cut 3 = .ok (.sipush 509, 3) := dk_17 1 253 (dk_at dksX0_cut_0 3 rfl rfl)
theorem dX0_cut_6 : decode cX0_cut 6 = .ok (.if_icmp .ge 26, 3) := dk_162 0 26 (dk_at dksX0_cut_0 6 rfl rfl)
theorem dX0_cut_9 : decode cX0_cut 9 = .ok (.aload_n 0, 1) := dk_42 (dk_at dksX0_cut_0 9 rfl rfl)
theorem dX0_cut_10 : decode cX0_cut 10 = .ok (.getfield 35, 3) := dk_180 0 35 (dk_at dksX0_cut_0 10 rfl rfl)
theorem dX0_cut_13 : decode cX0_cut 13 = .ok (.iload_n 1, 1) := dk_27 (dk_at dksX0_cut_0 13 rfl rfl)
theorem dX0_cut_14 : decode cX0_cut 14 = .ok (.aload_n 0, 1) := dk_42 (dk_at dksX0_cut_0 14 rfl rfl)
theorem dX0_cut_15 : decode cX0_cut 15 = .ok (.getfield 35, 3) := dk_180 0 35 (dk_at dksX0_cut_0 15 rfl rfl)
theorem dX0_cut_18 : decode cX0_cut 18 = .ok (.iload_n 1, 1) := dk_27 (dk_at dksX0_cut_0 18 rfl rfl)
theorem dX0_cut_19 : decode cX0_cut 19 = .ok (.saload, 1) := dk_53 (dk_at dksX0_cut_0 19 rfl rfl)
theorem dX0_cut_20 : decode cX0_cut 20 = .ok (.sipush 2047, 3) := dk_17 7 255 (dk_at dksX0_cut_0 20 rfl rfl)
theorem dX0_cut_23 : decode cX0_cut 23 = .ok (.iand, 1) := dk_126 (dk_at dksX0_cut_0 23 rfl rfl)
theorem dX0_cut_24 : decode cX0_cut 24 = .ok (.i2s, 1) := dk_147 (dk_at dksX0_cut_1 0 rfl rfl)
theorem dX0_cut_25 : decode cX0_cut 25 = .ok (.sastore, 1) := dk_86 (dk_at dksX0_cut_1 1 rfl rfl)
theorem dX0_cut_26 : decode cX0_cut 26 = .ok (.iinc 1 1, 3) := dk_132 1 1 (dk_at dksX0_cut_1 2 rfl rfl)
theorem dX0_cut_29 : decode cX0_cut 29 = .ok (.goto (-27), 3) := dk_167 255 229 (dk_at dksX0_cut_1 5 rfl rfl)
theorem dX0_cut_32 : decode cX0_cut 32 = .ok (.return_, 1) := dk_177 (dk_at dksX0_cut_1 8 rfl rfl)
abbrev cX0_timesPhi : ByteArray := prog_5_method_9_code
def yX0_timesPhi : MethodName := ⟨RX0, "timesPhi", "(III)V"⟩
def dkwX0_timesPhi_1 : List UInt8 := [50, 182, 0, 47, 25, 4, 184, 0, 43, 42, 180, 0, 15, 27, 184, 0, 31, 25, 4, 83, 177]
abbrev dktX0_timesPhi_1 : List UInt8 := dkwX0_timesPhi_1 ++ []
def dkwX0_timesPhi_0 : List UInt8 := [184, 0, 9, 58, 4, 25, 4, 42, 180, 0, 15, 28, 184, 0, 31, 50, 42, 180, 0, 15, 29, 184, 0, 31]
abbrev dktX0_timesPhi_0 : List UInt8 := dkwX0_timesPhi_0 ++ dktX0_timesPhi_1
theorem dksX0_timesPhi_0 : cX0_timesPhi.data.toList.drop 0 = dktX0_timesPhi_0 := by decide +kernel
theorem dksX0_timesPhi_1 : cX0_timesPhi.data.toList.drop 24 = dktX0_timesPhi_1 := dk_seg dksX0_timesPhi_0 24 rfl rfl
theorem dX0_timesPhi_0 : decode cX0_timesPhi 0 = .ok (.invokestatic 9, 3) := dk_184 0 9 (dk_at dksX0_timesPhi_0 0 rfl rfl)
theorem dX0_timesPhi_3 : decode cX0_timesPhi 3 = .ok (.astore 4, 2) := dk_58 4 (dk_at dksX0_timesPhi_0 3 rfl rfl)
theorem dX0_timesPhi_5 : decode cX0_timesPhi 5 = .ok (.aload 4, 2) := dk_25 4 (dk_at dksX0_timesPhi_0 5 rfl rfl)
theorem dX0_timesPhi_7 : decode cX0_timesPhi 7 = .ok (.aload_n 0, 1) := dk_42 (dk_at dksX0_timesPhi_0 7 rfl rfl)
theorem dX0_timesPhi_8 : decode cX0_timesPhi 8 = .ok (.getfield 15, 3) := dk_180 0 15 (dk_at dksX0_timesPhi_0 8 rfl rfl)
theorem dX0_timesPhi_11 : decode cX0_timesPhi 11 = .ok (.iload_n 2, 1) := dk_28 (dk_at dksX0_timesPhi_0 11 rfl rfl)
theorem dX0_timesPhi_12 : decode cX0_timesPhi 12 = .ok (.invokestatic 31, 3) := dk_184 0 31 (dk_at dksX0_timesPhi_0 12 rfl rfl)
theorem dX0_timesPhi_15 : decode cX0_timesPhi 15 = .ok (.aaload, 1) := dk_50 (dk_at dksX0_timesPhi_0 15 rfl rfl)
theorem dX0_timesPhi_16 : decode cX0_timesPhi 16 = .ok (.aload_n 0, 1) := dk_42 (dk_at dksX0_timesPhi_0 16 rfl rfl)
theorem dX0_timesPhi_17 : decode cX0_timesPhi 17 = .ok (.getfield 15, 3) := dk_180 0 15 (dk_at dksX0_timesPhi_0 17 rfl rfl)
theorem dX0_timesPhi_20 : decode cX0_timesPhi 20 = .ok (.iload_n 3, 1) := dk_29 (dk_at dksX0_timesPhi_0 20 rfl rfl)
theorem dX0_timesPhi_21 : decode cX0_timesPhi 21 = .ok (.invokestatic 31, 3) := dk_184 0 31 (dk_at dksX0_timesPhi_0 21 rfl rfl)
theorem dX0_timesPhi_24 : decode cX0_timesPhi 24 = .ok (.aaload, 1) := dk_50 (dk_at dksX0_timesPhi_1 0 rfl rfl)
theorem dX0_timesPhi_25 : decode cX0_timesPhi 25 = .ok (.invokevirtual 47, 3) := dk_182 0 47 (dk_at dksX0_timesPhi_1 1 rfl rfl)
theorem dX0_timesPhi_28 : decode cX0_timesPhi 28 = .ok (.aload 4, 2) := dk_25 4 (dk_at dksX0_timesPhi_1 4 rfl rfl)
theorem dX0_timesPhi_30 : decode cX0_timesPhi 30 = .ok (.invokestatic 43, 3) := dk_184 0 43 (dk_at dksX0_timesPhi_1 6 rfl rfl)
theorem dX0_timesPhi_33 : decode cX0_timesPhi 33 = .ok (.aload_n 0, 1) := dk_42 (dk_at dksX0_timesPhi_1 9 rfl rfl)
theorem dX0_timesPhi_34 : decode cX0_timesPhi 34 = .ok (.getfield 15, 3) := dk_180 0 15 (dk_at dksX0_timesPhi_1 10 rfl rfl)
theorem dX0_timesPhi_37 : decode cX0_timesPhi 37 = .ok (.iload_n 1, 1) := dk_27 (dk_at dksX0_timesPhi_1 13 rfl rfl)
theorem dX0_timesPhi_38 : decode cX0_timesPhi 38 = .ok (.invokestatic 31, 3) := dk_184 0 31 (dk_at dksX0_timesPhi_1 14 rfl rfl)
theorem dX0_timesPhi_41 : decode cX0_timesPhi 41 = .ok (.aload 4, 2) := dk_25 4 (dk_at dksX0_timesPhi_1 17 rfl rfl)
theorem dX0_timesPhi_43 : decode cX0_timesPhi 43 = .ok (.aastore, 1) := dk_83 (dk_at dksX0_timesPhi_1 19 rfl rfl)
theorem dX0_timesPhi_44 : decode cX0_timesPhi 44 = .ok (.return_, 1) := dk_177 (dk_at dksX0_timesPhi_1 20 rfl rfl)
abbrev cX0_timesThree : ByteArray := prog_5_method_10_code
def yX0_timesThree : MethodName := ⟨RX0, "timesThree", "(III)V"⟩
def dkwX0_timesThree_1 : List UInt8 := [50, 182, 0, 50, 42, 180, 0, 19, 27, 184, 0, 31, 25, 4, 83, 177]
abbrev dktX0_timesThree_1 : List UInt8 := dkwX0_timesThree_1 ++ []
def dkwX0_timesThree_0 : List UInt8 := [184, 0, 9, 58, 4, 25, 4, 42, 180, 0, 19, 28, 184, 0, 31, 50, 42, 180, 0, 19, 29, 184, 0, 31]
abbrev dktX0_timesThree_0 : List UInt8 := dkwX0_timesThree_0 ++ dktX0_timesThree_1
theorem dksX0_timesThree_0 : cX0_timesThree.data.toList.drop 0 = dktX0_timesThree_0 := by decide +kernel
theorem dksX0_timesThree_1 : cX0_timesThree.data.toList.drop 24 = dktX0_timesThree_1 := dk_seg dksX0_timesThree_0 24 rfl rfl
theorem dX0_timesThree_0 : decode cX0_timesThree 0 = .ok (.invokestatic 9, 3) := dk_184 0 9 (dk_at dksX0_timesThree_0 0 rfl rfl)
theorem dX0_timesThree_3 : decode cX0_timesThree 3 = .ok (.astore 4, 2) := dk_58 4 (dk_at dksX0_timesThree_0 3 rfl rfl)
theorem dX0_timesThree_5 : decode cX0_timesThree 5 = .ok (.aload 4, 2) := dk_25 4 (dk_at dksX0_timesThree_0 5 rfl rfl)
theorem dX0_timesThree_7 : decode cX0_timesThree 7 = .ok (.aload_n 0, 1) := dk_42 (dk_at dksX0_timesThree_0 7 rfl rfl)
theorem dX0_timesThree_8 : decode cX0_timesThree 8 = .ok (.getfield 19, 3) := dk_180 0 19 (dk_at dksX0_timesThree_0 8 rfl rfl)
theorem dX0_timesThree_11 : decode cX0_timesThree 11 = .ok (.iload_n 2, 1) := dk_28 (dk_at dksX0_timesThree_0 11 rfl rfl)
theorem dX0_timesThree_12 : decode cX0_timesThree 12 = .ok (.invokestatic 31, 3) := dk_184 0 31 (dk_at dksX0_timesThree_0 12 rfl rfl)
theorem dX0_timesThree_15 : decode cX0_timesThree 15 = .ok (.aaload, 1) := dk_50 (dk_at dksX0_timesThree_0 15 rfl rfl)
theorem dX0_timesThree_16 : decode cX0_timesThree 16 = .ok (.aload_n 0, 1) := dk_42 (dk_at dksX0_timesThree_0 16 rfl rfl)
theorem dX0_timesThree_17 : decode cX0_timesThree 17 = .ok (.getfield 19, 3) := dk_180 0 19 (dk_at dksX0_timesThree_0 17 rfl rfl)
theorem dX0_timesThree_20 : decode cX0_timesThree 20 = .ok (.iload_n 3, 1) := dk_29 (dk_at dksX0_timesThree_0 20 rfl rfl)
theorem dX0_timesThree_21 : decode cX0_timesThree 21 = .ok (.invokestatic 31, 3) := dk_184 0 31 (dk_at dksX0_timesThree_0 21 rfl rfl)
theorem dX0_timesThree_24 : decode cX0_timesThree 24 = .ok (.aaload, 1) := dk_50 (dk_at dksX0_timesThree_1 0 rfl rfl)
theorem dX0_timesThree_25 : decode cX0_timesThree 25 = .ok (.invokevirtual 50, 3) := dk_182 0 50 (dk_at dksX0_timesThree_1 1 rfl rfl)
theorem dX0_timesThree_28 : decode cX0_timesThree 28 = .ok (.aload_n 0, 1) := dk_42 (dk_at dksX0_timesThree_1 4 rfl rfl)
theorem dX0_timesThree_29 : decode cX0_timesThree 29 = .ok (.getfield 19, 3) := dk_180 0 19 (dk_at dksX0_timesThree_1 5 rfl rfl)
theorem dX0_timesThree_32 : decode cX0_timesThree 32 = .ok (.iload_n 1, 1) := dk_27 (dk_at dksX0_timesThree_1 8 rfl rfl)
theorem dX0_timesThree_33 : decode cX0_timesThree 33 = .ok (.invokestatic 31, 3) := dk_184 0 31 (dk_at dksX0_timesThree_1 9 rfl rfl)
theorem dX0_timesThree_36 : decode cX0_timesThree 36 = .ok (.aload 4, 2) := dk_25 4 (dk_at dksX0_timesThree_1 12 rfl rfl)
theorem dX0_timesThree_38 : decode cX0_timesThree 38 = .ok (.aastore, 1) := dk_83 (dk_at dksX0_timesThree_1 14 rfl rfl)
theorem dX0_timesThree_39 : decode cX0_timesThree 39 = .ok (.return_, 1) := dk_177 (dk_at dksX0_timesThree_1 15 rfl rfl)
abbrev cX0_wide_2 : ByteArray := prog_5_method_11_code
def yX0_wide_2 : MethodName := ⟨RX0, "wide", "(II)I"⟩
def dkwX0_wide_2_0 : List UInt8 := [42, 180, 0, 15, 27, 184, 0, 31, 50, 180, 0, 35, 28, 18, 30, 126, 17, 1, 253, 112, 53, 172]
abbrev dktX0_wide_2_0 : List UInt8 := dkwX0_wide_2_0 ++ []
theorem dksX0_wide_2_0 : cX0_wide_2.data.toList.drop 0 = dktX0_wide_2_0 := by decide +kernel
theorem dX0_wide_2_0 : decode cX0_wide_2 0 = .ok (.aload_n 0, 1) := dk_42 (dk_at dksX0_wide_2_0 0 rfl rfl)
theorem dX0_wide_2_1 : decode cX0_wide_2 1 = .ok (.getfield 15, 3) := dk_180 0 15 (dk_at dksX0_wide_2_0 1 rfl rfl)
theorem dX0_wide_2_4 : decode cX0_wide_2 4 = .ok (.iload_n 1, 1) := dk_27 (dk_at dksX0_wide_2_0 4 rfl rfl)
theorem dX0_wide_2_5 : decode cX0_wide_2 5 = .ok (.invokestatic 31, 3) := dk_184 0 31 (dk_at dksX0_wide_2_0 5 rfl rfl)
theorem dX0_wide_2_8 : decode cX0_wide_2 8 = .ok (.aaload, 1) := dk_50 (dk_at dksX0_wide_2_0 8 rfl rfl)
theorem dX0_wide_2_9 : decode cX0_wide_2 9 = .ok (.getfield 35, 3) := dk_180 0 35 (dk_at dksX0_wide_2_0 9 rfl rfl)
theorem dX0_wide_2_12 : decode cX0_wide_2 12 = .ok (.iload_n 2, 1) := dk_28 (dk_at dksX0_wide_2_0 12 rfl rfl)
theorem dX0_wide_2_13 : decode cX0_wide_2 13 = .ok (.ldc 30, 2) := dk_18 30 (dk_at dksX0_wide_2_0 13 rfl rfl)
theorem dX0_wide_2_15 : decode cX0_wide_2 15 = .ok (.iand, 1) := dk_126 (dk_at dksX0_wide_2_0 15 rfl rfl)
theorem dX0_wide_2_16 : decode cX0_wide_2 16 = .ok (.sipush 509, 3) := dk_17 1 253 (dk_at dksX0_wide_2_0 16 rfl rfl)
theorem dX0_wide_2_19 : decode cX0_wide_2 19 = .ok (.irem, 1) := dk_112 (dk_at dksX0_wide_2_0 19 rfl rfl)
theorem dX0_wide_2_20 : decode cX0_wide_2 20 = .ok (.saload, 1) := dk_53 (dk_at dksX0_wide_2_0 20 rfl rfl)
theorem dX0_wide_2_21 : decode cX0_wide_2 21 = .ok (.ireturn, 1) := dk_172 (dk_at dksX0_wide_2_0 21 rfl rfl)
abbrev cX0_small_2 : ByteArray := prog_5_method_12_code
def yX0_small_2 : MethodName := ⟨RX0, "small", "(II)I"⟩
def dkwX0_small_2_0 : List UInt8 := [42, 180, 0, 19, 27, 184, 0, 31, 50, 180, 0, 35, 28, 18, 30, 126, 17, 1, 253, 112, 53, 172]
abbrev dktX0_small_2_0 : List UInt8 := dkwX0_small_2_0 ++ []
theorem dksX0_small_2_0 : cX0_small_2.data.toList.drop 0 = dktX0_small_2_0 := by decide +kernel
theorem dX0_small_2_0 : decode cX0_small_2 0 = .ok (.aload_n 0, 1) := dk_42 (dk_at dksX0_small_2_0 0 rfl rfl)
theorem dX0_small_2_1 : decode cX0_small_2 1 = .ok (.getfield 19, 3) := dk_180 0 19 (dk_at dksX0_small_2_0 1 rfl rfl)
theorem dX0_small_2_4 : decode cX0_small_2 4 = .ok (.iload_n 1, 1) := dk_27 (dk_at dksX0_small_2_0 4 rfl rfl)
theorem dX0_small_2_5 : decode cX0_small_2 5 = .ok (.invokestatic 31, 3) := dk_184 0 31 (dk_at dksX0_small_2_0 5 rfl rfl)
theorem dX0_small_2_8 : decode cX0_small_2 8 = .ok (.aaload, 1) := dk_50 (dk_at dksX0_small_2_0 8 rfl rfl)
theorem dX0_small_2_9 : decode cX0_small_2 9 = .ok (.getfield 35, 3) := dk_180 0 35 (dk_at dksX0_small_2_0 9 rfl rfl)
theorem dX0_small_2_12 : decode cX0_small_2 12 = .ok (.iload_n 2, 1) := dk_28 (dk_at dksX0_small_2_0 12 rfl rfl)
theorem dX0_small_2_13 : decode cX0_small_2 13 = .ok (.ldc 30, 2) := dk_18 30 (dk_at dksX0_small_2_0 13 rfl rfl)
theorem dX0_small_2_15 : decode cX0_small_2 15 = .ok (.iand, 1) := dk_126 (dk_at dksX0_small_2_0 15 rfl rfl)
theorem dX0_small_2_16 : decode cX0_small_2 16 = .ok (.sipush 509, 3) := dk_17 1 253 (dk_at dksX0_small_2_0 16 rfl rfl)
theorem dX0_small_2_19 : decode cX0_small_2 19 = .ok (.irem, 1) := dk_112 (dk_at dksX0_small_2_0 19 rfl rfl)
theorem dX0_small_2_20 : decode cX0_small_2 20 = .ok (.saload, 1) := dk_53 (dk_at dksX0_small_2_0 20 rfl rfl)
theorem dX0_small_2_21 : decode cX0_small_2 21 = .ok (.ireturn, 1) := dk_172 (dk_at dksX0_small_2_0 21 rfl rfl)
theorem q2 : (Jvm.Cond.initialized "NtruRing") ∈ lw_all := lw_g (lw_at lw_m0 1 rfl) rfl
theorem q10 : (Jvm.Cond.instantiable "NtruRing" (2 : Nat)) ∈ lw_all := lw_g (lw_at lw_m0 9 rfl) rfl
theorem q12 : (Jvm.Cond.instanceMethod ({ cls := "NtruRing", name := "<init>", desc := "()V" } : Jvm.MethodName)) ∈ lw_all := lw_g (lw_at lw_m0 11 rfl) rfl
theorem q13 : (Jvm.Cond.code ({ cls := "NtruRing", name := "<init>", desc := "()V" } : Jvm.MethodName) prog_5_method_1_code (1 : Nat) (Option.none : Option Jvm.ClassFile.FieldType)) ∈ lw_all := lw_g (lw_at lw_m0 12 rfl) rfl
theorem q14 : (Jvm.Cond.methodLink "NtruRing" (1 : Nat) ({ cls := "java/lang/Object", name := "<init>", desc := "()V" } : Jvm.MethodName)) ∈ lw_all := lw_g (lw_at lw_m0 13 rfl) rfl
theorem q17 : (Jvm.Cond.classLink "NtruRing" (7 : Nat) "Polynomial") ∈ lw_all := lw_g (lw_at lw_m0 16 rfl) rfl
theorem q19 : (Jvm.Cond.methodLink "NtruRing" (9 : Nat) ({ cls := "NtruRing", name := "made", desc := "()LPolynomial;" } : Jvm.MethodName)) ∈ lw_all := lw_g (lw_at lw_m0 18 rfl) rfl
theorem q20 : (Jvm.Cond.static ({ cls := "NtruRing", name := "made", desc := "()LPolynomial;" } : Jvm.MethodName)) ∈ lw_all := lw_g (lw_at lw_m0 19 rfl) rfl
theorem q21 : (Jvm.Cond.code ({ cls := "NtruRing", name := "made", desc := "()LPolynomial;" } : Jvm.MethodName) prog_5_method_2_code (0 : Nat) (Option.some (Jvm.ClassFile.FieldType.object "Polynomial"))) ∈ lw_all := lw_g (lw_at lw_m0 20 rfl) rfl
theorem q22 : (Jvm.Cond.classLink "NtruRing" (22 : Nat) "HPSPolynomial") ∈ lw_all := lw_g (lw_at lw_m0 21 rfl) rfl
theorem q24 : (Jvm.Cond.classLink "NtruRing" (24 : Nat) "NTRUHPS2048509") ∈ lw_all := lw_g (lw_at lw_m0 23 rfl) rfl
theorem q26 : (Jvm.Cond.methodLink "NtruRing" (26 : Nat) ({ cls := "NTRUHPS2048509", name := "<init>", desc := "()V" } : Jvm.MethodName)) ∈ lw_all := lw_g (lw_at lw_m0 25 rfl) rfl
theorem q52 : (Jvm.Cond.methodLink "NtruRing" (27 : Nat) ({ cls := "HPSPolynomial", name := "<init>", desc := "(LNTRUHPSParameterSet;)V" } : Jvm.MethodName)) ∈ lw_all := lw_g (lw_at lw_m0 51 rfl) rfl
theorem q65 : (Jvm.Cond.fieldLink "NtruRing" (35 : Nat) "Polynomial" "coeffs" "[S") ∈ lw_all := lw_g (lw_at lw_m0 64 rfl) rfl
theorem q73 : (Jvm.Cond.fieldLink "NtruRing" (15 : Nat) "NtruRing" "wide" "[LPolynomial;") ∈ lw_all := lw_g (lw_at lw_m0 72 rfl) rfl
theorem q74 : (Jvm.Cond.fieldLink "NtruRing" (19 : Nat) "NtruRing" "small" "[LPolynomial;") ∈ lw_all := lw_g (lw_at lw_m0 73 rfl) rfl
theorem q75 : (Jvm.Cond.laysFinal "NtruRing" "NtruRing" "wide" "[LPolynomial;") ∈ lw_all := lw_g (lw_at lw_m0 74 rfl) rfl
theorem q76 : (Jvm.Cond.soleField "NtruRing" "wide") ∈ lw_all := lw_g (lw_at lw_m0 75 rfl) rfl
theorem q77 : (Jvm.Cond.laysFinal "NtruRing" "NtruRing" "small" "[LPolynomial;") ∈ lw_all := lw_g (lw_at lw_m0 76 rfl) rfl
theorem q78 : (Jvm.Cond.soleField "NtruRing" "small") ∈ lw_all := lw_g (lw_at lw_m0 77 rfl) rfl
theorem q79 : (Jvm.Cond.superclass "NtruRing" "java/lang/Object") ∈ lw_all := lw_g (lw_at lw_m0 78 rfl) rfl
theorem q81 : (Jvm.Cond.instanceMethod ({ cls := "NtruRing", name := "wide", desc := "(III)V" } : Jvm.MethodName)) ∈ lw_all := lw_g (lw_at lw_m0 80 rfl) rfl
theorem q82 : (Jvm.Cond.selects "NtruRing" ({ cls := "NtruRing", name := "wide", desc := "(III)V" } : Jvm.MethodName) ({ cls := "NtruRing", name := "wide", desc := "(III)V" } : Jvm.MethodName)) ∈ lw_all := lw_g (lw_at lw_m0 81 rfl) rfl
theorem q83 : (Jvm.Cond.code ({ cls := "NtruRing", name := "wide", desc := "(III)V" } : Jvm.MethodName) prog_5_method_4_code (4 : Nat) (Option.none : Option Jvm.ClassFile.FieldType)) ∈ lw_all := lw_g (lw_at lw_m0 82 rfl) rfl
theorem q84 : (Jvm.Cond.methodLink "NtruRing" (31 : Nat) ({ cls := "NtruRing", name := "k", desc := "(I)I" } : Jvm.MethodName)) ∈ lw_all := lw_g (lw_at lw_m0 83 rfl) rfl
theorem q85 : (Jvm.Cond.static ({ cls := "NtruRing", name := "k", desc := "(I)I" } : Jvm.MethodName)) ∈ lw_all := lw_g (lw_at lw_m0 84 rfl) rfl
theorem q86 : (Jvm.Cond.code ({ cls := "NtruRing", name := "k", desc := "(I)I" } : Jvm.MethodName) prog_5_method_3_code (1 : Nat) (Option.some Jvm.ClassFile.FieldType.int)) ∈ lw_all := lw_g (lw_at lw_m0 85 rfl) rfl
theorem q87 : (Jvm.Cond.constant "NtruRing" (30 : Nat) (2147483647 : Int32)) ∈ lw_all := lw_g (lw_at lw_m0 86 rfl) rfl
theorem q89 : (Jvm.Cond.instanceMethod ({ cls := "NtruRing", name := "small", desc := "(III)V" } : Jvm.MethodName)) ∈ lw_all := lw_g (lw_at lw_m0 88 rfl) rfl
theorem q90 : (Jvm.Cond.selects "NtruRing" ({ cls := "NtruRing", name := "small", desc := "(III)V" } : Jvm.MethodName) ({ cls := "NtruRing", name := "small", desc := "(III)V" } : Jvm.MethodName)) ∈ lw_all := lw_g (lw_at lw_m0 89 rfl) rfl
theorem q91 : (Jvm.Cond.code ({ cls := "NtruRing", name := "small", desc := "(III)V" } : Jvm.MethodName) prog_5_method_5_code (5 : Nat) (Option.none : Option Jvm.ClassFile.FieldType)) ∈ lw_all := lw_g (lw_at lw_m0 90 rfl) rfl
theorem q93 : (Jvm.Cond.instanceMethod ({ cls := "NtruRing", name := "spread", desc := "(III)V" } : Jvm.MethodName)) ∈ lw_all := lw_g (lw_at lw_m0 92 rfl) rfl
theorem q94 : (Jvm.Cond.selects "NtruRing" ({ cls := "NtruRing", name := "spread", desc := "(III)V" } : Jvm.MethodName) ({ cls := "NtruRing", name := "spread", desc := "(III)V" } : Jvm.MethodName)) ∈ lw_all := lw_g (lw_at lw_m0 93 rfl) rfl
theorem q95 : (Jvm.Cond.code ({ cls := "NtruRing", name := "spread", desc := "(III)V" } : Jvm.MethodName) prog_5_method_6_code (5 : Nat) (Option.none : Option Jvm.ClassFile.FieldType)) ∈ lw_all := lw_g (lw_at lw_m0 94 rfl) rfl
theorem q97 : (Jvm.Cond.instanceMethod ({ cls := "NtruRing", name := "times", desc := "(III)V" } : Jvm.MethodName)) ∈ lw_all := lw_g (lw_at lw_m0 96 rfl) rfl
theorem q98 : (Jvm.Cond.selects "NtruRing" ({ cls := "NtruRing", name := "times", desc := "(III)V" } : Jvm.MethodName) ({ cls := "NtruRing", name := "times", desc := "(III)V" } : Jvm.MethodName)) ∈ lw_all := lw_g (lw_at lw_m0 97 rfl) rfl
theorem q99 : (Jvm.Cond.code ({ cls := "NtruRing", name := "times", desc := "(III)V" } : Jvm.MethodName) prog_5_method_8_code (5 : Nat) (Option.none : Option Jvm.ClassFile.FieldType)) ∈ lw_all := lw_g (lw_at lw_m0 98 rfl) rfl
theorem q100 : (Jvm.Cond.methodLink "NtruRing" (39 : Nat) ({ cls := "Polynomial", name := "rqMul", desc := "(LPolynomial;LPolynomial;)V" } : Jvm.MethodName)) ∈ lw_all := lw_g (lw_at lw_m0 99 rfl) rfl
theorem q108 : (Jvm.Cond.methodLink "NtruRing" (43 : Nat) ({ cls := "NtruRing", name := "cut", desc := "(LPolynomial;)V" } : Jvm.MethodName)) ∈ lw_all := lw_g (lw_at lw_m0 107 rfl) rfl
theorem q109 : (Jvm.Cond.static ({ cls := "NtruRing", name := "cut", desc := "(LPolynomial;)V" } : Jvm.MethodName)) ∈ lw_all := lw_g (lw_at lw_m0 108 rfl) rfl
theorem q110 : (Jvm.Cond.code ({ cls := "NtruRing", name := "cut", desc := "(LPolynomial;)V" } : Jvm.MethodName) prog_5_method_7_code (2 : Nat) (Option.none : Option Jvm.ClassFile.FieldType)) ∈ lw_all := lw_g (lw_at lw_m0 109 rfl) rfl
theorem q113 : (Jvm.Cond.instanceMethod ({ cls := "NtruRing", name := "timesPhi", desc := "(III)V" } : Jvm.MethodName)) ∈ lw_all := lw_g (lw_at lw_m0 112 rfl) rfl
theorem q114 : (Jvm.Cond.selects "NtruRing" ({ cls := "NtruRing", name := "timesPhi", desc := "(III)V" } : Jvm.MethodName) ({ cls := "NtruRing", name := "timesPhi", desc := "(III)V" } : Jvm.MethodName)) ∈ lw_all := lw_g (lw_at lw_m0 113 rfl) rfl
theorem q115 : (Jvm.Cond.code ({ cls := "NtruRing", name := "timesPhi", desc := "(III)V" } : Jvm.MethodName) prog_5_method_9_code (5 : Nat) (Option.none : Option Jvm.ClassFile.FieldType)) ∈ lw_all := lw_g (lw_at lw_m0 114 rfl) rfl
theorem q116 : (Jvm.Cond.methodLink "NtruRing" (47 : Nat) ({ cls := "Polynomial", name := "sqMul", desc := "(LPolynomial;LPolynomial;)V" } : Jvm.MethodName)) ∈ lw_all := lw_g (lw_at lw_m0 115 rfl) rfl
theorem q128 : (Jvm.Cond.instanceMethod ({ cls := "NtruRing", name := "timesThree", desc := "(III)V" } : Jvm.MethodName)) ∈ lw_all := lw_g (lw_at lw_m0 127 rfl) rfl
theorem q129 : (Jvm.Cond.selects "NtruRing" ({ cls := "NtruRing", name := "timesThree", desc := "(III)V" } : Jvm.MethodName) ({ cls := "NtruRing", name := "timesThree", desc := "(III)V" } : Jvm.MethodName)) ∈ lw_all := lw_g (lw_at lw_m0 128 rfl) rfl
theorem q130 : (Jvm.Cond.code ({ cls := "NtruRing", name := "timesThree", desc := "(III)V" } : Jvm.MethodName) prog_5_method_10_code (5 : Nat) (Option.none : Option Jvm.ClassFile.FieldType)) ∈ lw_all := lw_g (lw_at lw_m0 129 rfl) rfl
theorem q131 : (Jvm.Cond.methodLink "NtruRing" (50 : Nat) ({ cls := "Polynomial", name := "s3Mul", desc := "(LPolynomial;LPolynomial;)V" } : Jvm.MethodName)) ∈ lw_all := lw_g (lw_at lw_m0 130 rfl) rfl
theorem q146 : (Jvm.Cond.instanceMethod ({ cls := "NtruRing", name := "wide", desc := "(II)I" } : Jvm.MethodName)) ∈ lw_all := lw_g (lw_at lw_m0 145 rfl) rfl
theorem q147 : (Jvm.Cond.selects "NtruRing" ({ cls := "NtruRing", name := "wide", desc := "(II)I" } : Jvm.MethodName) ({ cls := "NtruRing", name := "wide", desc := "(II)I" } : Jvm.MethodName)) ∈ lw_all := lw_g (lw_at lw_m0 146 rfl) rfl
theorem q148 : (Jvm.Cond.code ({ cls := "NtruRing", name := "wide", desc := "(II)I" } : Jvm.MethodName) prog_5_method_11_code (3 : Nat) (Option.some Jvm.ClassFile.FieldType.int)) ∈ lw_all := lw_g (lw_at lw_m0 147 rfl) rfl
theorem q150 : (Jvm.Cond.instanceMethod ({ cls := "NtruRing", name := "small", desc := "(II)I" } : Jvm.MethodName)) ∈ lw_all := lw_g (lw_at lw_m0 149 rfl) rfl
theorem q151 : (Jvm.Cond.selects "NtruRing" ({ cls := "NtruRing", name := "small", desc := "(II)I" } : Jvm.MethodName) ({ cls := "NtruRing", name := "small", desc := "(II)I" } : Jvm.MethodName)) ∈ lw_all := lw_g (lw_at lw_m0 150 rfl) rfl
theorem q152 : (Jvm.Cond.code ({ cls := "NtruRing", name := "small", desc := "(II)I" } : Jvm.MethodName) prog_5_method_12_code (3 : Nat) (Option.some Jvm.ClassFile.FieldType.int)) ∈ lw_all := lw_g (lw_at lw_m0 151 rfl) rfl
theorem in_X0 : ∀ w ∈ wsX00, w ∈ lw_all := lw_in wsX00 [75, 77] (by decide +kernel) (by decide +kernel)
/-! Polynomial -/
set_option maxRecDepth 100000
def RX1 : String := "Polynomial"
abbrev cX1_init : ByteArray := prog_8_method_1_code
def yX1_init : MethodName := ⟨RX1, "<init>", "(LNTRUParameterSet;)V"⟩
def dkwX1_init_0 : List UInt8 := [42, 183, 0, 1, 42, 43, 182, 0, 7, 188, 9, 181, 0, 13, 42, 43, 181, 0, 19, 177]
abbrev dktX1_init_0 : List UInt8 := dkwX1_init_0 ++ []
theorem dksX1_init_0 : cX1_init.data.toList.drop 0 = dktX1_init_0 := by decide +kernel
theorem dX1_init_0 : decode cX1_init 0 = .ok (.aload_n 0, 1) := dk_42 (dk_at dksX1_init_0 0 rfl rfl)
theorem dX1_init_1 : decode cX1_init 1 = .ok (.invokespecial 1, 3) := dk_183 0 1 (dk_at dksX1_init_0 1 rfl rfl)
theorem dX1_init_4 : decode cX1_init 4 = .ok (.aload_n 0, 1) := dk_42 (dk_at dksX1_init_0 4 rfl rfl)
theorem dX1_init_5 : decode cX1_init 5 = .ok (.aload_n 1, 1) := dk_43 (dk_at dksX1_init_0 5 rfl rfl)
theorem dX1_init_6 : decode cX1_init 6 = .ok (.invokevirtual 7, 3) := dk_182 0 7 (dk_at dksX1_init_0 6 rfl rfl)
theorem dX1_init_9 : decode cX1_init 9 = .ok (.newarray .short, 2) := dk_188_9 (dk_at dksX1_init_0 9 rfl rfl)
theorem dX1_init_11 : decode cX1_init 11 = .ok (.putfield 13, 3) := dk_181 0 13 (dk_at dksX1_init_0 11 rfl rfl)
theorem dX1_init_14 : decode cX1_init 14 = .ok (.aload_n 0, 1) := dk_42 (dk_at dksX1_init_0 14 rfl rfl)
theorem dX1_init_15 : decode cX1_init 15 = .ok (.aload_n 1, 1) := dk_43 (dk_at dksX1_init_0 15 rfl rfl)
theorem dX1_init_16 : decode cX1_init 16 = .ok (.putfield 19, 3) := dk_181 0 19 (dk_at dksX1_init_0 16 rfl rfl)
theorem dX1_init_19 : decode cX1_init 19 = .ok (.return_, 1) := dk_177 (dk_at dksX1_init_0 19 rfl rfl)
abbrev cX1_rqMul : ByteArray := prog_8_method_6_code
def yX1_rqMul : MethodName := ⟨RX1, "rqMul", "(LPolynomial;LPolynomial;)V"⟩
def dkwX1_rqMul_5 : List UInt8 := [21, 11, 46, 25, 9, 21, 11, 21, 6, 96, 46, 96, 147, 86, 132, 11, 1, 167, 255, 226, 177]
abbrev dktX1_rqMul_5 : List UInt8 := dkwX1_rqMul_5 ++ []
def dkwX1_rqMul_4 : List UInt8 := [21, 6, 25, 10, 3, 184, 0, 35, 3, 54, 11, 21, 11, 21, 6, 162, 0, 29, 25, 5, 21, 11, 25, 9]
abbrev dktX1_rqMul_4 : List UInt8 := dkwX1_rqMul_4 ++ dktX1_rqMul_5
def dkwX1_rqMul_3 : List UInt8 := [104, 188, 10, 58, 9, 16, 9, 21, 6, 104, 188, 10, 58, 10, 25, 9, 3, 25, 7, 3, 25, 8, 3]
abbrev dktX1_rqMul_3 : List UInt8 := dkwX1_rqMul_3 ++ dktX1_rqMul_4
def dkwX1_rqMul_2 : List UInt8 := [45, 21, 9, 53, 79, 25, 8, 21, 9, 25, 4, 21, 9, 53, 79, 132, 9, 1, 167, 255, 227, 5, 21, 6]
abbrev dktX1_rqMul_2 : List UInt8 := dkwX1_rqMul_2 ++ dktX1_rqMul_3
def dkwX1_rqMul_1 : List UInt8 := [188, 10, 58, 7, 21, 6, 188, 10, 58, 8, 3, 54, 9, 21, 9, 21, 6, 162, 0, 28, 25, 7, 21, 9]
abbrev dktX1_rqMul_1 : List UInt8 := dkwX1_rqMul_1 ++ dktX1_rqMul_2
def dkwX1_rqMul_0 : List UInt8 := [43, 180, 0, 13, 78, 44, 180, 0, 13, 58, 4, 42, 180, 0, 13, 58, 5, 25, 5, 190, 54, 6, 21, 6]
abbrev dktX1_rqMul_0 : List UInt8 := dkwX1_rqMul_0 ++ dktX1_rqMul_1
theorem dksX1_rqMul_0 : cX1_rqMul.data.toList.drop 0 = dktX1_rqMul_0 := by decide +kernel
theorem dksX1_rqMul_1 : cX1_rqMul.data.toList.drop 24 = dktX1_rqMul_1 := dk_seg dksX1_rqMul_0 24 rfl rfl
theorem dksX1_rqMul_2 : cX1_rqMul.data.toList.drop 48 = dktX1_rqMul_2 := dk_seg dksX1_rqMul_1 24 rfl rfl
theorem dksX1_rqMul_3 : cX1_rqMul.data.toList.drop 72 = dktX1_rqMul_3 := dk_seg dksX1_rqMul_2 24 rfl rfl
theorem dksX1_rqMul_4 : cX1_rqMul.data.toList.drop 95 = dktX1_rqMul_4 := dk_seg dksX1_rqMul_3 23 rfl rfl
theorem dksX1_rqMul_5 : cX1_rqMul.data.toList.drop 119 = dktX1_rqMul_5 := dk_seg dksX1_rqMul_4 24 rfl rfl
theorem dX1_rqMul_0 : decode cX1_rqMul 0 = .ok (.aload_n 1, 1) := dk_43 (dk_at dksX1_rqMul_0 0 rfl rfl)
theorem dX1_rqMul_1 : decode cX1_rqMul 1 = .ok (.getfield 13, 3) := dk_180 0 13 (dk_at dksX1_rqMul_0 1 rfl rfl)
theorem dX1_rqMul_4 : decode cX1_rqMul 4 = .ok (.astore_n 3, 1) := dk_78 (dk_at dksX1_rqMul_0 4 rfl rfl)
theorem dX1_rqMul_5 : decode cX1_rqMul 5 = .ok (.aload_n 2, 1) := dk_44 (dk_at dksX1_rqMul_0 5 rfl rfl)
theorem dX1_rqMul_6 : decode cX1_rqMul 6 = .ok (.getfield 13, 3) := dk_180 0 13 (dk_at dksX1_rqMul_0 6 rfl rfl)
theorem dX1_rqMul_9 : decode cX1_rqMul 9 = .ok (.astore 4, 2) := dk_58 4 (dk_at dksX1_rqMul_0 9 rfl rfl)
theorem dX1_rqMul_11 : decode cX1_rqMul 11 = .ok (.aload_n 0, 1) := dk_42 (dk_at dksX1_rqMul_0 11 rfl rfl)
theorem dX1_rqMul_12 : decode cX1_rqMul 12 = .ok (.getfield 13, 3) := dk_180 0 13 (dk_at dksX1_rqMul_0 12 rfl rfl)
theorem dX1_rqMul_15 : decode cX1_rqMul 15 = .ok (.astore 5, 2) := dk_58 5 (dk_at dksX1_rqMul_0 15 rfl rfl)
theorem dX1_rqMul_17 : decode cX1_rqMul 17 = .ok (.aload 5, 2) := dk_25 5 (dk_at dksX1_rqMul_0 17 rfl rfl)
theorem dX1_rqMul_19 : decode cX1_rqMul 19 = .ok (.arraylength, 1) := dk_190 (dk_at dksX1_rqMul_0 19 rfl rfl)
theorem dX1_rqMul_20 : decode cX1_rqMul 20 = .ok (.istore 6, 2) := dk_54 6 (dk_at dksX1_rqMul_0 20 rfl rfl)
theorem dX1_rqMul_22 : decode cX1_rqMul 22 = .ok (.iload 6, 2) := dk_21 6 (dk_at dksX1_rqMul_0 22 rfl rfl)
theorem dX1_rqMul_24 : decode cX1_rqMul 24 = .ok (.newarray .int, 2) := dk_188_10 (dk_at dksX1_rqMul_1 0 rfl rfl)
theorem dX1_rqMul_26 : decode cX1_rqMul 26 = .ok (.astore 7, 2) := dk_58 7 (dk_at dksX1_rqMul_1 2 rfl rfl)
theorem dX1_rqMul_28 : decode cX1_rqMul 28 = .ok (.iload 6, 2) := dk_21 6 (dk_at dksX1_rqMul_1 4 rfl rfl)
theorem dX1_rqMul_30 : decode cX1_rqMul 30 = .ok (.newarray .int, 2) := dk_188_10 (dk_at dksX1_rqMul_1 6 rfl rfl)
theorem dX1_rqMul_32 : decode cX1_rqMul 32 = .ok (.astore 8, 2) := dk_58 8 (dk_at dksX1_rqMul_1 8 rfl rfl)
theorem dX1_rqMul_34 : decode cX1_rqMul 34 = .ok (.iconst 0, 1) := dk_3 (dk_at dksX1_rqMul_1 10 rfl rfl)
theorem dX1_rqMul_35 : decode cX1_rqMul 35 = .ok (.istore 9, 2) := dk_54 9 (dk_at dksX1_rqMul_1 11 rfl rfl)
theorem dX1_rqMul_37 : decode cX1_rqMul 37 = .ok (.iload 9, 2) := dk_21 9 (dk_at dksX1_rqMul_1 13 rfl rfl)
theorem dX1_rqMul_39 : decode cX1_rqMul 39 = .ok (.iload 6, 2) := dk_21 6 (dk_at dksX1_rqMul_1 15 rfl rfl)
theorem dX1_rqMul_41 : decode cX1_rqMul 41 = .ok (.if_icmp .ge 28, 3) := dk_162 0 28 (dk_at dksX1_rqMul_1 17 rfl rfl)
theorem dX1_rqMul_44 : decode cX1_rqMul 44 = .ok (.aload 7, 2) := dk_25 7 (dk_at dksX1_rqMul_1 20 rfl rfl)
theorem dX1_rqMul_46 : decode cX1_rqMul 46 = .ok (.iload 9, 2) := dk_21 9 (dk_at dksX1_rqMul_1 22 rfl rfl)
theorem dX1_rqMul_48 : decode cX1_rqMul 48 = .ok (.aload_n 3, 1) := dk_45 (dk_at dksX1_rqMul_2 0 rfl rfl)
theorem dX1_rqMul_49 : decode cX1_rqMul 49 = .ok (.iload 9, 2) := dk_21 9 (dk_at dksX1_rqMul_2 1 rfl rfl)
theorem dX1_rqMul_51 : decode cX1_rqMul 51 = .ok (.saload, 1) := dk_53 (dk_at dksX1_rqMul_2 3 rfl rfl)
theorem dX1_rqMul_52 : decode cX1_rqMul 52 = .ok (.iastore, 1) := dk_79 (dk_at dksX1_rqMul_2 4 rfl rfl)
theorem dX1_rqMul_53 : decode cX1_rqMul 53 = .ok (.aload 8, 2) := dk_25 8 (dk_at dksX1_rqMul_2 5 rfl rfl)
theorem dX1_rqMul_55 : decode cX1_rqMul 55 = .ok (.iload 9, 2) := dk_21 9 (dk_at dksX1_rqMul_2 7 rfl rfl)
theorem dX1_rqMul_57 : decode cX1_rqMul 57 = .ok (.aload 4, 2) := dk_25 4 (dk_at dksX1_rqMul_2 9 rfl rfl)
theorem dX1_rqMul_59 : decode cX1_rqMul 59 = .ok (.iload 9, 2) := dk_21 9 (dk_at dksX1_rqMul_2 11 rfl rfl)
theorem dX1_rqMul_61 : decode cX1_rqMul 61 = .ok (.saload, 1) := dk_53 (dk_at dksX1_rqMul_2 13 rfl rfl)
theorem dX1_rqMul_62 : decode cX1_rqMul 62 = .ok (.iastore, 1) := dk_79 (dk_at dksX1_rqMul_2 14 rfl rfl)
theorem dX1_rqMul_63 : decode cX1_rqMul 63 = .ok (.iinc 9 1, 3) := dk_132 9 1 (dk_at dksX1_rqMul_2 15 rfl rfl)
theorem dX1_rqMul_66 : decode cX1_rqMul 66 = .ok (.goto (-29), 3) := dk_167 255 227 (dk_at dksX1_rqMul_2 18 rfl rfl)
theorem dX1_rqMul_69 : decode cX1_rqMul 69 = .ok (.iconst 2, 1) := dk_5 (dk_at dksX1_rqMul_2 21 rfl rfl)
theorem dX1_rqMul_70 : decode cX1_rqMul 70 = .ok (.iload 6, 2) := dk_21 6 (dk_at dksX1_rqMul_2 22 rfl rfl)
theorem dX1_rqMul_72 : decode cX1_rqMul 72 = .ok (.imul, 1) := dk_104 (dk_at dksX1_rqMul_3 0 rfl rfl)
theorem dX1_rqMul_73 : decode cX1_rqMul 73 = .ok (.newarray .int, 2) := dk_188_10 (dk_at dksX1_rqMul_3 1 rfl rfl)
theorem dX1_rqMul_75 : decode cX1_rqMul 75 = .ok (.astore 9, 2) := dk_58 9 (dk_at dksX1_rqMul_3 3 rfl rfl)
theorem dX1_rqMul_77 : decode cX1_rqMul 77 = .ok (.bipush 9, 2) := dk_16 9 (dk_at dksX1_rqMul_3 5 rfl rfl)
theorem dX1_rqMul_79 : decode cX1_rqMul 79 = .ok (.iload 6, 2) := dk_21 6 (dk_at dksX1_rqMul_3 7 rfl rfl)
theorem dX1_rqMul_81 : decode cX1_rqMul 81 = .ok (.imul, 1) := dk_104 (dk_at dksX1_rqMul_3 9 rfl rfl)
theorem dX1_rqMul_82 : decode cX1_rqMul 82 = .ok (.newarray .int, 2) := dk_188_10 (dk_at dksX1_rqMul_3 10 rfl rfl)
theorem dX1_rqMul_84 : decode cX1_rqMul 84 = .ok (.astore 10, 2) := dk_58 10 (dk_at dksX1_rqMul_3 12 rfl rfl)
theorem dX1_rqMul_86 : decode cX1_rqMul 86 = .ok (.aload 9, 2) := dk_25 9 (dk_at dksX1_rqMul_3 14 rfl rfl)
theorem dX1_rqMul_88 : decode cX1_rqMul 88 = .ok (.iconst 0, 1) := dk_3 (dk_at dksX1_rqMul_3 16 rfl rfl)
theorem dX1_rqMul_89 : decode cX1_rqMul 89 = .ok (.aload 7, 2) := dk_25 7 (dk_at dksX1_rqMul_3 17 rfl rfl)
theorem dX1_rqMul_91 : decode cX1_rqMul 91 = .ok (.iconst 0, 1) := dk_3 (dk_at dksX1_rqMul_3 19 rfl rfl)
theorem dX1_rqMul_92 : decode cX1_rqMul 92 = .ok (.aload 8, 2) := dk_25 8 (dk_at dksX1_rqMul_3 20 rfl rfl)
theorem dX1_rqMul_94 : decode cX1_rqMul 94 = .ok (.iconst 0, 1) := dk_3 (dk_at dksX1_rqMul_3 22 rfl rfl)
theorem dX1_rqMul_95 : decode cX1_rqMul 95 = .ok (.iload 6, 2) := dk_21 6 (dk_at dksX1_rqMul_4 0 rfl rfl)
theorem dX1_rqMul_97 : decode cX1_rqMul 97 = .ok (.aload 10, 2) := dk_25 10 (dk_at dksX1_rqMul_4 2 rfl rfl)
theorem dX1_rqMul_99 : decode cX1_rqMul 99 = .ok (.iconst 0, 1) := dk_3 (dk_at dksX1_rqMul_4 4 rfl rfl)
theorem dX1_rqMul_100 : decode cX1_rqMul 100 = .ok (.invokestatic 35, 3) := dk_184 0 35 (dk_at dksX1_rqMul_4 5 rfl rfl)
theorem dX1_rqMul_103 : decode cX1_rqMul 103 = .ok (.iconst 0, 1) := dk_3 (dk_at dksX1_rqMul_4 8 rfl rfl)
theorem dX1_rqMul_104 : decode cX1_rqMul 104 = .ok (.istore 11, 2) := dk_54 11 (dk_at dksX1_rqMul_4 9 rfl rfl)
theorem dX1_rqMul_106 : decode cX1_rqMul 106 = .ok (.iload 11, 2) := dk_21 11 (dk_at dksX1_rqMul_4 11 rfl rfl)
theorem dX1_rqMul_108 : decode cX1_rqMul 108 = .ok (.iload 6, 2) := dk_21 6 (dk_at dksX1_rqMul_4 13 rfl rfl)
theorem dX1_rqMul_110 : decode cX1_rqMul 110 = .ok (.if_icmp .ge 29, 3) := dk_162 0 29 (dk_at dksX1_rqMul_4 15 rfl rfl)
theorem dX1_rqMul_113 : decode cX1_rqMul 113 = .ok (.aload 5, 2) := dk_25 5 (dk_at dksX1_rqMul_4 18 rfl rfl)
theorem dX1_rqMul_115 : decode cX1_rqMul 115 = .ok (.iload 11, 2) := dk_21 11 (dk_at dksX1_rqMul_4 20 rfl rfl)
theorem dX1_rqMul_117 : decode cX1_rqMul 117 = .ok (.aload 9, 2) := dk_25 9 (dk_at dksX1_rqMul_4 22 rfl rfl)
theorem dX1_rqMul_119 : decode cX1_rqMul 119 = .ok (.iload 11, 2) := dk_21 11 (dk_at dksX1_rqMul_5 0 rfl rfl)
theorem dX1_rqMul_121 : decode cX1_rqMul 121 = .ok (.iaload, 1) := dk_46 (dk_at dksX1_rqMul_5 2 rfl rfl)
theorem dX1_rqMul_122 : decode cX1_rqMul 122 = .ok (.aload 9, 2) := dk_25 9 (dk_at dksX1_rqMul_5 3 rfl rfl)
theorem dX1_rqMul_124 : decode cX1_rqMul 124 = .ok (.iload 11, 2) := dk_21 11 (dk_at dksX1_rqMul_5 5 rfl rfl)
theorem dX1_rqMul_126 : decode cX1_rqMul 126 = .ok (.iload 6, 2) := dk_21 6 (dk_at dksX1_rqMul_5 7 rfl rfl)
theorem dX1_rqMul_128 : decode cX1_rqMul 128 = .ok (.iadd, 1) := dk_96 (dk_at dksX1_rqMul_5 9 rfl rfl)
theorem dX1_rqMul_129 : decode cX1_rqMul 129 = .ok (.iaload, 1) := dk_46 (dk_at dksX1_rqMul_5 10 rfl rfl)
theorem dX1_rqMul_130 : decode cX1_rqMul 130 = .ok (.iadd, 1) := dk_96 (dk_at dksX1_rqMul_5 11 rfl rfl)
theorem dX1_rqMul_131 : decode cX1_rqMul 131 = .ok (.i2s, 1) := dk_147 (dk_at dksX1_rqMul_5 12 rfl rfl)
theorem dX1_rqMul_132 : decode cX1_rqMul 132 = .ok (.sastore, 1) := dk_86 (dk_at dksX1_rqMul_5 13 rfl rfl)
theorem dX1_rqMul_133 : decode cX1_rqMul 133 = .ok (.iinc 11 1, 3) := dk_132 11 1 (dk_at dksX1_rqMul_5 14 rfl rfl)
theorem dX1_rqMul_136 : decode cX1_rqMul 136 = .ok (.goto (-30), 3) := dk_167 255 226 (dk_at dksX1_rqMul_5 17 rfl rfl)
theorem dX1_rqMul_139 : decode cX1_rqMul 139 = .ok (.return_, 1) := dk_177 (dk_at dksX1_rqMul_5 20 rfl rfl)
abbrev cX1_kMul : ByteArray := prog_8_method_7_code
def yX1_kMul : MethodName := ⟨RX1, "kMul", "([II[II[III[II)V"⟩
def dkwX1_kMul_24 : List UInt8 := [132, 18, 1, 167, 255, 222, 177]
abbrev dktX1_kMul_24 : List UInt8 := dkwX1_kMul_24 ++ []
def dkwX1_kMul_23 : List UInt8 := [100, 162, 0, 29, 42, 27, 21, 9, 96, 21, 18, 96, 92, 46, 25, 7, 21, 15, 21, 18, 96, 46, 96, 79]
abbrev dktX1_kMul_23 : List UInt8 := dkwX1_kMul_23 ++ dktX1_kMul_24
def dkwX1_kMul_22 : List UInt8 := [21, 14, 21, 18, 96, 46, 96, 79, 132, 18, 1, 167, 255, 220, 3, 54, 18, 21, 18, 5, 21, 9, 104, 4]
abbrev dktX1_kMul_22 : List UInt8 := dkwX1_kMul_22 ++ dktX1_kMul_23
def dkwX1_kMul_21 : List UInt8 := [5, 21, 10, 104, 4, 100, 162, 0, 31, 42, 27, 5, 21, 9, 104, 96, 21, 18, 96, 92, 46, 25, 7]
abbrev dktX1_kMul_21 : List UInt8 := dkwX1_kMul_21 ++ dktX1_kMul_22
def dkwX1_kMul_20 : List UInt8 := [96, 92, 46, 25, 7, 21, 13, 21, 18, 96, 46, 96, 79, 132, 18, 1, 167, 255, 225, 3, 54, 18, 21, 18]
abbrev dktX1_kMul_20 : List UInt8 := dkwX1_kMul_20 ++ dktX1_kMul_21
def dkwX1_kMul_19 : List UInt8 := [132, 18, 1, 167, 255, 239, 3, 54, 18, 21, 18, 5, 21, 9, 104, 4, 100, 162, 0, 26, 42, 27, 21, 18]
abbrev dktX1_kMul_19 : List UInt8 := dkwX1_kMul_19 ++ dktX1_kMul_20
def dkwX1_kMul_18 : List UInt8 := [104, 4, 100, 54, 17, 3, 54, 18, 21, 18, 21, 17, 162, 0, 16, 42, 27, 21, 18, 96, 3, 79]
abbrev dktX1_kMul_18 : List UInt8 := dkwX1_kMul_18 ++ dktX1_kMul_19
def dkwX1_kMul_17 : List UInt8 := [21, 17, 96, 92, 46, 25, 7, 21, 14, 21, 17, 96, 46, 100, 79, 132, 17, 1, 167, 255, 223, 5, 21, 6]
abbrev dktX1_kMul_17 : List UInt8 := dkwX1_kMul_17 ++ dktX1_kMul_18
def dkwX1_kMul_16 : List UInt8 := [132, 17, 1, 167, 255, 223, 3, 54, 17, 21, 17, 5, 21, 10, 104, 4, 100, 162, 0, 28, 25, 7, 21, 15]
abbrev dktX1_kMul_16 : List UInt8 := dkwX1_kMul_16 ++ dktX1_kMul_17
def dkwX1_kMul_15 : List UInt8 := [162, 0, 28, 25, 7, 21, 15, 21, 17, 96, 92, 46, 25, 7, 21, 13, 21, 17, 96, 46, 100, 79]
abbrev dktX1_kMul_15 : List UInt8 := dkwX1_kMul_15 ++ dktX1_kMul_16
def dkwX1_kMul_14 : List UInt8 := [25, 7, 21, 12, 21, 9, 25, 7, 21, 16, 184, 0, 35, 3, 54, 17, 21, 17, 5, 21, 9, 104, 4, 100]
abbrev dktX1_kMul_14 : List UInt8 := dkwX1_kMul_14 ++ dktX1_kMul_15
def dkwX1_kMul_13 : List UInt8 := [25, 4, 21, 5, 21, 9, 96, 21, 10, 25, 7, 21, 16, 184, 0, 35, 25, 7, 21, 15, 25, 7, 21, 11]
abbrev dktX1_kMul_13 : List UInt8 := dkwX1_kMul_13 ++ dktX1_kMul_14
def dkwX1_kMul_12 : List UInt8 := [29, 25, 4, 21, 5, 21, 9, 25, 7, 21, 16, 184, 0, 35, 25, 7, 21, 14, 44, 29, 21, 9, 96]
abbrev dktX1_kMul_12 : List UInt8 := dkwX1_kMul_12 ++ dktX1_kMul_13
def dkwX1_kMul_11 : List UInt8 := [25, 4, 21, 5, 21, 9, 96, 21, 17, 96, 46, 96, 79, 132, 17, 1, 167, 255, 204, 25, 7, 21, 13, 44]
abbrev dktX1_kMul_11 : List UInt8 := dkwX1_kMul_11 ++ dktX1_kMul_12
def dkwX1_kMul_10 : List UInt8 := [96, 92, 46, 44, 29, 21, 9, 96, 21, 17, 96, 46, 96, 79, 25, 7, 21, 12, 21, 17, 96, 92, 46]
abbrev dktX1_kMul_10 : List UInt8 := dkwX1_kMul_10 ++ dktX1_kMul_11
def dkwX1_kMul_9 : List UInt8 := [46, 79, 132, 17, 1, 167, 255, 216, 3, 54, 17, 21, 17, 21, 10, 162, 0, 51, 25, 7, 21, 11, 21, 17]
abbrev dktX1_kMul_9 : List UInt8 := dkwX1_kMul_9 ++ dktX1_kMul_10
def dkwX1_kMul_8 : List UInt8 := [21, 17, 96, 44, 29, 21, 17, 96, 46, 79, 25, 7, 21, 12, 21, 17, 96, 25, 4, 21, 5, 21, 17, 96]
abbrev dktX1_kMul_8 : List UInt8 := dkwX1_kMul_8 ++ dktX1_kMul_9
def dkwX1_kMul_7 : List UInt8 := [5, 21, 9, 104, 4, 100, 96, 54, 16, 3, 54, 17, 21, 17, 21, 9, 162, 0, 39, 25, 7, 21, 11]
abbrev dktX1_kMul_7 : List UInt8 := dkwX1_kMul_7 ++ dktX1_kMul_8
def dkwX1_kMul_6 : List UInt8 := [21, 13, 5, 21, 9, 104, 4, 100, 96, 54, 14, 21, 14, 5, 21, 10, 104, 4, 100, 96, 54, 15, 21, 15]
abbrev dktX1_kMul_6 : List UInt8 := dkwX1_kMul_6 ++ dktX1_kMul_7
def dkwX1_kMul_5 : List UInt8 := [21, 9, 100, 54, 10, 21, 8, 54, 11, 21, 11, 21, 9, 96, 54, 12, 21, 12, 21, 9, 96, 54, 13]
abbrev dktX1_kMul_5 : List UInt8 := dkwX1_kMul_5 ++ dktX1_kMul_6
def dkwX1_kMul_4 : List UInt8 := [132, 13, 1, 167, 255, 225, 132, 10, 1, 167, 255, 195, 177, 21, 6, 4, 96, 4, 122, 54, 9, 21, 6]
abbrev dktX1_kMul_4 : List UInt8 := dkwX1_kMul_4 ++ dktX1_kMul_5
def dkwX1_kMul_3 : List UInt8 := [162, 0, 30, 42, 21, 12, 21, 13, 96, 92, 46, 21, 11, 25, 4, 21, 5, 21, 13, 96, 46, 104, 96, 79]
abbrev dktX1_kMul_3 : List UInt8 := dkwX1_kMul_3 ++ dktX1_kMul_4
def dkwX1_kMul_2 : List UInt8 := [162, 0, 60, 44, 29, 21, 10, 96, 46, 54, 11, 27, 21, 10, 96, 54, 12, 3, 54, 13, 21, 13, 21, 6]
abbrev dktX1_kMul_2 : List UInt8 := dkwX1_kMul_2 ++ dktX1_kMul_3
def dkwX1_kMul_1 : List UInt8 := [162, 0, 16, 42, 27, 21, 10, 96, 3, 79, 132, 10, 1, 167, 255, 239, 3, 54, 10, 21, 10, 21, 6]
abbrev dktX1_kMul_1 : List UInt8 := dkwX1_kMul_1 ++ dktX1_kMul_2
def dkwX1_kMul_0 : List UInt8 := [21, 6, 16, 48, 163, 0, 102, 5, 21, 6, 104, 4, 100, 54, 9, 3, 54, 10, 21, 10, 21, 9]
abbrev dktX1_kMul_0 : List UInt8 := dkwX1_kMul_0 ++ dktX1_kMul_1
theorem dksX1_kMul_0 : cX1_kMul.data.toList.drop 0 = dktX1_kMul_0 := by decide +kernel
theorem dksX1_kMul_1 : cX1_kMul.data.toList.drop 22 = dktX1_kMul_1 := dk_seg dksX1_kMul_0 22 rfl rfl
theorem dksX1_kMul_2 : cX1_kMul.data.toList.drop 45 = dktX1_kMul_2 := dk_seg dksX1_kMul_1 23 rfl rfl
theorem dksX1_kMul_3 : cX1_kMul.data.toList.drop 69 = dktX1_kMul_3 := dk_seg dksX1_kMul_2 24 rfl rfl
theorem dksX1_kMul_4 : cX1_kMul.data.toList.drop 93 = dktX1_kMul_4 := dk_seg dksX1_kMul_3 24 rfl rfl
theorem dksX1_kMul_5 : cX1_kMul.data.toList.drop 116 = dktX1_kMul_5 := dk_seg dksX1_kMul_4 23 rfl rfl
theorem dksX1_kMul_6 : cX1_kMul.data.toList.drop 139 = dktX1_kMul_6 := dk_seg dksX1_kMul_5 23 rfl rfl
theorem dksX1_kMul_7 : cX1_kMul.data.toList.drop 163 = dktX1_kMul_7 := dk_seg dksX1_kMul_6 24 rfl rfl
theorem dksX1_kMul_8 : cX1_kMul.data.toList.drop 186 = dktX1_kMul_8 := dk_seg dksX1_kMul_7 23 rfl rfl
theorem dksX1_kMul_9 : cX1_kMul.data.toList.drop 210 = dktX1_kMul_9 := dk_seg dksX1_kMul_8 24 rfl rfl
theorem dksX1_kMul_10 : cX1_kMul.data.toList.drop 234 = dktX1_kMul_10 := dk_seg dksX1_kMul_9 24 rfl rfl
theorem dksX1_kMul_11 : cX1_kMul.data.toList.drop 257 = dktX1_kMul_11 := dk_seg dksX1_kMul_10 23 rfl rfl
theorem dksX1_kMul_12 : cX1_kMul.data.toList.drop 281 = dktX1_kMul_12 := dk_seg dksX1_kMul_11 24 rfl rfl
theorem dksX1_kMul_13 : cX1_kMul.data.toList.drop 304 = dktX1_kMul_13 := dk_seg dksX1_kMul_12 23 rfl rfl
theorem dksX1_kMul_14 : cX1_kMul.data.toList.drop 328 = dktX1_kMul_14 := dk_seg dksX1_kMul_13 24 rfl rfl
theorem dksX1_kMul_15 : cX1_kMul.data.toList.drop 352 = dktX1_kMul_15 := dk_seg dksX1_kMul_14 24 rfl rfl
theorem dksX1_kMul_16 : cX1_kMul.data.toList.drop 374 = dktX1_kMul_16 := dk_seg dksX1_kMul_15 22 rfl rfl
theorem dksX1_kMul_17 : cX1_kMul.data.toList.drop 398 = dktX1_kMul_17 := dk_seg dksX1_kMul_16 24 rfl rfl
theorem dksX1_kMul_18 : cX1_kMul.data.toList.drop 422 = dktX1_kMul_18 := dk_seg dksX1_kMul_17 24 rfl rfl
theorem dksX1_kMul_19 : cX1_kMul.data.toList.drop 444 = dktX1_kMul_19 := dk_seg dksX1_kMul_18 22 rfl rfl
theorem dksX1_kMul_20 : cX1_kMul.data.toList.drop 468 = dktX1_kMul_20 := dk_seg dksX1_kMul_19 24 rfl rfl
theorem dksX1_kMul_21 : cX1_kMul.data.toList.drop 492 = dktX1_kMul_21 := dk_seg dksX1_kMul_20 24 rfl rfl
theorem dksX1_kMul_22 : cX1_kMul.data.toList.drop 515 = dktX1_kMul_22 := dk_seg dksX1_kMul_21 23 rfl rfl
theorem dksX1_kMul_23 : cX1_kMul.data.toList.drop 539 = dktX1_kMul_23 := dk_seg dksX1_kMul_22 24 rfl rfl
theorem dksX1_kMul_24 : cX1_kMul.data.toList.drop 563 = dktX1_kMul_24 := dk_seg dksX1_kMul_23 24 rfl rfl
theorem dX1_kMul_0 : decode cX1_kMul 0 = .ok (.iload 6, 2) := dk_21 6 (dk_at dksX1_kMul_0 0 rfl rfl)
theorem dX1_kMul_2 : decode cX1_kMul 2 = .ok (.bipush 48, 2) := dk_16 48 (dk_at dksX1_kMul_0 2 rfl rfl)
theorem dX1_kMul_4 : decode cX1_kMul 4 = .ok (.if_icmp .gt 102, 3) := dk_163 0 102 (dk_at dksX1_kMul_0 4 rfl rfl)
theorem dX1_kMul_7 : decode cX1_kMul 7 = .ok (.iconst 2, 1) := dk_5 (dk_at dksX1_kMul_0 7 rfl rfl)
theorem dX1_kMul_8 : decode cX1_kMul 8 = .ok (.iload 6, 2) := dk_21 6 (dk_at dksX1_kMul_0 8 rfl rfl)
theorem dX1_kMul_10 : decode cX1_kMul 10 = .ok (.imul, 1) := dk_104 (dk_at dksX1_kMul_0 10 rfl rfl)
theorem dX1_kMul_11 : decode cX1_kMul 11 = .ok (.iconst 1, 1) := dk_4 (dk_at dksX1_kMul_0 11 rfl rfl)
theorem dX1_kMul_12 : decode cX1_kMul 12 = .ok (.isub, 1) := dk_100 (dk_at dksX1_kMul_0 12 rfl rfl)
theorem dX1_kMul_13 : decode cX1_kMul 13 = .ok (.istore 9, 2) := dk_54 9 (dk_at dksX1_kMul_0 13 rfl rfl)
theorem dX1_kMul_15 : decode cX1_kMul 15 = .ok (.iconst 0, 1) := dk_3 (dk_at dksX1_kMul_0 15 rfl rfl)
theorem dX1_kMul_16 : decode cX1_kMul 16 = .ok (.istore 10, 2) := dk_54 10 (dk_at dksX1_kMul_0 16 rfl rfl)
theorem dX1_kMul_18 : decode cX1_kMul 18 = .ok (.iload 10, 2) := dk_21 10 (dk_at dksX1_kMul_0 18 rfl rfl)
theorem dX1_kMul_20 : decode cX1_kMul 20 = .ok (.iload 9, 2) := dk_21 9 (dk_at dksX1_kMul_0 20 rfl rfl)
theorem dX1_kMul_22 : decode cX1_kMul 22 = .ok (.if_icmp .ge 16, 3) := dk_162 0 16 (dk_at dksX1_kMul_1 0 rfl rfl)
theorem dX1_kMul_25 : decode cX1_kMul 25 = .ok (.aload_n 0, 1) := dk_42 (dk_at dksX1_kMul_1 3 rfl rfl)
theorem dX1_kMul_26 : decode cX1_kMul 26 = .ok (.iload_n 1, 1) := dk_27 (dk_at dksX1_kMul_1 4 rfl rfl)
theorem dX1_kMul_27 : decode cX1_kMul 27 = .ok (.iload 10, 2) := dk_21 10 (dk_at dksX1_kMul_1 5 rfl rfl)
theorem dX1_kMul_29 : decode cX1_kMul 29 = .ok (.iadd, 1) := dk_96 (dk_at dksX1_kMul_1 7 rfl rfl)
theorem dX1_kMul_30 : decode cX1_kMul 30 = .ok (.iconst 0, 1) := dk_3 (dk_at dksX1_kMul_1 8 rfl rfl)
theorem dX1_kMul_31 : decode cX1_kMul 31 = .ok (.iastore, 1) := dk_79 (dk_at dksX1_kMul_1 9 rfl rfl)
theorem dX1_kMul_32 : decode cX1_kMul 32 = .ok (.iinc 10 1, 3) := dk_132 10 1 (dk_at dksX1_kMul_1 10 rfl rfl)
theorem dX1_kMul_35 : decode cX1_kMul 35 = .ok (.goto (-17), 3) := dk_167 255 239 (dk_at dksX1_kMul_1 13 rfl rfl)
theorem dX1_kMul_38 : decode cX1_kMul 38 = .ok (.iconst 0, 1) := dk_3 (dk_at dksX1_kMul_1 16 rfl rfl)
theorem dX1_kMul_39 : decode cX1_kMul 39 = .ok (.istore 10, 2) := dk_54 10 (dk_at dksX1_kMul_1 17 rfl rfl)
theorem dX1_kMul_41 : decode cX1_kMul 41 = .ok (.iload 10, 2) := dk_21 10 (dk_at dksX1_kMul_1 19 rfl rfl)
theorem dX1_kMul_43 : decode cX1_kMul 43 = .ok (.iload 6, 2) := dk_21 6 (dk_at dksX1_kMul_1 21 rfl rfl)
theorem dX1_kMul_45 : decode cX1_kMul 45 = .ok (.if_icmp .ge 60, 3) := dk_162 0 60 (dk_at dksX1_kMul_2 0 rfl rfl)
theorem dX1_kMul_48 : decode cX1_kMul 48 = .ok (.aload_n 2, 1) := dk_44 (dk_at dksX1_kMul_2 3 rfl rfl)
theorem dX1_kMul_49 : decode cX1_kMul 49 = .ok (.iload_n 3, 1) := dk_29 (dk_at dksX1_kMul_2 4 rfl rfl)
theorem dX1_kMul_50 : decode cX1_kMul 50 = .ok (.iload 10, 2) := dk_21 10 (dk_at dksX1_kMul_2 5 rfl rfl)
theorem dX1_kMul_52 : decode cX1_kMul 52 = .ok (.iadd, 1) := dk_96 (dk_at dksX1_kMul_2 7 rfl rfl)
theorem dX1_kMul_53 : decode cX1_kMul 53 = .ok (.iaload, 1) := dk_46 (dk_at dksX1_kMul_2 8 rfl rfl)
theorem dX1_kMul_54 : decode cX1_kMul 54 = .ok (.istore 11, 2) := dk_54 11 (dk_at dksX1_kMul_2 9 rfl rfl)
theorem dX1_kMul_56 : decode cX1_kMul 56 = .ok (.iload_n 1, 1) := dk_27 (dk_at dksX1_kMul_2 11 rfl rfl)
theorem dX1_kMul_57 : decode cX1_kMul 57 = .ok (.iload 10, 2) := dk_21 10 (dk_at dksX1_kMul_2 12 rfl rfl)
theorem dX1_kMul_59 : decode cX1_kMul 59 = .ok (.iadd, 1) := dk_96 (dk_at dksX1_kMul_2 14 rfl rfl)
theorem dX1_kMul_60 : decode cX1_kMul 60 = .ok (.istore 12, 2) := dk_54 12 (dk_at dksX1_kMul_2 15 rfl rfl)
theorem dX1_kMul_62 : decode cX1_kMul 62 = .ok (.iconst 0, 1) := dk_3 (dk_at dksX1_kMul_2 17 rfl rfl)
theorem dX1_kMul_63 : decode cX1_kMul 63 = .ok (.istore 13, 2) := dk_54 13 (dk_at dksX1_kMul_2 18 rfl rfl)
theorem dX1_kMul_65 : decode cX1_kMul 65 = .ok (.iload 13, 2) := dk_21 13 (dk_at dksX1_kMul_2 20 rfl rfl)
theorem dX1_kMul_67 : decode cX1_kMul 67 = .ok (.iload 6, 2) := dk_21 6 (dk_at dksX1_kMul_2 22 rfl rfl)
theorem dX1_kMul_69 : decode cX1_kMul 69 = .ok (.if_icmp .ge 30, 3) := dk_162 0 30 (dk_at dksX1_kMul_3 0 rfl rfl)
theorem dX1_kMul_72 : decode cX1_kMul 72 = .ok (.aload_n 0, 1) := dk_42 (dk_at dksX1_kMul_3 3 rfl rfl)
theorem dX1_kMul_73 : decode cX1_kMul 73 = .ok (.iload 12, 2) := dk_21 12 (dk_at dksX1_kMul_3 4 rfl rfl)
theorem dX1_kMul_75 : decode cX1_kMul 75 = .ok (.iload 13, 2) := dk_21 13 (dk_at dksX1_kMul_3 6 rfl rfl)
theorem dX1_kMul_77 : decode cX1_kMul 77 = .ok (.iadd, 1) := dk_96 (dk_at dksX1_kMul_3 8 rfl rfl)
theorem dX1_kMul_78 : decode cX1_kMul 78 = .ok (.dup2, 1) := dk_92 (dk_at dksX1_kMul_3 9 rfl rfl)
theorem dX1_kMul_79 : decode cX1_kMul 79 = .ok (.iaload, 1) := dk_46 (dk_at dksX1_kMul_3 10 rfl rfl)
theorem dX1_kMul_80 : decode cX1_kMul 80 = .ok (.iload 11, 2) := dk_21 11 (dk_at dksX1_kMul_3 11 rfl rfl)
theorem dX1_kMul_82 : decode cX1_kMul 82 = .ok (.aload 4, 2) := dk_25 4 (dk_at dksX1_kMul_3 13 rfl rfl)
theorem dX1_kMul_84 : decode cX1_kMul 84 = .ok (.iload 5, 2) := dk_21 5 (dk_at dksX1_kMul_3 15 rfl rfl)
theorem dX1_kMul_86 : decode cX1_kMul 86 = .ok (.iload 13, 2) := dk_21 13 (dk_at dksX1_kMul_3 17 rfl rfl)
theorem dX1_kMul_88 : decode cX1_kMul 88 = .ok (.iadd, 1) := dk_96 (dk_at dksX1_kMul_3 19 rfl rfl)
theorem dX1_kMul_89 : decode cX1_kMul 89 = .ok (.iaload, 1) := dk_46 (dk_at dksX1_kMul_3 20 rfl rfl)
theorem dX1_kMul_90 : decode cX1_kMul 90 = .ok (.imul, 1) := dk_104 (dk_at dksX1_kMul_3 21 rfl rfl)
theorem dX1_kMul_91 : decode cX1_kMul 91 = .ok (.iadd, 1) := dk_96 (dk_at dksX1_kMul_3 22 rfl rfl)
theorem dX1_kMul_92 : decode cX1_kMul 92 = .ok (.iastore, 1) := dk_79 (dk_at dksX1_kMul_3 23 rfl rfl)
theorem dX1_kMul_93 : decode cX1_kMul 93 = .ok (.iinc 13 1, 3) := dk_132 13 1 (dk_at dksX1_kMul_4 0 rfl rfl)
theorem dX1_kMul_96 : decode cX1_kMul 96 = .ok (.goto (-31), 3) := dk_167 255 225 (dk_at dksX1_kMul_4 3 rfl rfl)
theorem dX1_kMul_99 : decode cX1_kMul 99 = .ok (.iinc 10 1, 3) := dk_132 10 1 (dk_at dksX1_kMul_4 6 rfl rfl)
theorem dX1_kMul_102 : decode cX1_kMul 102 = .ok (.goto (-61), 3) := dk_167 255 195 (dk_at dksX1_kMul_4 9 rfl rfl)
theorem dX1_kMul_105 : decode cX1_kMul 105 = .ok (.return_, 1) := dk_177 (dk_at dksX1_kMul_4 12 rfl rfl)
theorem dX1_kMul_106 : decode cX1_kMul 106 = .ok (.iload 6, 2) := dk_21 6 (dk_at dksX1_kMul_4 13 rfl rfl)
theorem dX1_kMul_108 : decode cX1_kMul 108 = .ok (.iconst 1, 1) := dk_4 (dk_at dksX1_kMul_4 15 rfl rfl)
theorem dX1_kMul_109 : decode cX1_kMul 109 = .ok (.iadd, 1) := dk_96 (dk_at dksX1_kMul_4 16 rfl rfl)
theorem dX1_kMul_110 : decode cX1_kMul 110 = .ok (.iconst 1, 1) := dk_4 (dk_at dksX1_kMul_4 17 rfl rfl)
theorem dX1_kMul_111 : decode cX1_kMul 111 = .ok (.ishr, 1) := dk_122 (dk_at dksX1_kMul_4 18 rfl rfl)
theorem dX1_kMul_112 : decode cX1_kMul 112 = .ok (.istore 9, 2) := dk_54 9 (dk_at dksX1_kMul_4 19 rfl rfl)
theorem dX1_kMul_114 : decode cX1_kMul 114 = .ok (.iload 6, 2) := dk_21 6 (dk_at dksX1_kMul_4 21 rfl rfl)
theorem dX1_kMul_116 : decode cX1_kMul 116 = .ok (.iload 9, 2) := dk_21 9 (dk_at dksX1_kMul_5 0 rfl rfl)
theorem dX1_kMul_118 : decode cX1_kMul 118 = .ok (.isub, 1) := dk_100 (dk_at dksX1_kMul_5 2 rfl rfl)
theorem dX1_kMul_119 : decode cX1_kMul 119 = .ok (.istore 10, 2) := dk_54 10 (dk_at dksX1_kMul_5 3 rfl rfl)
theorem dX1_kMul_121 : decode cX1_kMul 121 = .ok (.iload 8, 2) := dk_21 8 (dk_at dksX1_kMul_5 5 rfl rfl)
theorem dX1_kMul_123 : decode cX1_kMul 123 = .ok (.istore 11, 2) := dk_54 11 (dk_at dksX1_kMul_5 7 rfl rfl)
theorem dX1_kMul_125 : decode cX1_kMul 125 = .ok (.iload 11, 2) := dk_21 11 (dk_at dksX1_kMul_5 9 rfl rfl)
theorem dX1_kMul_127 : decode cX1_kMul 127 = .ok (.iload 9, 2) := dk_21 9 (dk_at dksX1_kMul_5 11 rfl rfl)
theorem dX1_kMul_129 : decode cX1_kMul 129 = .ok (.iadd, 1) := dk_96 (dk_at dksX1_kMul_5 13 rfl rfl)
theorem dX1_kMul_130 : decode cX1_kMul 130 = .ok (.istore 12, 2) := dk_54 12 (dk_at dksX1_kMul_5 14 rfl rfl)
theorem dX1_kMul_132 : decode cX1_kMul 132 = .ok (.iload 12, 2) := dk_21 12 (dk_at dksX1_kMul_5 16 rfl rfl)
theorem dX1_kMul_134 : decode cX1_kMul 134 = .ok (.iload 9, 2) := dk_21 9 (dk_at dksX1_kMul_5 18 rfl rfl)
theorem dX1_kMul_136 : decode cX1_kMul 136 = .ok (.iadd, 1) := dk_96 (dk_at dksX1_kMul_5 20 rfl rfl)
theorem dX1_kMul_137 : decode cX1_kMul 137 = .ok (.istore 13, 2) := dk_54 13 (dk_at dksX1_kMul_5 21 rfl rfl)
theorem dX1_kMul_139 : decode cX1_kMul 139 = .ok (.iload 13, 2) := dk_21 13 (dk_at dksX1_kMul_6 0 rfl rfl)
theorem dX1_kMul_141 : decode cX1_kMul 141 = .ok (.iconst 2, 1) := dk_5 (dk_at dksX1_kMul_6 2 rfl rfl)
theorem dX1_kMul_142 : decode cX1_kMul 142 = .ok (.iload 9, 2) := dk_21 9 (dk_at dksX1_kMul_6 3 rfl rfl)
theorem dX1_kMul_144 : decode cX1_kMul 144 = .ok (.imul, 1) := dk_104 (dk_at dksX1_kMul_6 5 rfl rfl)
theorem dX1_kMul_145 : decode cX1_kMul 145 = .ok (.iconst 1, 1) := dk_4 (dk_at dksX1_kMul_6 6 rfl rfl)
theorem dX1_kMul_146 : decode cX1_kMul 146 = .ok (.isub, 1) := dk_100 (dk_at dksX1_kMul_6 7 rfl rfl)
theorem dX1_kMul_147 : decode cX1_kMul 147 = .ok (.iadd, 1) := dk_96 (dk_at dksX1_kMul_6 8 rfl rfl)
theorem dX1_kMul_148 : decode cX1_kMul 148 = .ok (.istore 14, 2) := dk_54 14 (dk_at dksX1_kMul_6 9 rfl rfl)
theorem dX1_kMul_150 : decode cX1_kMul 150 = .ok (.iload 14, 2) := dk_21 14 (dk_at dksX1_kMul_6 11 rfl rfl)
theorem dX1_kMul_152 : decode cX1_kMul 152 = .ok (.iconst 2, 1) := dk_5 (dk_at dksX1_kMul_6 13 rfl rfl)
theorem dX1_kMul_153 : decode cX1_kMul 153 = .ok (.iload 10, 2) := dk_21 10 (dk_at dksX1_kMul_6 14 rfl rfl)
theorem dX1_kMul_155 : decode cX1_kMul 155 = .ok (.imul, 1) := dk_104 (dk_at dksX1_kMul_6 16 rfl rfl)
theorem dX1_kMul_156 : decode cX1_kMul 156 = .ok (.iconst 1, 1) := dk_4 (dk_at dksX1_kMul_6 17 rfl rfl)
theorem dX1_kMul_157 : decode cX1_kMul 157 = .ok (.isub, 1) := dk_100 (dk_at dksX1_kMul_6 18 rfl rfl)
theorem dX1_kMul_158 : decode cX1_kMul 158 = .ok (.iadd, 1) := dk_96 (dk_at dksX1_kMul_6 19 rfl rfl)
theorem dX1_kMul_159 : decode cX1_kMul 159 = .ok (.istore 15, 2) := dk_54 15 (dk_at dksX1_kMul_6 20 rfl rfl)
theorem dX1_kMul_161 : decode cX1_kMul 161 = .ok (.iload 15, 2) := dk_21 15 (dk_at dksX1_kMul_6 22 rfl rfl)
theorem dX1_kMul_163 : decode cX1_kMul 163 = .ok (.iconst 2, 1) := dk_5 (dk_at dksX1_kMul_7 0 rfl rfl)
theorem dX1_kMul_164 : decode cX1_kMul 164 = .ok (.iload 9, 2) := dk_21 9 (dk_at dksX1_kMul_7 1 rfl rfl)
theorem dX1_kMul_166 : decode cX1_kMul 166 = .ok (.imul, 1) := dk_104 (dk_at dksX1_kMul_7 3 rfl rfl)
theorem dX1_kMul_167 : decode cX1_kMul 167 = .ok (.iconst 1, 1) := dk_4 (dk_at dksX1_kMul_7 4 rfl rfl)
theorem dX1_kMul_168 : decode cX1_kMul 168 = .ok (.isub, 1) := dk_100 (dk_at dksX1_kMul_7 5 rfl rfl)
theorem dX1_kMul_169 : decode cX1_kMul 169 = .ok (.iadd, 1) := dk_96 (dk_at dksX1_kMul_7 6 rfl rfl)
theorem dX1_kMul_170 : decode cX1_kMul 170 = .ok (.istore 16, 2) := dk_54 16 (dk_at dksX1_kMul_7 7 rfl rfl)
theorem dX1_kMul_172 : decode cX1_kMul 172 = .ok (.iconst 0, 1) := dk_3 (dk_at dksX1_kMul_7 9 rfl rfl)
theorem dX1_kMul_173 : decode cX1_kMul 173 = .ok (.istore 17, 2) := dk_54 17 (dk_at dksX1_kMul_7 10 rfl rfl)
theorem dX1_kMul_175 : decode cX1_kMul 175 = .ok (.iload 17, 2) := dk_21 17 (dk_at dksX1_kMul_7 12 rfl rfl)
theorem dX1_kMul_177 : decode cX1_kMul 177 = .ok (.iload 9, 2) := dk_21 9 (dk_at dksX1_kMul_7 14 rfl rfl)
theorem dX1_kMul_179 : decode cX1_kMul 179 = .ok (.if_icmp .ge 39, 3) := dk_162 0 39 (dk_at dksX1_kMul_7 16 rfl rfl)
theorem dX1_kMul_182 : decode cX1_kMul 182 = .ok (.aload 7, 2) := dk_25 7 (dk_at dksX1_kMul_7 19 rfl rfl)
theorem dX1_kMul_184 : decode cX1_kMul 184 = .ok (.iload 11, 2) := dk_21 11 (dk_at dksX1_kMul_7 21 rfl rfl)
theorem dX1_kMul_186 : decode cX1_kMul 186 = .ok (.iload 17, 2) := dk_21 17 (dk_at dksX1_kMul_8 0 rfl rfl)
theorem dX1_kMul_188 : decode cX1_kMul 188 = .ok (.iadd, 1) := dk_96 (dk_at dksX1_kMul_8 2 rfl rfl)
theorem dX1_kMul_189 : decode cX1_kMul 189 = .ok (.aload_n 2, 1) := dk_44 (dk_at dksX1_kMul_8 3 rfl rfl)
theorem dX1_kMul_190 : decode cX1_kMul 190 = .ok (.iload_n 3, 1) := dk_29 (dk_at dksX1_kMul_8 4 rfl rfl)
theorem dX1_kMul_191 : decode cX1_kMul 191 = .ok (.iload 17, 2) := dk_21 17 (dk_at dksX1_kMul_8 5 rfl rfl)
theorem dX1_kMul_193 : decode cX1_kMul 193 = .ok (.iadd, 1) := dk_96 (dk_at dksX1_kMul_8 7 rfl rfl)
theorem dX1_kMul_194 : decode cX1_kMul 194 = .ok (.iaload, 1) := dk_46 (dk_at dksX1_kMul_8 8 rfl rfl)
theorem dX1_kMul_195 : decode cX1_kMul 195 = .ok (.iastore, 1) := dk_79 (dk_at dksX1_kMul_8 9 rfl rfl)
theorem dX1_kMul_196 : decode cX1_kMul 196 = .ok (.aload 7, 2) := dk_25 7 (dk_at dksX1_kMul_8 10 rfl rfl)
theorem dX1_kMul_198 : decode cX1_kMul 198 = .ok (.iload 12, 2) := dk_21 12 (dk_at dksX1_kMul_8 12 rfl rfl)
theorem dX1_kMul_200 : decode cX1_kMul 200 = .ok (.iload 17, 2) := dk_21 17 (dk_at dksX1_kMul_8 14 rfl rfl)
theorem dX1_kMul_202 : decode cX1_kMul 202 = .ok (.iadd, 1) := dk_96 (dk_at dksX1_kMul_8 16 rfl rfl)
theorem dX1_kMul_203 : decode cX1_kMul 203 = .ok (.aload 4, 2) := dk_25 4 (dk_at dksX1_kMul_8 17 rfl rfl)
theorem dX1_kMul_205 : decode cX1_kMul 205 = .ok (.iload 5, 2) := dk_21 5 (dk_at dksX1_kMul_8 19 rfl rfl)
theorem dX1_kMul_207 : decode cX1_kMul 207 = .ok (.iload 17, 2) := dk_21 17 (dk_at dksX1_kMul_8 21 rfl rfl)
theorem dX1_kMul_209 : decode cX1_kMul 209 = .ok (.iadd, 1) := dk_96 (dk_at dksX1_kMul_8 23 rfl rfl)
theorem dX1_kMul_210 : decode cX1_kMul 210 = .ok (.iaload, 1) := dk_46 (dk_at dksX1_kMul_9 0 rfl rfl)
theorem dX1_kMul_211 : decode cX1_kMul 211 = .ok (.iastore, 1) := dk_79 (dk_at dksX1_kMul_9 1 rfl rfl)
theorem dX1_kMul_212 : decode cX1_kMul 212 = .ok (.iinc 17 1, 3) := dk_132 17 1 (dk_at dksX1_kMul_9 2 rfl rfl)
theorem dX1_kMul_215 : decode cX1_kMul 215 = .ok (.goto (-40), 3) := dk_167 255 216 (dk_at dksX1_kMul_9 5 rfl rfl)
theorem dX1_kMul_218 : decode cX1_kMul 218 = .ok (.iconst 0, 1) := dk_3 (dk_at dksX1_kMul_9 8 rfl rfl)
theorem dX1_kMul_219 : decode cX1_kMul 219 = .ok (.istore 17, 2) := dk_54 17 (dk_at dksX1_kMul_9 9 rfl rfl)
theorem dX1_kMul_221 : decode cX1_kMul 221 = .ok (.iload 17, 2) := dk_21 17 (dk_at dksX1_kMul_9 11 rfl rfl)
theorem dX1_kMul_223 : decode cX1_kMul 223 = .ok (.iload 10, 2) := dk_21 10 (dk_at dksX1_kMul_9 13 rfl rfl)
theorem dX1_kMul_225 : decode cX1_kMul 225 = .ok (.if_icmp .ge 51, 3) := dk_162 0 51 (dk_at dksX1_kMul_9 15 rfl rfl)
theorem dX1_kMul_228 : decode cX1_kMul 228 = .ok (.aload 7, 2) := dk_25 7 (dk_at dksX1_kMul_9 18 rfl rfl)
theorem dX1_kMul_230 : decode cX1_kMul 230 = .ok (.iload 11, 2) := dk_21 11 (dk_at dksX1_kMul_9 20 rfl rfl)
theorem dX1_kMul_232 : decode cX1_kMul 232 = .ok (.iload 17, 2) := dk_21 17 (dk_at dksX1_kMul_9 22 rfl rfl)
theorem dX1_kMul_234 : decode cX1_kMul 234 = .ok (.iadd, 1) := dk_96 (dk_at dksX1_kMul_10 0 rfl rfl)
theorem dX1_kMul_235 : decode cX1_kMul 235 = .ok (.dup2, 1) := dk_92 (dk_at dksX1_kMul_10 1 rfl rfl)
theorem dX1_kMul_236 : decode cX1_kMul 236 = .ok (.iaload, 1) := dk_46 (dk_at dksX1_kMul_10 2 rfl rfl)
theorem dX1_kMul_237 : decode cX1_kMul 237 = .ok (.aload_n 2, 1) := dk_44 (dk_at dksX1_kMul_10 3 rfl rfl)
theorem dX1_kMul_238 : decode cX1_kMul 238 = .ok (.iload_n 3, 1) := dk_29 (dk_at dksX1_kMul_10 4 rfl rfl)
theorem dX1_kMul_239 : decode cX1_kMul 239 = .ok (.iload 9, 2) := dk_21 9 (dk_at dksX1_kMul_10 5 rfl rfl)
theorem dX1_kMul_241 : decode cX1_kMul 241 = .ok (.iadd, 1) := dk_96 (dk_at dksX1_kMul_10 7 rfl rfl)
theorem dX1_kMul_242 : decode cX1_kMul 242 = .ok (.iload 17, 2) := dk_21 17 (dk_at dksX1_kMul_10 8 rfl rfl)
theorem dX1_kMul_244 : decode cX1_kMul 244 = .ok (.iadd, 1) := dk_96 (dk_at dksX1_kMul_10 10 rfl rfl)
theorem dX1_kMul_245 : decode cX1_kMul 245 = .ok (.iaload, 1) := dk_46 (dk_at dksX1_kMul_10 11 rfl rfl)
theorem dX1_kMul_246 : decode cX1_kMul 246 = .ok (.iadd, 1) := dk_96 (dk_at dksX1_kMul_10 12 rfl rfl)
theorem dX1_kMul_247 : decode cX1_kMul 247 = .ok (.iastore, 1) := dk_79 (dk_at dksX1_kMul_10 13 rfl rfl)
theorem dX1_kMul_248 : decode cX1_kMul 248 = .ok (.aload 7, 2) := dk_25 7 (dk_at dksX1_kMul_10 14 rfl rfl)
theorem dX1_kMul_250 : decode cX1_kMul 250 = .ok (.iload 12, 2) := dk_21 12 (dk_at dksX1_kMul_10 16 rfl rfl)
theorem dX1_kMul_252 : decode cX1_kMul 252 = .ok (.iload 17, 2) := dk_21 17 (dk_at dksX1_kMul_10 18 rfl rfl)
theorem dX1_kMul_254 : decode cX1_kMul 254 = .ok (.iadd, 1) := dk_96 (dk_at dksX1_kMul_10 20 rfl rfl)
theorem dX1_kMul_255 : decode cX1_kMul 255 = .ok (.dup2, 1) := dk_92 (dk_at dksX1_kMul_10 21 rfl rfl)
theorem dX1_kMul_256 : decode cX1_kMul 256 = .ok (.iaload, 1) := dk_46 (dk_at dksX1_kMul_10 22 rfl rfl)
theorem dX1_kMul_257 : decode cX1_kMul 257 = .ok (.aload 4, 2) := dk_25 4 (dk_at dksX1_kMul_11 0 rfl rfl)
theorem dX1_kMul_259 : decode cX1_kMul 259 = .ok (.iload 5, 2) := dk_21 5 (dk_at dksX1_kMul_11 2 rfl rfl)
theorem dX1_kMul_261 : decode cX1_kMul 261 = .ok (.iload 9, 2) := dk_21 9 (dk_at dksX1_kMul_11 4 rfl rfl)
theorem dX1_kMul_263 : decode cX1_kMul 263 = .ok (.iadd, 1) := dk_96 (dk_at dksX1_kMul_11 6 rfl rfl)
theorem dX1_kMul_264 : decode cX1_kMul 264 = .ok (.iload 17, 2) := dk_21 17 (dk_at dksX1_kMul_11 7 rfl rfl)
theorem dX1_kMul_266 : decode cX1_kMul 266 = .ok (.iadd, 1) := dk_96 (dk_at dksX1_kMul_11 9 rfl rfl)
theorem dX1_kMul_267 : decode cX1_kMul 267 = .ok (.iaload, 1) := dk_46 (dk_at dksX1_kMul_11 10 rfl rfl)
theorem dX1_kMul_268 : decode cX1_kMul 268 = .ok (.iadd, 1) := dk_96 (dk_at dksX1_kMul_11 11 rfl rfl)
theorem dX1_kMul_269 : decode cX1_kMul 269 = .ok (.iastore, 1) := dk_79 (dk_at dksX1_kMul_11 12 rfl rfl)
theorem dX1_kMul_270 : decode cX1_kMul 270 = .ok (.iinc 17 1, 3) := dk_132 17 1 (dk_at dksX1_kMul_11 13 rfl rfl)
theorem dX1_kMul_273 : decode cX1_kMul 273 = .ok (.goto (-52), 3) := dk_167 255 204 (dk_at dksX1_kMul_11 16 rfl rfl)
theorem dX1_kMul_276 : decode cX1_kMul 276 = .ok (.aload 7, 2) := dk_25 7 (dk_at dksX1_kMul_11 19 rfl rfl)
theorem dX1_kMul_278 : decode cX1_kMul 278 = .ok (.iload 13, 2) := dk_21 13 (dk_at dksX1_kMul_11 21 rfl rfl)
theorem dX1_kMul_280 : decode cX1_kMul 280 = .ok (.aload_n 2, 1) := dk_44 (dk_at dksX1_kMul_11 23 rfl rfl)
theorem dX1_kMul_281 : decode cX1_kMul 281 = .ok (.iload_n 3, 1) := dk_29 (dk_at dksX1_kMul_12 0 rfl rfl)
theorem dX1_kMul_282 : decode cX1_kMul 282 = .ok (.aload 4, 2) := dk_25 4 (dk_at dksX1_kMul_12 1 rfl rfl)
theorem dX1_kMul_284 : decode cX1_kMul 284 = .ok (.iload 5, 2) := dk_21 5 (dk_at dksX1_kMul_12 3 rfl rfl)
theorem dX1_kMul_286 : decode cX1_kMul 286 = .ok (.iload 9, 2) := dk_21 9 (dk_at dksX1_kMul_12 5 rfl rfl)
theorem dX1_kMul_288 : decode cX1_kMul 288 = .ok (.aload 7, 2) := dk_25 7 (dk_at dksX1_kMul_12 7 rfl rfl)
theorem dX1_kMul_290 : decode cX1_kMul 290 = .ok (.iload 16, 2) := dk_21 16 (dk_at dksX1_kMul_12 9 rfl rfl)
theorem dX1_kMul_292 : decode cX1_kMul 292 = .ok (.invokestatic 35, 3) := dk_184 0 35 (dk_at dksX1_kMul_12 11 rfl rfl)
theorem dX1_kMul_295 : decode cX1_kMul 295 = .ok (.aload 7, 2) := dk_25 7 (dk_at dksX1_kMul_12 14 rfl rfl)
theorem dX1_kMul_297 : decode cX1_kMul 297 = .ok (.iload 14, 2) := dk_21 14 (dk_at dksX1_kMul_12 16 rfl rfl)
theorem dX1_kMul_299 : decode cX1_kMul 299 = .ok (.aload_n 2, 1) := dk_44 (dk_at dksX1_kMul_12 18 rfl rfl)
theorem dX1_kMul_300 : decode cX1_kMul 300 = .ok (.iload_n 3, 1) := dk_29 (dk_at dksX1_kMul_12 19 rfl rfl)
theorem dX1_kMul_301 : decode cX1_kMul 301 = .ok (.iload 9, 2) := dk_21 9 (dk_at dksX1_kMul_12 20 rfl rfl)
theorem dX1_kMul_303 : decode cX1_kMul 303 = .ok (.iadd, 1) := dk_96 (dk_at dksX1_kMul_12 22 rfl rfl)
theorem dX1_kMul_304 : decode cX1_kMul 304 = .ok (.aload 4, 2) := dk_25 4 (dk_at dksX1_kMul_13 0 rfl rfl)
theorem dX1_kMul_306 : decode cX1_kMul 306 = .ok (.iload 5, 2) := dk_21 5 (dk_at dksX1_kMul_13 2 rfl rfl)
theorem dX1_kMul_308 : decode cX1_kMul 308 = .ok (.iload 9, 2) := dk_21 9 (dk_at dksX1_kMul_13 4 rfl rfl)
theorem dX1_kMul_310 : decode cX1_kMul 310 = .ok (.iadd, 1) := dk_96 (dk_at dksX1_kMul_13 6 rfl rfl)
theorem dX1_kMul_311 : decode cX1_kMul 311 = .ok (.iload 10, 2) := dk_21 10 (dk_at dksX1_kMul_13 7 rfl rfl)
theorem dX1_kMul_313 : decode cX1_kMul 313 = .ok (.aload 7, 2) := dk_25 7 (dk_at dksX1_kMul_13 9 rfl rfl)
theorem dX1_kMul_315 : decode cX1_kMul 315 = .ok (.iload 16, 2) := dk_21 16 (dk_at dksX1_kMul_13 11 rfl rfl)
theorem dX1_kMul_317 : decode cX1_kMul 317 = .ok (.invokestatic 35, 3) := dk_184 0 35 (dk_at dksX1_kMul_13 13 rfl rfl)
theorem dX1_kMul_320 : decode cX1_kMul 320 = .ok (.aload 7, 2) := dk_25 7 (dk_at dksX1_kMul_13 16 rfl rfl)
theorem dX1_kMul_322 : decode cX1_kMul 322 = .ok (.iload 15, 2) := dk_21 15 (dk_at dksX1_kMul_13 18 rfl rfl)
theorem dX1_kMul_324 : decode cX1_kMul 324 = .ok (.aload 7, 2) := dk_25 7 (dk_at dksX1_kMul_13 20 rfl rfl)
theorem dX1_kMul_326 : decode cX1_kMul 326 = .ok (.iload 11, 2) := dk_21 11 (dk_at dksX1_kMul_13 22 rfl rfl)
theorem dX1_kMul_328 : decode cX1_kMul 328 = .ok (.aload 7, 2) := dk_25 7 (dk_at dksX1_kMul_14 0 rfl rfl)
theorem dX1_kMul_330 : decode cX1_kMul 330 = .ok (.iload 12, 2) := dk_21 12 (dk_at dksX1_kMul_14 2 rfl rfl)
theorem dX1_kMul_332 : decode cX1_kMul 332 = .ok (.iload 9, 2) := dk_21 9 (dk_at dksX1_kMul_14 4 rfl rfl)
theorem dX1_kMul_334 : decode cX1_kMul 334 = .ok (.aload 7, 2) := dk_25 7 (dk_at dksX1_kMul_14 6 rfl rfl)
theorem dX1_kMul_336 : decode cX1_kMul 336 = .ok (.iload 16, 2) := dk_21 16 (dk_at dksX1_kMul_14 8 rfl rfl)
theorem dX1_kMul_338 : decode cX1_kMul 338 = .ok (.invokestatic 35, 3) := dk_184 0 35 (dk_at dksX1_kMul_14 10 rfl rfl)
theorem dX1_kMul_341 : decode cX1_kMul 341 = .ok (.iconst 0, 1) := dk_3 (dk_at dksX1_kMul_14 13 rfl rfl)
theorem dX1_kMul_342 : decode cX1_kMul 342 = .ok (.istore 17, 2) := dk_54 17 (dk_at dksX1_kMul_14 14 rfl rfl)
theorem dX1_kMul_344 : decode cX1_kMul 344 = .ok (.iload 17, 2) := dk_21 17 (dk_at dksX1_kMul_14 16 rfl rfl)
theorem dX1_kMul_346 : decode cX1_kMul 346 = .ok (.iconst 2, 1) := dk_5 (dk_at dksX1_kMul_14 18 rfl rfl)
theorem dX1_kMul_347 : decode cX1_kMul 347 = .ok (.iload 9, 2) := dk_21 9 (dk_at dksX1_kMul_14 19 rfl rfl)
theorem dX1_kMul_349 : decode cX1_kMul 349 = .ok (.imul, 1) := dk_104 (dk_at dksX1_kMul_14 21 rfl rfl)
theorem dX1_kMul_350 : decode cX1_kMul 350 = .ok (.iconst 1, 1) := dk_4 (dk_at dksX1_kMul_14 22 rfl rfl)
theorem dX1_kMul_351 : decode cX1_kMul 351 = .ok (.isub, 1) := dk_100 (dk_at dksX1_kMul_14 23 rfl rfl)
theorem dX1_kMul_352 : decode cX1_kMul 352 = .ok (.if_icmp .ge 28, 3) := dk_162 0 28 (dk_at dksX1_kMul_15 0 rfl rfl)
theorem dX1_kMul_355 : decode cX1_kMul 355 = .ok (.aload 7, 2) := dk_25 7 (dk_at dksX1_kMul_15 3 rfl rfl)
theorem dX1_kMul_357 : decode cX1_kMul 357 = .ok (.iload 15, 2) := dk_21 15 (dk_at dksX1_kMul_15 5 rfl rfl)
theorem dX1_kMul_359 : decode cX1_kMul 359 = .ok (.iload 17, 2) := dk_21 17 (dk_at dksX1_kMul_15 7 rfl rfl)
theorem dX1_kMul_361 : decode cX1_kMul 361 = .ok (.iadd, 1) := dk_96 (dk_at dksX1_kMul_15 9 rfl rfl)
theorem dX1_kMul_362 : decode cX1_kMul 362 = .ok (.dup2, 1) := dk_92 (dk_at dksX1_kMul_15 10 rfl rfl)
theorem dX1_kMul_363 : decode cX1_kMul 363 = .ok (.iaload, 1) := dk_46 (dk_at dksX1_kMul_15 11 rfl rfl)
theorem dX1_kMul_364 : decode cX1_kMul 364 = .ok (.aload 7, 2) := dk_25 7 (dk_at dksX1_kMul_15 12 rfl rfl)
theorem dX1_kMul_366 : decode cX1_kMul 366 = .ok (.iload 13, 2) := dk_21 13 (dk_at dksX1_kMul_15 14 rfl rfl)
theorem dX1_kMul_368 : decode cX1_kMul 368 = .ok (.iload 17, 2) := dk_21 17 (dk_at dksX1_kMul_15 16 rfl rfl)
theorem dX1_kMul_370 : decode cX1_kMul 370 = .ok (.iadd, 1) := dk_96 (dk_at dksX1_kMul_15 18 rfl rfl)
theorem dX1_kMul_371 : decode cX1_kMul 371 = .ok (.iaload, 1) := dk_46 (dk_at dksX1_kMul_15 19 rfl rfl)
theorem dX1_kMul_372 : decode cX1_kMul 372 = .ok (.isub, 1) := dk_100 (dk_at dksX1_kMul_15 20 rfl rfl)
theorem dX1_kMul_373 : decode cX1_kMul 373 = .ok (.iastore, 1) := dk_79 (dk_at dksX1_kMul_15 21 rfl rfl)
theorem dX1_kMul_374 : decode cX1_kMul 374 = .ok (.iinc 17 1, 3) := dk_132 17 1 (dk_at dksX1_kMul_16 0 rfl rfl)
theorem dX1_kMul_377 : decode cX1_kMul 377 = .ok (.goto (-33), 3) := dk_167 255 223 (dk_at dksX1_kMul_16 3 rfl rfl)
theorem dX1_kMul_380 : decode cX1_kMul 380 = .ok (.iconst 0, 1) := dk_3 (dk_at dksX1_kMul_16 6 rfl rfl)
theorem dX1_kMul_381 : decode cX1_kMul 381 = .ok (.istore 17, 2) := dk_54 17 (dk_at dksX1_kMul_16 7 rfl rfl)
theorem dX1_kMul_383 : decode cX1_kMul 383 = .ok (.iload 17, 2) := dk_21 17 (dk_at dksX1_kMul_16 9 rfl rfl)
theorem dX1_kMul_385 : decode cX1_kMul 385 = .ok (.iconst 2, 1) := dk_5 (dk_at dksX1_kMul_16 11 rfl rfl)
theorem dX1_kMul_386 : decode cX1_kMul 386 = .ok (.iload 10, 2) := dk_21 10 (dk_at dksX1_kMul_16 12 rfl rfl)
theorem dX1_kMul_388 : decode cX1_kMul 388 = .ok (.imul, 1) := dk_104 (dk_at dksX1_kMul_16 14 rfl rfl)
theorem dX1_kMul_389 : decode cX1_kMul 389 = .ok (.iconst 1, 1) := dk_4 (dk_at dksX1_kMul_16 15 rfl rfl)
theorem dX1_kMul_390 : decode cX1_kMul 390 = .ok (.isub, 1) := dk_100 (dk_at dksX1_kMul_16 16 rfl rfl)
theorem dX1_kMul_391 : decode cX1_kMul 391 = .ok (.if_icmp .ge 28, 3) := dk_162 0 28 (dk_at dksX1_kMul_16 17 rfl rfl)
theorem dX1_kMul_394 : decode cX1_kMul 394 = .ok (.aload 7, 2) := dk_25 7 (dk_at dksX1_kMul_16 20 rfl rfl)
theorem dX1_kMul_396 : decode cX1_kMul 396 = .ok (.iload 15, 2) := dk_21 15 (dk_at dksX1_kMul_16 22 rfl rfl)
theorem dX1_kMul_398 : decode cX1_kMul 398 = .ok (.iload 17, 2) := dk_21 17 (dk_at dksX1_kMul_17 0 rfl rfl)
theorem dX1_kMul_400 : decode cX1_kMul 400 = .ok (.iadd, 1) := dk_96 (dk_at dksX1_kMul_17 2 rfl rfl)
theorem dX1_kMul_401 : decode cX1_kMul 401 = .ok (.dup2, 1) := dk_92 (dk_at dksX1_kMul_17 3 rfl rfl)
theorem dX1_kMul_402 : decode cX1_kMul 402 = .ok (.iaload, 1) := dk_46 (dk_at dksX1_kMul_17 4 rfl rfl)
theorem dX1_kMul_403 : decode cX1_kMul 403 = .ok (.aload 7, 2) := dk_25 7 (dk_at dksX1_kMul_17 5 rfl rfl)
theorem dX1_kMul_405 : decode cX1_kMul 405 = .ok (.iload 14, 2) := dk_21 14 (dk_at dksX1_kMul_17 7 rfl rfl)
theorem dX1_kMul_407 : decode cX1_kMul 407 = .ok (.iload 17, 2) := dk_21 17 (dk_at dksX1_kMul_17 9 rfl rfl)
theorem dX1_kMul_409 : decode cX1_kMul 409 = .ok (.iadd, 1) := dk_96 (dk_at dksX1_kMul_17 11 rfl rfl)
theorem dX1_kMul_410 : decode cX1_kMul 410 = .ok (.iaload, 1) := dk_46 (dk_at dksX1_kMul_17 12 rfl rfl)
theorem dX1_kMul_411 : decode cX1_kMul 411 = .ok (.isub, 1) := dk_100 (dk_at dksX1_kMul_17 13 rfl rfl)
theorem dX1_kMul_412 : decode cX1_kMul 412 = .ok (.iastore, 1) := dk_79 (dk_at dksX1_kMul_17 14 rfl rfl)
theorem dX1_kMul_413 : decode cX1_kMul 413 = .ok (.iinc 17 1, 3) := dk_132 17 1 (dk_at dksX1_kMul_17 15 rfl rfl)
theorem dX1_kMul_416 : decode cX1_kMul 416 = .ok (.goto (-33), 3) := dk_167 255 223 (dk_at dksX1_kMul_17 18 rfl rfl)
theorem dX1_kMul_419 : decode cX1_kMul 419 = .ok (.iconst 2, 1) := dk_5 (dk_at dksX1_kMul_17 21 rfl rfl)
theorem dX1_kMul_420 : decode cX1_kMul 420 = .ok (.iload 6, 2) := dk_21 6 (dk_at dksX1_kMul_17 22 rfl rfl)
theorem dX1_kMul_422 : decode cX1_kMul 422 = .ok (.imul, 1) := dk_104 (dk_at dksX1_kMul_18 0 rfl rfl)
theorem dX1_kMul_423 : decode cX1_kMul 423 = .ok (.iconst 1, 1) := dk_4 (dk_at dksX1_kMul_18 1 rfl rfl)
theorem dX1_kMul_424 : decode cX1_kMul 424 = .ok (.isub, 1) := dk_100 (dk_at dksX1_kMul_18 2 rfl rfl)
theorem dX1_kMul_425 : decode cX1_kMul 425 = .ok (.istore 17, 2) := dk_54 17 (dk_at dksX1_kMul_18 3 rfl rfl)
theorem dX1_kMul_427 : decode cX1_kMul 427 = .ok (.iconst 0, 1) := dk_3 (dk_at dksX1_kMul_18 5 rfl rfl)
theorem dX1_kMul_428 : decode cX1_kMul 428 = .ok (.istore 18, 2) := dk_54 18 (dk_at dksX1_kMul_18 6 rfl rfl)
theorem dX1_kMul_430 : decode cX1_kMul 430 = .ok (.iload 18, 2) := dk_21 18 (dk_at dksX1_kMul_18 8 rfl rfl)
theorem dX1_kMul_432 : decode cX1_kMul 432 = .ok (.iload 17, 2) := dk_21 17 (dk_at dksX1_kMul_18 10 rfl rfl)
theorem dX1_kMul_434 : decode cX1_kMul 434 = .ok (.if_icmp .ge 16, 3) := dk_162 0 16 (dk_at dksX1_kMul_18 12 rfl rfl)
theorem dX1_kMul_437 : decode cX1_kMul 437 = .ok (.aload_n 0, 1) := dk_42 (dk_at dksX1_kMul_18 15 rfl rfl)
theorem dX1_kMul_438 : decode cX1_kMul 438 = .ok (.iload_n 1, 1) := dk_27 (dk_at dksX1_kMul_18 16 rfl rfl)
theorem dX1_kMul_439 : decode cX1_kMul 439 = .ok (.iload 18, 2) := dk_21 18 (dk_at dksX1_kMul_18 17 rfl rfl)
theorem dX1_kMul_441 : decode cX1_kMul 441 = .ok (.iadd, 1) := dk_96 (dk_at dksX1_kMul_18 19 rfl rfl)
theorem dX1_kMul_442 : decode cX1_kMul 442 = .ok (.iconst 0, 1) := dk_3 (dk_at dksX1_kMul_18 20 rfl rfl)
theorem dX1_kMul_443 : decode cX1_kMul 443 = .ok (.iastore, 1) := dk_79 (dk_at dksX1_kMul_18 21 rfl rfl)
theorem dX1_kMul_444 : decode cX1_kMul 444 = .ok (.iinc 18 1, 3) := dk_132 18 1 (dk_at dksX1_kMul_19 0 rfl rfl)
theorem dX1_kMul_447 : decode cX1_kMul 447 = .ok (.goto (-17), 3) := dk_167 255 239 (dk_at dksX1_kMul_19 3 rfl rfl)
theorem dX1_kMul_450 : decode cX1_kMul 450 = .ok (.iconst 0, 1) := dk_3 (dk_at dksX1_kMul_19 6 rfl rfl)
theorem dX1_kMul_451 : decode cX1_kMul 451 = .ok (.istore 18, 2) := dk_54 18 (dk_at dksX1_kMul_19 7 rfl rfl)
theorem dX1_kMul_453 : decode cX1_kMul 453 = .ok (.iload 18, 2) := dk_21 18 (dk_at dksX1_kMul_19 9 rfl rfl)
theorem dX1_kMul_455 : decode cX1_kMul 455 = .ok (.iconst 2, 1) := dk_5 (dk_at dksX1_kMul_19 11 rfl rfl)
theorem dX1_kMul_456 : decode cX1_kMul 456 = .ok (.iload 9, 2) := dk_21 9 (dk_at dksX1_kMul_19 12 rfl rfl)
theorem dX1_kMul_458 : decode cX1_kMul 458 = .ok (.imul, 1) := dk_104 (dk_at dksX1_kMul_19 14 rfl rfl)
theorem dX1_kMul_459 : decode cX1_kMul 459 = .ok (.iconst 1, 1) := dk_4 (dk_at dksX1_kMul_19 15 rfl rfl)
theorem dX1_kMul_460 : decode cX1_kMul 460 = .ok (.isub, 1) := dk_100 (dk_at dksX1_kMul_19 16 rfl rfl)
theorem dX1_kMul_461 : decode cX1_kMul 461 = .ok (.if_icmp .ge 26, 3) := dk_162 0 26 (dk_at dksX1_kMul_19 17 rfl rfl)
theorem dX1_kMul_464 : decode cX1_kMul 464 = .ok (.aload_n 0, 1) := dk_42 (dk_at dksX1_kMul_19 20 rfl rfl)
theorem dX1_kMul_465 : decode cX1_kMul 465 = .ok (.iload_n 1, 1) := dk_27 (dk_at dksX1_kMul_19 21 rfl rfl)
theorem dX1_kMul_466 : decode cX1_kMul 466 = .ok (.iload 18, 2) := dk_21 18 (dk_at dksX1_kMul_19 22 rfl rfl)
theorem dX1_kMul_468 : decode cX1_kMul 468 = .ok (.iadd, 1) := dk_96 (dk_at dksX1_kMul_20 0 rfl rfl)
theorem dX1_kMul_469 : decode cX1_kMul 469 = .ok (.dup2, 1) := dk_92 (dk_at dksX1_kMul_20 1 rfl rfl)
theorem dX1_kMul_470 : decode cX1_kMul 470 = .ok (.iaload, 1) := dk_46 (dk_at dksX1_kMul_20 2 rfl rfl)
theorem dX1_kMul_471 : decode cX1_kMul 471 = .ok (.aload 7, 2) := dk_25 7 (dk_at dksX1_kMul_20 3 rfl rfl)
theorem dX1_kMul_473 : decode cX1_kMul 473 = .ok (.iload 13, 2) := dk_21 13 (dk_at dksX1_kMul_20 5 rfl rfl)
theorem dX1_kMul_475 : decode cX1_kMul 475 = .ok (.iload 18, 2) := dk_21 18 (dk_at dksX1_kMul_20 7 rfl rfl)
theorem dX1_kMul_477 : decode cX1_kMul 477 = .ok (.iadd, 1) := dk_96 (dk_at dksX1_kMul_20 9 rfl rfl)
theorem dX1_kMul_478 : decode cX1_kMul 478 = .ok (.iaload, 1) := dk_46 (dk_at dksX1_kMul_20 10 rfl rfl)
theorem dX1_kMul_479 : decode cX1_kMul 479 = .ok (.iadd, 1) := dk_96 (dk_at dksX1_kMul_20 11 rfl rfl)
theorem dX1_kMul_480 : decode cX1_kMul 480 = .ok (.iastore, 1) := dk_79 (dk_at dksX1_kMul_20 12 rfl rfl)
theorem dX1_kMul_481 : decode cX1_kMul 481 = .ok (.iinc 18 1, 3) := dk_132 18 1 (dk_at dksX1_kMul_20 13 rfl rfl)
theorem dX1_kMul_484 : decode cX1_kMul 484 = .ok (.goto (-31), 3) := dk_167 255 225 (dk_at dksX1_kMul_20 16 rfl rfl)
theorem dX1_kMul_487 : decode cX1_kMul 487 = .ok (.iconst 0, 1) := dk_3 (dk_at dksX1_kMul_20 19 rfl rfl)
theorem dX1_kMul_488 : decode cX1_kMul 488 = .ok (.istore 18, 2) := dk_54 18 (dk_at dksX1_kMul_20 20 rfl rfl)
theorem dX1_kMul_490 : decode cX1_kMul 490 = .ok (.iload 18, 2) := dk_21 18 (dk_at dksX1_kMul_20 22 rfl rfl)
theorem dX1_kMul_492 : decode cX1_kMul 492 = .ok (.iconst 2, 1) := dk_5 (dk_at dksX1_kMul_21 0 rfl rfl)
theorem dX1_kMul_493 : decode cX1_kMul 493 = .ok (.iload 10, 2) := dk_21 10 (dk_at dksX1_kMul_21 1 rfl rfl)
theorem dX1_kMul_495 : decode cX1_kMul 495 = .ok (.imul, 1) := dk_104 (dk_at dksX1_kMul_21 3 rfl rfl)
theorem dX1_kMul_496 : decode cX1_kMul 496 = .ok (.iconst 1, 1) := dk_4 (dk_at dksX1_kMul_21 4 rfl rfl)
theorem dX1_kMul_497 : decode cX1_kMul 497 = .ok (.isub, 1) := dk_100 (dk_at dksX1_kMul_21 5 rfl rfl)
theorem dX1_kMul_498 : decode cX1_kMul 498 = .ok (.if_icmp .ge 31, 3) := dk_162 0 31 (dk_at dksX1_kMul_21 6 rfl rfl)
theorem dX1_kMul_501 : decode cX1_kMul 501 = .ok (.aload_n 0, 1) := dk_42 (dk_at dksX1_kMul_21 9 rfl rfl)
theorem dX1_kMul_502 : decode cX1_kMul 502 = .ok (.iload_n 1, 1) := dk_27 (dk_at dksX1_kMul_21 10 rfl rfl)
theorem dX1_kMul_503 : decode cX1_kMul 503 = .ok (.iconst 2, 1) := dk_5 (dk_at dksX1_kMul_21 11 rfl rfl)
theorem dX1_kMul_504 : decode cX1_kMul 504 = .ok (.iload 9, 2) := dk_21 9 (dk_at dksX1_kMul_21 12 rfl rfl)
theorem dX1_kMul_506 : decode cX1_kMul 506 = .ok (.imul, 1) := dk_104 (dk_at dksX1_kMul_21 14 rfl rfl)
theorem dX1_kMul_507 : decode cX1_kMul 507 = .ok (.iadd, 1) := dk_96 (dk_at dksX1_kMul_21 15 rfl rfl)
theorem dX1_kMul_508 : decode cX1_kMul 508 = .ok (.iload 18, 2) := dk_21 18 (dk_at dksX1_kMul_21 16 rfl rfl)
theorem dX1_kMul_510 : decode cX1_kMul 510 = .ok (.iadd, 1) := dk_96 (dk_at dksX1_kMul_21 18 rfl rfl)
theorem dX1_kMul_511 : decode cX1_kMul 511 = .ok (.dup2, 1) := dk_92 (dk_at dksX1_kMul_21 19 rfl rfl)
theorem dX1_kMul_512 : decode cX1_kMul 512 = .ok (.iaload, 1) := dk_46 (dk_at dksX1_kMul_21 20 rfl rfl)
theorem dX1_kMul_513 : decode cX1_kMul 513 = .ok (.aload 7, 2) := dk_25 7 (dk_at dksX1_kMul_21 21 rfl rfl)
theorem dX1_kMul_515 : decode cX1_kMul 515 = .ok (.iload 14, 2) := dk_21 14 (dk_at dksX1_kMul_22 0 rfl rfl)
theorem dX1_kMul_517 : decode cX1_kMul 517 = .ok (.iload 18, 2) := dk_21 18 (dk_at dksX1_kMul_22 2 rfl rfl)
theorem dX1_kMul_519 : decode cX1_kMul 519 = .ok (.iadd, 1) := dk_96 (dk_at dksX1_kMul_22 4 rfl rfl)
theorem dX1_kMul_520 : decode cX1_kMul 520 = .ok (.iaload, 1) := dk_46 (dk_at dksX1_kMul_22 5 rfl rfl)
theorem dX1_kMul_521 : decode cX1_kMul 521 = .ok (.iadd, 1) := dk_96 (dk_at dksX1_kMul_22 6 rfl rfl)
theorem dX1_kMul_522 : decode cX1_kMul 522 = .ok (.iastore, 1) := dk_79 (dk_at dksX1_kMul_22 7 rfl rfl)
theorem dX1_kMul_523 : decode cX1_kMul 523 = .ok (.iinc 18 1, 3) := dk_132 18 1 (dk_at dksX1_kMul_22 8 rfl rfl)
theorem dX1_kMul_526 : decode cX1_kMul 526 = .ok (.goto (-36), 3) := dk_167 255 220 (dk_at dksX1_kMul_22 11 rfl rfl)
theorem dX1_kMul_529 : decode cX1_kMul 529 = .ok (.iconst 0, 1) := dk_3 (dk_at dksX1_kMul_22 14 rfl rfl)
theorem dX1_kMul_530 : decode cX1_kMul 530 = .ok (.istore 18, 2) := dk_54 18 (dk_at dksX1_kMul_22 15 rfl rfl)
theorem dX1_kMul_532 : decode cX1_kMul 532 = .ok (.iload 18, 2) := dk_21 18 (dk_at dksX1_kMul_22 17 rfl rfl)
theorem dX1_kMul_534 : decode cX1_kMul 534 = .ok (.iconst 2, 1) := dk_5 (dk_at dksX1_kMul_22 19 rfl rfl)
theorem dX1_kMul_535 : decode cX1_kMul 535 = .ok (.iload 9, 2) := dk_21 9 (dk_at dksX1_kMul_22 20 rfl rfl)
theorem dX1_kMul_537 : decode cX1_kMul 537 = .ok (.imul, 1) := dk_104 (dk_at dksX1_kMul_22 22 rfl rfl)
theorem dX1_kMul_538 : decode cX1_kMul 538 = .ok (.iconst 1, 1) := dk_4 (dk_at dksX1_kMul_22 23 rfl rfl)
theorem dX1_kMul_539 : decode cX1_kMul 539 = .ok (.isub, 1) := dk_100 (dk_at dksX1_kMul_23 0 rfl rfl)
theorem dX1_kMul_540 : decode cX1_kMul 540 = .ok (.if_icmp .ge 29, 3) := dk_162 0 29 (dk_at dksX1_kMul_23 1 rfl rfl)
theorem dX1_kMul_543 : decode cX1_kMul 543 = .ok (.aload_n 0, 1) := dk_42 (dk_at dksX1_kMul_23 4 rfl rfl)
theorem dX1_kMul_544 : decode cX1_kMul 544 = .ok (.iload_n 1, 1) := dk_27 (dk_at dksX1_kMul_23 5 rfl rfl)
theorem dX1_kMul_545 : decode cX1_kMul 545 = .ok (.iload 9, 2) := dk_21 9 (dk_at dksX1_kMul_23 6 rfl rfl)
theorem dX1_kMul_547 : decode cX1_kMul 547 = .ok (.iadd, 1) := dk_96 (dk_at dksX1_kMul_23 8 rfl rfl)
theorem dX1_kMul_548 : decode cX1_kMul 548 = .ok (.iload 18, 2) := dk_21 18 (dk_at dksX1_kMul_23 9 rfl rfl)
theorem dX1_kMul_550 : decode cX1_kMul 550 = .ok (.iadd, 1) := dk_96 (dk_at dksX1_kMul_23 11 rfl rfl)
theorem dX1_kMul_551 : decode cX1_kMul 551 = .ok (.dup2, 1) := dk_92 (dk_at dksX1_kMul_23 12 rfl rfl)
theorem dX1_kMul_552 : decode cX1_kMul 552 = .ok (.iaload, 1) := dk_46 (dk_at dksX1_kMul_23 13 rfl rfl)
theorem dX1_kMul_553 : decode cX1_kMul 553 = .ok (.aload 7, 2) := dk_25 7 (dk_at dksX1_kMul_23 14 rfl rfl)
theorem dX1_kMul_555 : decode cX1_kMul 555 = .ok (.iload 15, 2) := dk_21 15 (dk_at dksX1_kMul_23 16 rfl rfl)
theorem dX1_kMul_557 : decode cX1_kMul 557 = .ok (.iload 18, 2) := dk_21 18 (dk_at dksX1_kMul_23 18 rfl rfl)
theorem dX1_kMul_559 : decode cX1_kMul 559 = .ok (.iadd, 1) := dk_96 (dk_at dksX1_kMul_23 20 rfl rfl)
theorem dX1_kMul_560 : decode cX1_kMul 560 = .ok (.iaload, 1) := dk_46 (dk_at dksX1_kMul_23 21 rfl rfl)
theorem dX1_kMul_561 : decode cX1_kMul 561 = .ok (.iadd, 1) := dk_96 (dk_at dksX1_kMul_23 22 rfl rfl)
theorem dX1_kMul_562 : decode cX1_kMul 562 = .ok (.iastore, 1) := dk_79 (dk_at dksX1_kMul_23 23 rfl rfl)
theorem dX1_kMul_563 : decode cX1_kMul 563 = .ok (.iinc 18 1, 3) := dk_132 18 1 (dk_at dksX1_kMul_24 0 rfl rfl)
theorem dX1_kMul_566 : decode cX1_kMul 566 = .ok (.goto (-34), 3) := dk_167 255 222 (dk_at dksX1_kMul_24 3 rfl rfl)
theorem dX1_kMul_569 : decode cX1_kMul 569 = .ok (.return_, 1) := dk_177 (dk_at dksX1_kMul_24 6 rfl rfl)
abbrev cX1_sqMul : ByteArray := prog_8_method_5_code
def yX1_sqMul : MethodName := ⟨RX1, "sqMul", "(LPolynomial;LPolynomial;)V"⟩
def dkwX1_sqMul_0 : List UInt8 := [42, 43, 44, 182, 0, 28, 42, 182, 0, 32, 177]
abbrev dktX1_sqMul_0 : List UInt8 := dkwX1_sqMul_0 ++ []
theorem dksX1_sqMul_0 : cX1_sqMul.data.toList.drop 0 = dktX1_sqMul_0 := by decide +kernel
theorem dX1_sqMul_0 : decode cX1_sqMul 0 = .ok (.aload_n 0, 1) := dk_42 (dk_at dksX1_sqMul_0 0 rfl rfl)
theorem dX1_sqMul_1 : decode cX1_sqMul 1 = .ok (.aload_n 1, 1) := dk_43 (dk_at dksX1_sqMul_0 1 rfl rfl)
theorem dX1_sqMul_2 : decode cX1_sqMul 2 = .ok (.aload_n 2, 1) := dk_44 (dk_at dksX1_sqMul_0 2 rfl rfl)
theorem dX1_sqMul_3 : decode cX1_sqMul 3 = .ok (.invokevirtual 28, 3) := dk_182 0 28 (dk_at dksX1_sqMul_0 3 rfl rfl)
theorem dX1_sqMul_6 : decode cX1_sqMul 6 = .ok (.aload_n 0, 1) := dk_42 (dk_at dksX1_sqMul_0 6 rfl rfl)
theorem dX1_sqMul_7 : decode cX1_sqMul 7 = .ok (.invokevirtual 32, 3) := dk_182 0 32 (dk_at dksX1_sqMul_0 7 rfl rfl)
theorem dX1_sqMul_10 : decode cX1_sqMul 10 = .ok (.return_, 1) := dk_177 (dk_at dksX1_sqMul_0 10 rfl rfl)
abbrev cX1_modQPhiN : ByteArray := prog_8_method_4_code
def yX1_modQPhiN : MethodName := ⟨RX1, "modQPhiN", "()V"⟩
def dkwX1_modQPhiN_1 : List UInt8 := [28, 53, 42, 180, 0, 13, 27, 4, 100, 53, 100, 147, 86, 132, 2, 1, 167, 255, 226, 177]
abbrev dktX1_modQPhiN_1 : List UInt8 := dkwX1_modQPhiN_1 ++ []
def dkwX1_modQPhiN_0 : List UInt8 := [42, 180, 0, 19, 182, 0, 7, 60, 3, 61, 28, 27, 162, 0, 31, 42, 180, 0, 13, 28, 42, 180, 0, 13]
abbrev dktX1_modQPhiN_0 : List UInt8 := dkwX1_modQPhiN_0 ++ dktX1_modQPhiN_1
theorem dksX1_modQPhiN_0 : cX1_modQPhiN.data.toList.drop 0 = dktX1_modQPhiN_0 := by decide +kernel
theorem dksX1_modQPhiN_1 : cX1_modQPhiN.data.toList.drop 24 = dktX1_modQPhiN_1 := dk_seg dksX1_modQPhiN_0 24 rfl rfl
theorem dX1_modQPhiN_0 : decode cX1_modQPhiN 0 = .ok (.aload_n 0, 1) := dk_42 (dk_at dksX1_modQPhiN_0 0 rfl rfl)
theorem dX1_modQPhiN_1 : decode cX1_modQPhiN 1 = .ok (.getfield 19, 3) := dk_180 0 19 (dk_at dksX1_modQPhiN_0 1 rfl rfl)
theorem dX1_modQPhiN_4 : decode cX1_modQPhiN 4 = .ok (.invokevirtual 7, 3) := dk_182 0 7 (dk_at dksX1_modQPhiN_0 4 rfl rfl)
theorem dX1_modQPhiN_7 : decode cX1_modQPhiN 7 = .ok (.istore_n 1, 1) := dk_60 (dk_at dksX1_modQPhiN_0 7 rfl rfl)
theorem dX1_modQPhiN_8 : decode cX1_modQPhiN 8 = .ok (.iconst 0, 1) := dk_3 (dk_at dksX1_modQPhiN_0 8 rfl rfl)
theorem dX1_modQPhiN_9 : decode cX1_modQPhiN 9 = .ok (.istore_n 2, 1) := dk_61 (dk_at dksX1_modQPhiN_0 9 rfl rfl)
theorem dX1_modQPhiN_10 : decode cX1_modQPhiN 10 = .ok (.iload_n 2, 1) := dk_28 (dk_at dksX1_modQPhiN_0 10 rfl rfl)
theorem dX1_modQPhiN_11 : decode cX1_modQPhiN 11 = .ok (.iload_n 1, 1) := dk_27 (dk_at dksX1_modQPhiN_0 11 rfl rfl)
theorem dX1_modQPhiN_12 : decode cX1_modQPhiN 12 = .ok (.if_icmp .ge 31, 3) := dk_162 0 31 (dk_at dksX1_modQPhiN_0 12 rfl rfl)
theorem dX1_modQPhiN_15 : decode cX1_modQPhiN 15 = .ok (.aload_n 0, 1) := dk_42 (dk_at dksX1_modQPhiN_0 15 rfl rfl)
theorem dX1_modQPhiN_16 : decode cX1_modQPhiN 16 = .ok (.getfield 13, 3) := dk_180 0 13 (dk_at dksX1_modQPhiN_0 16 rfl rfl)
theorem dX1_modQPhiN_19 : decode cX1_modQPhiN 19 = .ok (.iload_n 2, 1) := dk_28 (dk_at dksX1_modQPhiN_0 19 rfl rfl)
theorem dX1_modQPhiN_20 : decode cX1_modQPhiN 20 = .ok (.aload_n 0, 1) := dk_42 (dk_at dksX1_modQPhiN_0 20 rfl rfl)
theorem dX1_modQPhiN_21 : decode cX1_modQPhiN 21 = .ok (.getfield 13, 3) := dk_180 0 13 (dk_at dksX1_modQPhiN_0 21 rfl rfl)
theorem dX1_modQPhiN_24 : decode cX1_modQPhiN 24 = .ok (.iload_n 2, 1) := dk_28 (dk_at dksX1_modQPhiN_1 0 rfl rfl)
theorem dX1_modQPhiN_25 : decode cX1_modQPhiN 25 = .ok (.saload, 1) := dk_53 (dk_at dksX1_modQPhiN_1 1 rfl rfl)
theorem dX1_modQPhiN_26 : decode cX1_modQPhiN 26 = .ok (.aload_n 0, 1) := dk_42 (dk_at dksX1_modQPhiN_1 2 rfl rfl)
theorem dX1_modQPhiN_27 : decode cX1_modQPhiN 27 = .ok (.getfield 13, 3) := dk_180 0 13 (dk_at dksX1_modQPhiN_1 3 rfl rfl)
theorem dX1_modQPhiN_30 : decode cX1_modQPhiN 30 = .ok (.iload_n 1, 1) := dk_27 (dk_at dksX1_modQPhiN_1 6 rfl rfl)
theorem dX1_modQPhiN_31 : decode cX1_modQPhiN 31 = .ok (.iconst 1, 1) := dk_4 (dk_at dksX1_modQPhiN_1 7 rfl rfl)
theorem dX1_modQPhiN_32 : decode cX1_modQPhiN 32 = .ok (.isub, 1) := dk_100 (dk_at dksX1_modQPhiN_1 8 rfl rfl)
theorem dX1_modQPhiN_33 : decode cX1_modQPhiN 33 = .ok (.saload, 1) := dk_53 (dk_at dksX1_modQPhiN_1 9 rfl rfl)
theorem dX1_modQPhiN_34 : decode cX1_modQPhiN 34 = .ok (.isub, 1) := dk_100 (dk_at dksX1_modQPhiN_1 10 rfl rfl)
theorem dX1_modQPhiN_35 : decode cX1_modQPhiN 35 = .ok (.i2s, 1) := dk_147 (dk_at dksX1_modQPhiN_1 11 rfl rfl)
theorem dX1_modQPhiN_36 : decode cX1_modQPhiN 36 = .ok (.sastore, 1) := dk_86 (dk_at dksX1_modQPhiN_1 12 rfl rfl)
theorem dX1_modQPhiN_37 : decode cX1_modQPhiN 37 = .ok (.iinc 2 1, 3) := dk_132 2 1 (dk_at dksX1_modQPhiN_1 13 rfl rfl)
theorem dX1_modQPhiN_40 : decode cX1_modQPhiN 40 = .ok (.goto (-30), 3) := dk_167 255 226 (dk_at dksX1_modQPhiN_1 16 rfl rfl)
theorem dX1_modQPhiN_43 : decode cX1_modQPhiN 43 = .ok (.return_, 1) := dk_177 (dk_at dksX1_modQPhiN_1 19 rfl rfl)
abbrev cX1_s3Mul : ByteArray := prog_8_method_8_code
def yX1_s3Mul : MethodName := ⟨RX1, "s3Mul", "(LPolynomial;LPolynomial;)V"⟩
def dkwX1_s3Mul_0 : List UInt8 := [42, 43, 44, 182, 0, 28, 42, 182, 0, 39, 177]
abbrev dktX1_s3Mul_0 : List UInt8 := dkwX1_s3Mul_0 ++ []
theorem dksX1_s3Mul_0 : cX1_s3Mul.data.toList.drop 0 = dktX1_s3Mul_0 := by decide +kernel
theorem dX1_s3Mul_0 : decode cX1_s3Mul 0 = .ok (.aload_n 0, 1) := dk_42 (dk_at dksX1_s3Mul_0 0 rfl rfl)
theorem dX1_s3Mul_1 : decode cX1_s3Mul 1 = .ok (.aload_n 1, 1) := dk_43 (dk_at dksX1_s3Mul_0 1 rfl rfl)
theorem dX1_s3Mul_2 : decode cX1_s3Mul 2 = .ok (.aload_n 2, 1) := dk_44 (dk_at dksX1_s3Mul_0 2 rfl rfl)
theorem dX1_s3Mul_3 : decode cX1_s3Mul 3 = .ok (.invokevirtual 28, 3) := dk_182 0 28 (dk_at dksX1_s3Mul_0 3 rfl rfl)
theorem dX1_s3Mul_6 : decode cX1_s3Mul 6 = .ok (.aload_n 0, 1) := dk_42 (dk_at dksX1_s3Mul_0 6 rfl rfl)
theorem dX1_s3Mul_7 : decode cX1_s3Mul 7 = .ok (.invokevirtual 39, 3) := dk_182 0 39 (dk_at dksX1_s3Mul_0 7 rfl rfl)
theorem dX1_s3Mul_10 : decode cX1_s3Mul 10 = .ok (.return_, 1) := dk_177 (dk_at dksX1_s3Mul_0 10 rfl rfl)
abbrev cX1_mod3PhiN : ByteArray := prog_8_method_3_code
def yX1_mod3PhiN : MethodName := ⟨RX1, "mod3PhiN", "()V"⟩
def dkwX1_mod3PhiN_2 : List UInt8 := [177]
abbrev dktX1_mod3PhiN_2 : List UInt8 := dkwX1_mod3PhiN_2 ++ []
def dkwX1_mod3PhiN_1 : List UInt8 := [28, 53, 5, 42, 180, 0, 13, 27, 4, 100, 53, 104, 96, 147, 184, 0, 24, 86, 132, 2, 1, 167, 255, 221]
abbrev dktX1_mod3PhiN_1 : List UInt8 := dkwX1_mod3PhiN_1 ++ dktX1_mod3PhiN_2
def dkwX1_mod3PhiN_0 : List UInt8 := [42, 180, 0, 19, 182, 0, 7, 60, 3, 61, 28, 27, 162, 0, 36, 42, 180, 0, 13, 28, 42, 180, 0, 13]
abbrev dktX1_mod3PhiN_0 : List UInt8 := dkwX1_mod3PhiN_0 ++ dktX1_mod3PhiN_1
theorem dksX1_mod3PhiN_0 : cX1_mod3PhiN.data.toList.drop 0 = dktX1_mod3PhiN_0 := by decide +kernel
theorem dksX1_mod3PhiN_1 : cX1_mod3PhiN.data.toList.drop 24 = dktX1_mod3PhiN_1 := dk_seg dksX1_mod3PhiN_0 24 rfl rfl
theorem dksX1_mod3PhiN_2 : cX1_mod3PhiN.data.toList.drop 48 = dktX1_mod3PhiN_2 := dk_seg dksX1_mod3PhiN_1 24 rfl rfl
theorem dX1_mod3PhiN_0 : decode cX1_mod3PhiN 0 = .ok (.aload_n 0, 1) := dk_42 (dk_at dksX1_mod3PhiN_0 0 rfl rfl)
theorem dX1_mod3PhiN_1 : decode cX1_mod3PhiN 1 = .ok (.getfield 19, 3) := dk_180 0 19 (dk_at dksX1_mod3PhiN_0 1 rfl rfl)
theorem dX1_mod3PhiN_4 : decode cX1_mod3PhiN 4 = .ok (.invokevirtual 7, 3) := dk_182 0 7 (dk_at dksX1_mod3PhiN_0 4 rfl rfl)
theorem dX1_mod3PhiN_7 : decode cX1_mod3PhiN 7 = .ok (.istore_n 1, 1) := dk_60 (dk_at dksX1_mod3PhiN_0 7 rfl rfl)
theorem dX1_mod3PhiN_8 : decode cX1_mod3PhiN 8 = .ok (.iconst 0, 1) := dk_3 (dk_at dksX1_mod3PhiN_0 8 rfl rfl)
theorem dX1_mod3PhiN_9 : decode cX1_mod3PhiN 9 = .ok (.istore_n 2, 1) := dk_61 (dk_at dksX1_mod3PhiN_0 9 rfl rfl)
theorem dX1_mod3PhiN_10 : decode cX1_mod3PhiN 10 = .ok (.iload_n 2, 1) := dk_28 (dk_at dksX1_mod3PhiN_0 10 rfl rfl)
theorem dX1_mod3PhiN_11 : decode cX1_mod3PhiN 11 = .ok (.iload_n 1, 1) := dk_27 (dk_at dksX1_mod3PhiN_0 11 rfl rfl)
theorem dX1_mod3PhiN_12 : decode cX1_mod3PhiN 12 = .ok (.if_icmp .ge 36, 3) := dk_162 0 36 (dk_at dksX1_mod3PhiN_0 12 rfl rfl)
theorem dX1_mod3PhiN_15 : decode cX1_mod3PhiN 15 = .ok (.aload_n 0, 1) := dk_42 (dk_at dksX1_mod3PhiN_0 15 rfl rfl)
theorem dX1_mod3PhiN_16 : decode cX1_mod3PhiN 16 = .ok (.getfield 13, 3) := dk_180 0 13 (dk_at dksX1_mod3PhiN_0 16 rfl rfl)
theorem dX1_mod3PhiN_19 : decode cX1_mod3PhiN 19 = .ok (.iload_n 2, 1) := dk_28 (dk_at dksX1_mod3PhiN_0 19 rfl rfl)
theorem dX1_mod3PhiN_20 : decode cX1_mod3PhiN 20 = .ok (.aload_n 0, 1) := dk_42 (dk_at dksX1_mod3PhiN_0 20 rfl rfl)
theorem dX1_mod3PhiN_21 : decode cX1_mod3PhiN 21 = .ok (.getfield 13, 3) := dk_180 0 13 (dk_at dksX1_mod3PhiN_0 21 rfl rfl)
theorem dX1_mod3PhiN_24 : decode cX1_mod3PhiN 24 = .ok (.iload_n 2, 1) := dk_28 (dk_at dksX1_mod3PhiN_1 0 rfl rfl)
theorem dX1_mod3PhiN_25 : decode cX1_mod3PhiN 25 = .ok (.saload, 1) := dk_53 (dk_at dksX1_mod3PhiN_1 1 rfl rfl)
theorem dX1_mod3PhiN_26 : decode cX1_mod3PhiN 26 = .ok (.iconst 2, 1) := dk_5 (dk_at dksX1_mod3PhiN_1 2 rfl rfl)
theorem dX1_mod3PhiN_27 : decode cX1_mod3PhiN 27 = .ok (.aload_n 0, 1) := dk_42 (dk_at dksX1_mod3PhiN_1 3 rfl rfl)
theorem dX1_mod3PhiN_28 : decode cX1_mod3PhiN 28 = .ok (.getfield 13, 3) := dk_180 0 13 (dk_at dksX1_mod3PhiN_1 4 rfl rfl)
theorem dX1_mod3PhiN_31 : decode cX1_mod3PhiN 31 = .ok (.iload_n 1, 1) := dk_27 (dk_at dksX1_mod3PhiN_1 7 rfl rfl)
theorem dX1_mod3PhiN_32 : decode cX1_mod3PhiN 32 = .ok (.iconst 1, 1) := dk_4 (dk_at dksX1_mod3PhiN_1 8 rfl rfl)
theorem dX1_mod3PhiN_33 : decode cX1_mod3PhiN 33 = .ok (.isub, 1) := dk_100 (dk_at dksX1_mod3PhiN_1 9 rfl rfl)
theorem dX1_mod3PhiN_34 : decode cX1_mod3PhiN 34 = .ok (.saload, 1) := dk_53 (dk_at dksX1_mod3PhiN_1 10 rfl rfl)
theorem dX1_mod3PhiN_35 : decode cX1_mod3PhiN 35 = .ok (.imul, 1) := dk_104 (dk_at dksX1_mod3PhiN_1 11 rfl rfl)
theorem dX1_mod3PhiN_36 : decode cX1_mod3PhiN 36 = .ok (.iadd, 1) := dk_96 (dk_at dksX1_mod3PhiN_1 12 rfl rfl)
theorem dX1_mod3PhiN_37 : decode cX1_mod3PhiN 37 = .ok (.i2s, 1) := dk_147 (dk_at dksX1_mod3PhiN_1 13 rfl rfl)
theorem dX1_mod3PhiN_38 : decode cX1_mod3PhiN 38 = .ok (.invokestatic 24, 3) := dk_184 0 24 (dk_at dksX1_mod3PhiN_1 14 rfl rfl)
theorem dX1_mod3PhiN_41 : decode cX1_mod3PhiN 41 = .ok (.sastore, 1) := dk_86 (dk_at dksX1_mod3PhiN_1 17 rfl rfl)
theorem dX1_mod3PhiN_42 : decode cX1_mod3PhiN 42 = .ok (.iinc 2 1, 3) := dk_132 2 1 (dk_at dksX1_mod3PhiN_1 18 rfl rfl)
theorem dX1_mod3PhiN_45 : decode cX1_mod3PhiN 45 = .ok (.goto (-35), 3) := dk_167 255 221 (dk_at dksX1_mod3PhiN_1 21 rfl rfl)
theorem dX1_mod3PhiN_48 : decode cX1_mod3PhiN 48 = .ok (.return_, 1) := dk_177 (dk_at dksX1_mod3PhiN_2 0 rfl rfl)
abbrev cX1_mod3 : ByteArray := prog_8_method_2_code
def yX1_mod3 : MethodName := ⟨RX1, "mod3", "(S)S"⟩
def dkwX1_mod3_2 : List UInt8 := [122, 62, 29, 27, 126, 29, 2, 130, 28, 126, 130, 147, 172]
abbrev dktX1_mod3_2 : List UInt8 := dkwX1_mod3_2 ++ []
def dkwX1_mod3_1 : List UInt8 := [60, 27, 5, 124, 27, 6, 126, 96, 60, 27, 5, 124, 27, 6, 126, 96, 60, 27, 6, 100, 61, 28, 16, 31]
abbrev dktX1_mod3_1 : List UInt8 := dkwX1_mod3_1 ++ dktX1_mod3_2
def dkwX1_mod3_0 : List UInt8 := [26, 18, 23, 126, 60, 27, 16, 8, 124, 27, 17, 0, 255, 126, 96, 60, 27, 7, 124, 27, 16, 15, 126, 96]
abbrev dktX1_mod3_0 : List UInt8 := dkwX1_mod3_0 ++ dktX1_mod3_1
theorem dksX1_mod3_0 : cX1_mod3.data.toList.drop 0 = dktX1_mod3_0 := by decide +kernel
theorem dksX1_mod3_1 : cX1_mod3.data.toList.drop 24 = dktX1_mod3_1 := dk_seg dksX1_mod3_0 24 rfl rfl
theorem dksX1_mod3_2 : cX1_mod3.data.toList.drop 48 = dktX1_mod3_2 := dk_seg dksX1_mod3_1 24 rfl rfl
theorem dX1_mod3_0 : decode cX1_mod3 0 = .ok (.iload_n 0, 1) := dk_26 (dk_at dksX1_mod3_0 0 rfl rfl)
theorem dX1_mod3_1 : decode cX1_mod3 1 = .ok (.ldc 23, 2) := dk_18 23 (dk_at dksX1_mod3_0 1 rfl rfl)
theorem dX1_mod3_3 : decode cX1_mod3 3 = .ok (.iand, 1) := dk_126 (dk_at dksX1_mod3_0 3 rfl rfl)
theorem dX1_mod3_4 : decode cX1_mod3 4 = .ok (.istore_n 1, 1) := dk_60 (dk_at dksX1_mod3_0 4 rfl rfl)
theorem dX1_mod3_5 : decode cX1_mod3 5 = .ok (.iload_n 1, 1) := dk_27 (dk_at dksX1_mod3_0 5 rfl rfl)
theorem dX1_mod3_6 : decode cX1_mod3 6 = .ok (.bipush 8, 2) := dk_16 8 (dk_at dksX1_mod3_0 6 rfl rfl)
theorem dX1_mod3_8 : decode cX1_mod3 8 = .ok (.iushr, 1) := dk_124 (dk_at dksX1_mod3_0 8 rfl rfl)
theorem dX1_mod3_9 : decode cX1_mod3 9 = .ok (.iload_n 1, 1) := dk_27 (dk_at dksX1_mod3_0 9 rfl rfl)
theorem dX1_mod3_10 : decode cX1_mod3 10 = .ok (.sipush 255, 3) := dk_17 0 255 (dk_at dksX1_mod3_0 10 rfl rfl)
theorem dX1_mod3_13 : decode cX1_mod3 13 = .ok (.iand, 1) := dk_126 (dk_at dksX1_mod3_0 13 rfl rfl)
theorem dX1_mod3_14 : decode cX1_mod3 14 = .ok (.iadd, 1) := dk_96 (dk_at dksX1_mod3_0 14 rfl rfl)
theorem dX1_mod3_15 : decode cX1_mod3 15 = .ok (.istore_n 1, 1) := dk_60 (dk_at dksX1_mod3_0 15 rfl rfl)
theorem dX1_mod3_16 : decode cX1_mod3 16 = .ok (.iload_n 1, 1) := dk_27 (dk_at dksX1_mod3_0 16 rfl rfl)
theorem dX1_mod3_17 : decode cX1_mod3 17 = .ok (.iconst 4, 1) := dk_7 (dk_at dksX1_mod3_0 17 rfl rfl)
theorem dX1_mod3_18 : decode cX1_mod3 18 = .ok (.iushr, 1) := dk_124 (dk_at dksX1_mod3_0 18 rfl rfl)
theorem dX1_mod3_19 : decode cX1_mod3 19 = .ok (.iload_n 1, 1) := dk_27 (dk_at dksX1_mod3_0 19 rfl rfl)
theorem dX1_mod3_20 : decode cX1_mod3 20 = .ok (.bipush 15, 2) := dk_16 15 (dk_at dksX1_mod3_0 20 rfl rfl)
theorem dX1_mod3_22 : decode cX1_mod3 22 = .ok (.iand, 1) := dk_126 (dk_at dksX1_mod3_0 22 rfl rfl)
theorem dX1_mod3_23 : decode cX1_mod3 23 = .ok (.iadd, 1) := dk_96 (dk_at dksX1_mod3_0 23 rfl rfl)
theorem dX1_mod3_24 : decode cX1_mod3 24 = .ok (.istore_n 1, 1) := dk_60 (dk_at dksX1_mod3_1 0 rfl rfl)
theorem dX1_mod3_25 : decode cX1_mod3 25 = .ok (.iload_n 1, 1) := dk_27 (dk_at dksX1_mod3_1 1 rfl rfl)
theorem dX1_mod3_26 : decode cX1_mod3 26 = .ok (.iconst 2, 1) := dk_5 (dk_at dksX1_mod3_1 2 rfl rfl)
theorem dX1_mod3_27 : decode cX1_mod3 27 = .ok (.iushr, 1) := dk_124 (dk_at dksX1_mod3_1 3 rfl rfl)
theorem dX1_mod3_28 : decode cX1_mod3 28 = .ok (.iload_n 1, 1) := dk_27 (dk_at dksX1_mod3_1 4 rfl rfl)
theorem dX1_mod3_29 : decode cX1_mod3 29 = .ok (.iconst 3, 1) := dk_6 (dk_at dksX1_mod3_1 5 rfl rfl)
theorem dX1_mod3_30 : decode cX1_mod3 30 = .ok (.iand, 1) := dk_126 (dk_at dksX1_mod3_1 6 rfl rfl)
theorem dX1_mod3_31 : decode cX1_mod3 31 = .ok (.iadd, 1) := dk_96 (dk_at dksX1_mod3_1 7 rfl rfl)
theorem dX1_mod3_32 : decode cX1_mod3 32 = .ok (.istore_n 1, 1) := dk_60 (dk_at dksX1_mod3_1 8 rfl rfl)
theorem dX1_mod3_33 : decode cX1_mod3 33 = .ok (.iload_n 1, 1) := dk_27 (dk_at dksX1_mod3_1 9 rfl rfl)
theorem dX1_mod3_34 : decode cX1_mod3 34 = .ok (.iconst 2, 1) := dk_5 (dk_at dksX1_mod3_1 10 rfl rfl)
theorem dX1_mod3_35 : decode cX1_mod3 35 = .ok (.iushr, 1) := dk_124 (dk_at dksX1_mod3_1 11 rfl rfl)
theorem dX1_mod3_36 : decode cX1_mod3 36 = .ok (.iload_n 1, 1) := dk_27 (dk_at dksX1_mod3_1 12 rfl rfl)
theorem dX1_mod3_37 : decode cX1_mod3 37 = .ok (.iconst 3, 1) := dk_6 (dk_at dksX1_mod3_1 13 rfl rfl)
theorem dX1_mod3_38 : decode cX1_mod3 38 = .ok (.iand, 1) := dk_126 (dk_at dksX1_mod3_1 14 rfl rfl)
theorem dX1_mod3_39 : decode cX1_mod3 39 = .ok (.iadd, 1) := dk_96 (dk_at dksX1_mod3_1 15 rfl rfl)
theorem dX1_mod3_40 : decode cX1_mod3 40 = .ok (.istore_n 1, 1) := dk_60 (dk_at dksX1_mod3_1 16 rfl rfl)
theorem dX1_mod3_41 : decode cX1_mod3 41 = .ok (.iload_n 1, 1) := dk_27 (dk_at dksX1_mod3_1 17 rfl rfl)
theorem dX1_mod3_42 : decode cX1_mod3 42 = .ok (.iconst 3, 1) := dk_6 (dk_at dksX1_mod3_1 18 rfl rfl)
theorem dX1_mod3_43 : decode cX1_mod3 43 = .ok (.isub, 1) := dk_100 (dk_at dksX1_mod3_1 19 rfl rfl)
theorem dX1_mod3_44 : decode cX1_mod3 44 = .ok (.istore_n 2, 1) := dk_61 (dk_at dksX1_mod3_1 20 rfl rfl)
theorem dX1_mod3_45 : decode cX1_mod3 45 = .ok (.iload_n 2, 1) := dk_28 (dk_at dksX1_mod3_1 21 rfl rfl)
theorem dX1_mod3_46 : decode cX1_mod3 46 = .ok (.bipush 31, 2) := dk_16 31 (dk_at dksX1_mod3_1 22 rfl rfl)
theorem dX1_mod3_48 : decode cX1_mod3 48 = .ok (.ishr, 1) := dk_122 (dk_at dksX1_mod3_2 0 rfl rfl)
theorem dX1_mod3_49 : decode cX1_mod3 49 = .ok (.istore_n 3, 1) := dk_62 (dk_at dksX1_mod3_2 1 rfl rfl)
theorem dX1_mod3_50 : decode cX1_mod3 50 = .ok (.iload_n 3, 1) := dk_29 (dk_at dksX1_mod3_2 2 rfl rfl)
theorem dX1_mod3_51 : decode cX1_mod3 51 = .ok (.iload_n 1, 1) := dk_27 (dk_at dksX1_mod3_2 3 rfl rfl)
theorem dX1_mod3_52 : decode cX1_mod3 52 = .ok (.iand, 1) := dk_126 (dk_at dksX1_mod3_2 4 rfl rfl)
theorem dX1_mod3_53 : decode cX1_mod3 53 = .ok (.iload_n 3, 1) := dk_29 (dk_at dksX1_mod3_2 5 rfl rfl)
theorem dX1_mod3_54 : decode cX1_mod3 54 = .ok (.iconst (-1), 1) := dk_2 (dk_at dksX1_mod3_2 6 rfl rfl)
theorem dX1_mod3_55 : decode cX1_mod3 55 = .ok (.ixor, 1) := dk_130 (dk_at dksX1_mod3_2 7 rfl rfl)
theorem dX1_mod3_56 : decode cX1_mod3 56 = .ok (.iload_n 2, 1) := dk_28 (dk_at dksX1_mod3_2 8 rfl rfl)
theorem dX1_mod3_57 : decode cX1_mod3 57 = .ok (.iand, 1) := dk_126 (dk_at dksX1_mod3_2 9 rfl rfl)
theorem dX1_mod3_58 : decode cX1_mod3 58 = .ok (.ixor, 1) := dk_130 (dk_at dksX1_mod3_2 10 rfl rfl)
theorem dX1_mod3_59 : decode cX1_mod3 59 = .ok (.i2s, 1) := dk_147 (dk_at dksX1_mod3_2 11 rfl rfl)
theorem dX1_mod3_60 : decode cX1_mod3 60 = .ok (.ireturn, 1) := dk_172 (dk_at dksX1_mod3_2 12 rfl rfl)
theorem q3 : (Jvm.Cond.initialized "Polynomial") ∈ lw_all := lw_g (lw_at lw_m0 2 rfl) rfl
theorem q56 : (Jvm.Cond.instanceMethod ({ cls := "Polynomial", name := "<init>", desc := "(LNTRUParameterSet;)V" } : Jvm.MethodName)) ∈ lw_all := lw_g (lw_at lw_m0 55 rfl) rfl
theorem q57 : (Jvm.Cond.code ({ cls := "Polynomial", name := "<init>", desc := "(LNTRUParameterSet;)V" } : Jvm.MethodName) prog_8_method_1_code (2 : Nat) (Option.none : Option Jvm.ClassFile.FieldType)) ∈ lw_all := lw_g (lw_at lw_m0 56 rfl) rfl
theorem q58 : (Jvm.Cond.methodLink "Polynomial" (1 : Nat) ({ cls := "java/lang/Object", name := "<init>", desc := "()V" } : Jvm.MethodName)) ∈ lw_all := lw_g (lw_at lw_m0 57 rfl) rfl
theorem q59 : (Jvm.Cond.methodLink "Polynomial" (7 : Nat) ({ cls := "NTRUParameterSet", name := "n", desc := "()I" } : Jvm.MethodName)) ∈ lw_all := lw_g (lw_at lw_m0 58 rfl) rfl
theorem q64 : (Jvm.Cond.fieldLink "Polynomial" (13 : Nat) "Polynomial" "coeffs" "[S") ∈ lw_all := lw_g (lw_at lw_m0 63 rfl) rfl
theorem q66 : (Jvm.Cond.fieldLink "Polynomial" (19 : Nat) "Polynomial" "params" "LNTRUParameterSet;") ∈ lw_all := lw_g (lw_at lw_m0 65 rfl) rfl
theorem q68 : (Jvm.Cond.soleField "Polynomial" "coeffs") ∈ lw_all := lw_g (lw_at lw_m0 67 rfl) rfl
theorem q70 : (Jvm.Cond.soleField "Polynomial" "params") ∈ lw_all := lw_g (lw_at lw_m0 69 rfl) rfl
theorem q101 : (Jvm.Cond.instanceMethod ({ cls := "Polynomial", name := "rqMul", desc := "(LPolynomial;LPolynomial;)V" } : Jvm.MethodName)) ∈ lw_all := lw_g (lw_at lw_m0 100 rfl) rfl
theorem q102 : (Jvm.Cond.sameMethod "Polynomial" "Polynomial" "rqMul" "(LPolynomial;LPolynomial;)V") ∈ lw_all := lw_g (lw_at lw_m0 101 rfl) rfl
theorem q104 : (Jvm.Cond.code ({ cls := "Polynomial", name := "rqMul", desc := "(LPolynomial;LPolynomial;)V" } : Jvm.MethodName) prog_8_method_6_code (12 : Nat) (Option.none : Option Jvm.ClassFile.FieldType)) ∈ lw_all := lw_g (lw_at lw_m0 103 rfl) rfl
theorem q105 : (Jvm.Cond.methodLink "Polynomial" (35 : Nat) ({ cls := "Polynomial", name := "kMul", desc := "([II[II[III[II)V" } : Jvm.MethodName)) ∈ lw_all := lw_g (lw_at lw_m0 104 rfl) rfl
theorem q106 : (Jvm.Cond.static ({ cls := "Polynomial", name := "kMul", desc := "([II[II[III[II)V" } : Jvm.MethodName)) ∈ lw_all := lw_g (lw_at lw_m0 105 rfl) rfl
theorem q107 : (Jvm.Cond.code ({ cls := "Polynomial", name := "kMul", desc := "([II[II[III[II)V" } : Jvm.MethodName) prog_8_method_7_code (19 : Nat) (Option.none : Option Jvm.ClassFile.FieldType)) ∈ lw_all := lw_g (lw_at lw_m0 106 rfl) rfl
theorem q117 : (Jvm.Cond.instanceMethod ({ cls := "Polynomial", name := "sqMul", desc := "(LPolynomial;LPolynomial;)V" } : Jvm.MethodName)) ∈ lw_all := lw_g (lw_at lw_m0 116 rfl) rfl
theorem q118 : (Jvm.Cond.sameMethod "Polynomial" "Polynomial" "sqMul" "(LPolynomial;LPolynomial;)V") ∈ lw_all := lw_g (lw_at lw_m0 117 rfl) rfl
theorem q120 : (Jvm.Cond.code ({ cls := "Polynomial", name := "sqMul", desc := "(LPolynomial;LPolynomial;)V" } : Jvm.MethodName) prog_8_method_5_code (3 : Nat) (Option.none : Option Jvm.ClassFile.FieldType)) ∈ lw_all := lw_g (lw_at lw_m0 119 rfl) rfl
theorem q121 : (Jvm.Cond.methodLink "Polynomial" (28 : Nat) ({ cls := "Polynomial", name := "rqMul", desc := "(LPolynomial;LPolynomial;)V" } : Jvm.MethodName)) ∈ lw_all := lw_g (lw_at lw_m0 120 rfl) rfl
theorem q122 : (Jvm.Cond.methodLink "Polynomial" (32 : Nat) ({ cls := "Polynomial", name := "modQPhiN", desc := "()V" } : Jvm.MethodName)) ∈ lw_all := lw_g (lw_at lw_m0 121 rfl) rfl
theorem q123 : (Jvm.Cond.instanceMethod ({ cls := "Polynomial", name := "modQPhiN", desc := "()V" } : Jvm.MethodName)) ∈ lw_all := lw_g (lw_at lw_m0 122 rfl) rfl
theorem q124 : (Jvm.Cond.sameMethod "Polynomial" "Polynomial" "modQPhiN" "()V") ∈ lw_all := lw_g (lw_at lw_m0 123 rfl) rfl
theorem q126 : (Jvm.Cond.code ({ cls := "Polynomial", name := "modQPhiN", desc := "()V" } : Jvm.MethodName) prog_8_method_4_code (3 : Nat) (Option.none : Option Jvm.ClassFile.FieldType)) ∈ lw_all := lw_g (lw_at lw_m0 125 rfl) rfl
theorem q132 : (Jvm.Cond.instanceMethod ({ cls := "Polynomial", name := "s3Mul", desc := "(LPolynomial;LPolynomial;)V" } : Jvm.MethodName)) ∈ lw_all := lw_g (lw_at lw_m0 131 rfl) rfl
theorem q133 : (Jvm.Cond.sameMethod "Polynomial" "Polynomial" "s3Mul" "(LPolynomial;LPolynomial;)V") ∈ lw_all := lw_g (lw_at lw_m0 132 rfl) rfl
theorem q135 : (Jvm.Cond.code ({ cls := "Polynomial", name := "s3Mul", desc := "(LPolynomial;LPolynomial;)V" } : Jvm.MethodName) prog_8_method_8_code (3 : Nat) (Option.none : Option Jvm.ClassFile.FieldType)) ∈ lw_all := lw_g (lw_at lw_m0 134 rfl) rfl
theorem q136 : (Jvm.Cond.methodLink "Polynomial" (39 : Nat) ({ cls := "Polynomial", name := "mod3PhiN", desc := "()V" } : Jvm.MethodName)) ∈ lw_all := lw_g (lw_at lw_m0 135 rfl) rfl
theorem q137 : (Jvm.Cond.instanceMethod ({ cls := "Polynomial", name := "mod3PhiN", desc := "()V" } : Jvm.MethodName)) ∈ lw_all := lw_g (lw_at lw_m0 136 rfl) rfl
theorem q138 : (Jvm.Cond.sameMethod "Polynomial" "Polynomial" "mod3PhiN" "()V") ∈ lw_all := lw_g (lw_at lw_m0 137 rfl) rfl
theorem q140 : (Jvm.Cond.code ({ cls := "Polynomial", name := "mod3PhiN", desc := "()V" } : Jvm.MethodName) prog_8_method_3_code (3 : Nat) (Option.none : Option Jvm.ClassFile.FieldType)) ∈ lw_all := lw_g (lw_at lw_m0 139 rfl) rfl
theorem q141 : (Jvm.Cond.methodLink "Polynomial" (24 : Nat) ({ cls := "Polynomial", name := "mod3", desc := "(S)S" } : Jvm.MethodName)) ∈ lw_all := lw_g (lw_at lw_m0 140 rfl) rfl
theorem q142 : (Jvm.Cond.static ({ cls := "Polynomial", name := "mod3", desc := "(S)S" } : Jvm.MethodName)) ∈ lw_all := lw_g (lw_at lw_m0 141 rfl) rfl
theorem q143 : (Jvm.Cond.code ({ cls := "Polynomial", name := "mod3", desc := "(S)S" } : Jvm.MethodName) prog_8_method_2_code (4 : Nat) (Option.some Jvm.ClassFile.FieldType.short)) ∈ lw_all := lw_g (lw_at lw_m0 142 rfl) rfl
theorem q144 : (Jvm.Cond.constant "Polynomial" (23 : Nat) (65535 : Int32)) ∈ lw_all := lw_g (lw_at lw_m0 143 rfl) rfl
/-! HPSPolynomial -/
set_option maxRecDepth 100000
def RX2 : String := "HPSPolynomial"
def TX2 : u_T := fun k => match k with
  | 0 => ("Polynomial", "coeffs", "[S", false)
  | _ => ("Polynomial", "params", "LNTRUParameterSet;", false)
def tyX2 : Nat → FieldType := fun k => match k with
  | 0 => .array .short
  | _ => .object "NTRUParameterSet"
abbrev wsX20 : List Cond := u_ws RX2 TX2 2
theorem nmX2 : ∀ a, a < 2 → ∀ b, b < 2 → a ≠ b → (TX2 a).2.1 ≠ (TX2 b).2.1 := by decide +kernel
theorem tyX2_ok : ∀ k, k < 2 → parseFieldDescriptor (TX2 k).2.2.1 = some (tyX2 k) := by decide +kernel
abbrev cX2_init : ByteArray := prog_1_method_1_code
def yX2_init : MethodName := ⟨RX2, "<init>", "(LNTRUHPSParameterSet;)V"⟩
def dkwX2_init_0 : List UInt8 := [42, 43, 183, 0, 1, 177]
abbrev dktX2_init_0 : List UInt8 := dkwX2_init_0 ++ []
theorem dksX2_init_0 : cX2_init.data.toList.drop 0 = dktX2_init_0 := by decide +kernel
theorem dX2_init_0 : decode cX2_init 0 = .ok (.aload_n 0, 1) := dk_42 (dk_at dksX2_init_0 0 rfl rfl)
theorem dX2_init_1 : decode cX2_init 1 = .ok (.aload_n 1, 1) := dk_43 (dk_at dksX2_init_0 1 rfl rfl)
theorem dX2_init_2 : decode cX2_init 2 = .ok (.invokespecial 1, 3) := dk_183 0 1 (dk_at dksX2_init_0 2 rfl rfl)
theorem dX2_init_5 : decode cX2_init 5 = .ok (.return_, 1) := dk_177 (dk_at dksX2_init_0 5 rfl rfl)
theorem q4 : (Jvm.Cond.initialized "HPSPolynomial") ∈ lw_all := lw_g (lw_at lw_m0 3 rfl) rfl
theorem q23 : (Jvm.Cond.instantiable "HPSPolynomial" (2 : Nat)) ∈ lw_all := lw_g (lw_at lw_m0 22 rfl) rfl
theorem q53 : (Jvm.Cond.instanceMethod ({ cls := "HPSPolynomial", name := "<init>", desc := "(LNTRUHPSParameterSet;)V" } : Jvm.MethodName)) ∈ lw_all := lw_g (lw_at lw_m0 52 rfl) rfl
theorem q54 : (Jvm.Cond.code ({ cls := "HPSPolynomial", name := "<init>", desc := "(LNTRUHPSParameterSet;)V" } : Jvm.MethodName) prog_1_method_1_code (2 : Nat) (Option.none : Option Jvm.ClassFile.FieldType)) ∈ lw_all := lw_g (lw_at lw_m0 53 rfl) rfl
theorem q55 : (Jvm.Cond.methodLink "HPSPolynomial" (1 : Nat) ({ cls := "Polynomial", name := "<init>", desc := "(LNTRUParameterSet;)V" } : Jvm.MethodName)) ∈ lw_all := lw_g (lw_at lw_m0 54 rfl) rfl
theorem q67 : (Jvm.Cond.lays "HPSPolynomial" "Polynomial" "coeffs" "[S") ∈ lw_all := lw_g (lw_at lw_m0 66 rfl) rfl
theorem q69 : (Jvm.Cond.lays "HPSPolynomial" "Polynomial" "params" "LNTRUParameterSet;") ∈ lw_all := lw_g (lw_at lw_m0 68 rfl) rfl
theorem q71 : (Jvm.Cond.superclass "HPSPolynomial" "Polynomial") ∈ lw_all := lw_g (lw_at lw_m0 70 rfl) rfl
theorem q103 : (Jvm.Cond.selects "HPSPolynomial" ({ cls := "Polynomial", name := "rqMul", desc := "(LPolynomial;LPolynomial;)V" } : Jvm.MethodName) ({ cls := "Polynomial", name := "rqMul", desc := "(LPolynomial;LPolynomial;)V" } : Jvm.MethodName)) ∈ lw_all := lw_g (lw_at lw_m0 102 rfl) rfl
theorem q119 : (Jvm.Cond.selects "HPSPolynomial" ({ cls := "Polynomial", name := "sqMul", desc := "(LPolynomial;LPolynomial;)V" } : Jvm.MethodName) ({ cls := "Polynomial", name := "sqMul", desc := "(LPolynomial;LPolynomial;)V" } : Jvm.MethodName)) ∈ lw_all := lw_g (lw_at lw_m0 118 rfl) rfl
theorem q125 : (Jvm.Cond.selects "HPSPolynomial" ({ cls := "Polynomial", name := "modQPhiN", desc := "()V" } : Jvm.MethodName) ({ cls := "Polynomial", name := "modQPhiN", desc := "()V" } : Jvm.MethodName)) ∈ lw_all := lw_g (lw_at lw_m0 124 rfl) rfl
theorem q134 : (Jvm.Cond.selects "HPSPolynomial" ({ cls := "Polynomial", name := "s3Mul", desc := "(LPolynomial;LPolynomial;)V" } : Jvm.MethodName) ({ cls := "Polynomial", name := "s3Mul", desc := "(LPolynomial;LPolynomial;)V" } : Jvm.MethodName)) ∈ lw_all := lw_g (lw_at lw_m0 133 rfl) rfl
theorem q139 : (Jvm.Cond.selects "HPSPolynomial" ({ cls := "Polynomial", name := "mod3PhiN", desc := "()V" } : Jvm.MethodName) ({ cls := "Polynomial", name := "mod3PhiN", desc := "()V" } : Jvm.MethodName)) ∈ lw_all := lw_g (lw_at lw_m0 138 rfl) rfl
theorem q212 : (Jvm.Cond.castable "HPSPolynomial" "Polynomial") ∈ lw_tbl := lw_at lw_m0 211 rfl
theorem in_X2 : ∀ w ∈ wsX20, w ∈ lw_all := lw_in wsX20 [67, 69] (by decide +kernel) (by decide +kernel)
/-! NTRUParameterSet -/
set_option maxRecDepth 100000
def RX3 : String := "NTRUParameterSet"
abbrev cX3_init : ByteArray := prog_4_method_1_code
def yX3_init : MethodName := ⟨RX3, "<init>", "(IIIII)V"⟩
def dkwX3_init_1 : List UInt8 := [181, 0, 19, 42, 21, 5, 181, 0, 22, 177]
abbrev dktX3_init_1 : List UInt8 := dkwX3_init_1 ++ []
def dkwX3_init_0 : List UInt8 := [42, 183, 0, 1, 42, 27, 181, 0, 7, 42, 28, 181, 0, 13, 42, 29, 181, 0, 16, 42, 21, 4]
abbrev dktX3_init_0 : List UInt8 := dkwX3_init_0 ++ dktX3_init_1
theorem dksX3_init_0 : cX3_init.data.toList.drop 0 = dktX3_init_0 := by decide +kernel
theorem dksX3_init_1 : cX3_init.data.toList.drop 22 = dktX3_init_1 := dk_seg dksX3_init_0 22 rfl rfl
theorem dX3_init_0 : decode cX3_init 0 = .ok (.aload_n 0, 1) := dk_42 (dk_at dksX3_init_0 0 rfl rfl)
theorem dX3_init_1 : decode cX3_init 1 = .ok (.invokespecial 1, 3) := dk_183 0 1 (dk_at dksX3_init_0 1 rfl rfl)
theorem dX3_init_4 : decode cX3_init 4 = .ok (.aload_n 0, 1) := dk_42 (dk_at dksX3_init_0 4 rfl rfl)
theorem dX3_init_5 : decode cX3_init 5 = .ok (.iload_n 1, 1) := dk_27 (dk_at dksX3_init_0 5 rfl rfl)
theorem dX3_init_6 : decode cX3_init 6 = .ok (.putfield 7, 3) := dk_181 0 7 (dk_at dksX3_init_0 6 rfl rfl)
theorem dX3_init_9 : decode cX3_init 9 = .ok (.aload_n 0, 1) := dk_42 (dk_at dksX3_init_0 9 rfl rfl)
theorem dX3_init_10 : decode cX3_init 10 = .ok (.iload_n 2, 1) := dk_28 (dk_at dksX3_init_0 10 rfl rfl)
theorem dX3_init_11 : decode cX3_init 11 = .ok (.putfield 13, 3) := dk_181 0 13 (dk_at dksX3_init_0 11 rfl rfl)
theorem dX3_init_14 : decode cX3_init 14 = .ok (.aload_n 0, 1) := dk_42 (dk_at dksX3_init_0 14 rfl rfl)
theorem dX3_init_15 : decode cX3_init 15 = .ok (.iload_n 3, 1) := dk_29 (dk_at dksX3_init_0 15 rfl rfl)
theorem dX3_init_16 : decode cX3_init 16 = .ok (.putfield 16, 3) := dk_181 0 16 (dk_at dksX3_init_0 16 rfl rfl)
theorem dX3_init_19 : decode cX3_init 19 = .ok (.aload_n 0, 1) := dk_42 (dk_at dksX3_init_0 19 rfl rfl)
theorem dX3_init_20 : decode cX3_init 20 = .ok (.iload 4, 2) := dk_21 4 (dk_at dksX3_init_0 20 rfl rfl)
theorem dX3_init_22 : decode cX3_init 22 = .ok (.putfield 19, 3) := dk_181 0 19 (dk_at dksX3_init_1 0 rfl rfl)
theorem dX3_init_25 : decode cX3_init 25 = .ok (.aload_n 0, 1) := dk_42 (dk_at dksX3_init_1 3 rfl rfl)
theorem dX3_init_26 : decode cX3_init 26 = .ok (.iload 5, 2) := dk_21 5 (dk_at dksX3_init_1 4 rfl rfl)
theorem dX3_init_28 : decode cX3_init 28 = .ok (.putfield 22, 3) := dk_181 0 22 (dk_at dksX3_init_1 6 rfl rfl)
theorem dX3_init_31 : decode cX3_init 31 = .ok (.return_, 1) := dk_177 (dk_at dksX3_init_1 9 rfl rfl)
abbrev cX3_n : ByteArray := prog_4_method_2_code
def yX3_n : MethodName := ⟨RX3, "n", "()I"⟩
theorem dX3_n_0 : decode cX3_n 0 = .ok (.aload_n 0, 1) := by decide +kernel
theorem dX3_n_1 : decode cX3_n 1 = .ok (.getfield 7, 3) := by decide +kernel
theorem dX3_n_4 : decode cX3_n 4 = .ok (.ireturn, 1) := by decide +kernel
theorem q5 : (Jvm.Cond.initialized "NTRUParameterSet") ∈ lw_all := lw_g (lw_at lw_m0 4 rfl) rfl
theorem q33 : (Jvm.Cond.instanceMethod ({ cls := "NTRUParameterSet", name := "<init>", desc := "(IIIII)V" } : Jvm.MethodName)) ∈ lw_all := lw_g (lw_at lw_m0 32 rfl) rfl
theorem q34 : (Jvm.Cond.code ({ cls := "NTRUParameterSet", name := "<init>", desc := "(IIIII)V" } : Jvm.MethodName) prog_4_method_1_code (6 : Nat) (Option.none : Option Jvm.ClassFile.FieldType)) ∈ lw_all := lw_g (lw_at lw_m0 33 rfl) rfl
theorem q35 : (Jvm.Cond.methodLink "NTRUParameterSet" (1 : Nat) ({ cls := "java/lang/Object", name := "<init>", desc := "()V" } : Jvm.MethodName)) ∈ lw_all := lw_g (lw_at lw_m0 34 rfl) rfl
theorem q36 : (Jvm.Cond.fieldLink "NTRUParameterSet" (7 : Nat) "NTRUParameterSet" "n" "I") ∈ lw_all := lw_g (lw_at lw_m0 35 rfl) rfl
theorem q37 : (Jvm.Cond.fieldLink "NTRUParameterSet" (13 : Nat) "NTRUParameterSet" "logQ" "I") ∈ lw_all := lw_g (lw_at lw_m0 36 rfl) rfl
theorem q38 : (Jvm.Cond.fieldLink "NTRUParameterSet" (16 : Nat) "NTRUParameterSet" "seedBytes" "I") ∈ lw_all := lw_g (lw_at lw_m0 37 rfl) rfl
theorem q39 : (Jvm.Cond.fieldLink "NTRUParameterSet" (19 : Nat) "NTRUParameterSet" "prfKeyBytes" "I") ∈ lw_all := lw_g (lw_at lw_m0 38 rfl) rfl
theorem q40 : (Jvm.Cond.fieldLink "NTRUParameterSet" (22 : Nat) "NTRUParameterSet" "sharedKeyBytes" "I") ∈ lw_all := lw_g (lw_at lw_m0 39 rfl) rfl
theorem q42 : (Jvm.Cond.soleField "NTRUParameterSet" "n") ∈ lw_all := lw_g (lw_at lw_m0 41 rfl) rfl
theorem q44 : (Jvm.Cond.soleField "NTRUParameterSet" "logQ") ∈ lw_all := lw_g (lw_at lw_m0 43 rfl) rfl
theorem q46 : (Jvm.Cond.soleField "NTRUParameterSet" "seedBytes") ∈ lw_all := lw_g (lw_at lw_m0 45 rfl) rfl
theorem q48 : (Jvm.Cond.soleField "NTRUParameterSet" "prfKeyBytes") ∈ lw_all := lw_g (lw_at lw_m0 47 rfl) rfl
theorem q50 : (Jvm.Cond.soleField "NTRUParameterSet" "sharedKeyBytes") ∈ lw_all := lw_g (lw_at lw_m0 49 rfl) rfl
theorem q60 : (Jvm.Cond.instanceMethod ({ cls := "NTRUParameterSet", name := "n", desc := "()I" } : Jvm.MethodName)) ∈ lw_all := lw_g (lw_at lw_m0 59 rfl) rfl
theorem q61 : (Jvm.Cond.sameMethod "NTRUParameterSet" "NTRUParameterSet" "n" "()I") ∈ lw_all := lw_g (lw_at lw_m0 60 rfl) rfl
theorem q63 : (Jvm.Cond.code ({ cls := "NTRUParameterSet", name := "n", desc := "()I" } : Jvm.MethodName) prog_4_method_2_code (1 : Nat) (Option.some Jvm.ClassFile.FieldType.int)) ∈ lw_all := lw_g (lw_at lw_m0 62 rfl) rfl
/-! NTRUHPSParameterSet -/
set_option maxRecDepth 100000
def RX4 : String := "NTRUHPSParameterSet"
abbrev cX4_init : ByteArray := prog_3_method_1_code
def yX4_init : MethodName := ⟨RX4, "<init>", "(IIIII)V"⟩
def dkwX4_init_0 : List UInt8 := [42, 27, 28, 29, 21, 4, 21, 5, 183, 0, 1, 177]
abbrev dktX4_init_0 : List UInt8 := dkwX4_init_0 ++ []
theorem dksX4_init_0 : cX4_init.data.toList.drop 0 = dktX4_init_0 := by decide +kernel
theorem dX4_init_0 : decode cX4_init 0 = .ok (.aload_n 0, 1) := dk_42 (dk_at dksX4_init_0 0 rfl rfl)
theorem dX4_init_1 : decode cX4_init 1 = .ok (.iload_n 1, 1) := dk_27 (dk_at dksX4_init_0 1 rfl rfl)
theorem dX4_init_2 : decode cX4_init 2 = .ok (.iload_n 2, 1) := dk_28 (dk_at dksX4_init_0 2 rfl rfl)
theorem dX4_init_3 : decode cX4_init 3 = .ok (.iload_n 3, 1) := dk_29 (dk_at dksX4_init_0 3 rfl rfl)
theorem dX4_init_4 : decode cX4_init 4 = .ok (.iload 4, 2) := dk_21 4 (dk_at dksX4_init_0 4 rfl rfl)
theorem dX4_init_6 : decode cX4_init 6 = .ok (.iload 5, 2) := dk_21 5 (dk_at dksX4_init_0 6 rfl rfl)
theorem dX4_init_8 : decode cX4_init 8 = .ok (.invokespecial 1, 3) := dk_183 0 1 (dk_at dksX4_init_0 8 rfl rfl)
theorem dX4_init_11 : decode cX4_init 11 = .ok (.return_, 1) := dk_177 (dk_at dksX4_init_0 11 rfl rfl)
theorem q6 : (Jvm.Cond.initialized "NTRUHPSParameterSet") ∈ lw_all := lw_g (lw_at lw_m0 5 rfl) rfl
theorem q30 : (Jvm.Cond.instanceMethod ({ cls := "NTRUHPSParameterSet", name := "<init>", desc := "(IIIII)V" } : Jvm.MethodName)) ∈ lw_all := lw_g (lw_at lw_m0 29 rfl) rfl
theorem q31 : (Jvm.Cond.code ({ cls := "NTRUHPSParameterSet", name := "<init>", desc := "(IIIII)V" } : Jvm.MethodName) prog_3_method_1_code (6 : Nat) (Option.none : Option Jvm.ClassFile.FieldType)) ∈ lw_all := lw_g (lw_at lw_m0 30 rfl) rfl
theorem q32 : (Jvm.Cond.methodLink "NTRUHPSParameterSet" (1 : Nat) ({ cls := "NTRUParameterSet", name := "<init>", desc := "(IIIII)V" } : Jvm.MethodName)) ∈ lw_all := lw_g (lw_at lw_m0 31 rfl) rfl
/-! NTRUHPS2048509 -/
set_option maxRecDepth 100000
def RX5 : String := "NTRUHPS2048509"
def TX5 : u_T := fun k => match k with
  | 0 => ("NTRUParameterSet", "n", "I", true)
  | 1 => ("NTRUParameterSet", "logQ", "I", true)
  | 2 => ("NTRUParameterSet", "seedBytes", "I", true)
  | 3 => ("NTRUParameterSet", "prfKeyBytes", "I", true)
  | _ => ("NTRUParameterSet", "sharedKeyBytes", "I", true)
def tyX5 : Nat → FieldType := fun k => match k with
  | 0 => .int
  | 1 => .int
  | 2 => .int
  | 3 => .int
  | _ => .int
abbrev wsX50 : List Cond := u_ws RX5 TX5 5
theorem nmX5 : ∀ a, a < 5 → ∀ b, b < 5 → a ≠ b → (TX5 a).2.1 ≠ (TX5 b).2.1 := by decide +kernel
theorem tyX5_ok : ∀ k, k < 5 → parseFieldDescriptor (TX5 k).2.2.1 = some (tyX5 k) := by decide +kernel
abbrev cX5_init : ByteArray := prog_2_method_1_code
def yX5_init : MethodName := ⟨RX5, "<init>", "()V"⟩
def dkwX5_init_0 : List UInt8 := [42, 17, 1, 253, 16, 11, 16, 32, 16, 32, 16, 32, 183, 0, 1, 177]
abbrev dktX5_init_0 : List UInt8 := dkwX5_init_0 ++ []
theorem dksX5_init_0 : cX5_init.data.toList.drop 0 = dktX5_init_0 := by decide +kernel
theorem dX5_init_0 : decode cX5_init 0 = .ok (.aload_n 0, 1) := dk_42 (dk_at dksX5_init_0 0 rfl rfl)
theorem dX5_init_1 : decode cX5_init 1 = .ok (.sipush 509, 3) := dk_17 1 253 (dk_at dksX5_init_0 1 rfl rfl)
theorem dX5_init_4 : decode cX5_init 4 = .ok (.bipush 11, 2) := dk_16 11 (dk_at dksX5_init_0 4 rfl rfl)
theorem dX5_init_6 : decode cX5_init 6 = .ok (.bipush 32, 2) := dk_16 32 (dk_at dksX5_init_0 6 rfl rfl)
theorem dX5_init_8 : decode cX5_init 8 = .ok (.bipush 32, 2) := dk_16 32 (dk_at dksX5_init_0 8 rfl rfl)
theorem dX5_init_10 : decode cX5_init 10 = .ok (.bipush 32, 2) := dk_16 32 (dk_at dksX5_init_0 10 rfl rfl)
theorem dX5_init_12 : decode cX5_init 12 = .ok (.invokespecial 1, 3) := dk_183 0 1 (dk_at dksX5_init_0 12 rfl rfl)
theorem dX5_init_15 : decode cX5_init 15 = .ok (.return_, 1) := dk_177 (dk_at dksX5_init_0 15 rfl rfl)
theorem q7 : (Jvm.Cond.initialized "NTRUHPS2048509") ∈ lw_all := lw_g (lw_at lw_m0 6 rfl) rfl
theorem q25 : (Jvm.Cond.instantiable "NTRUHPS2048509" (5 : Nat)) ∈ lw_all := lw_g (lw_at lw_m0 24 rfl) rfl
theorem q27 : (Jvm.Cond.instanceMethod ({ cls := "NTRUHPS2048509", name := "<init>", desc := "()V" } : Jvm.MethodName)) ∈ lw_all := lw_g (lw_at lw_m0 26 rfl) rfl
theorem q28 : (Jvm.Cond.code ({ cls := "NTRUHPS2048509", name := "<init>", desc := "()V" } : Jvm.MethodName) prog_2_method_1_code (1 : Nat) (Option.none : Option Jvm.ClassFile.FieldType)) ∈ lw_all := lw_g (lw_at lw_m0 27 rfl) rfl
theorem q29 : (Jvm.Cond.methodLink "NTRUHPS2048509" (1 : Nat) ({ cls := "NTRUHPSParameterSet", name := "<init>", desc := "(IIIII)V" } : Jvm.MethodName)) ∈ lw_all := lw_g (lw_at lw_m0 28 rfl) rfl
theorem q41 : (Jvm.Cond.laysFinal "NTRUHPS2048509" "NTRUParameterSet" "n" "I") ∈ lw_all := lw_g (lw_at lw_m0 40 rfl) rfl
theorem q43 : (Jvm.Cond.laysFinal "NTRUHPS2048509" "NTRUParameterSet" "logQ" "I") ∈ lw_all := lw_g (lw_at lw_m0 42 rfl) rfl
theorem q45 : (Jvm.Cond.laysFinal "NTRUHPS2048509" "NTRUParameterSet" "seedBytes" "I") ∈ lw_all := lw_g (lw_at lw_m0 44 rfl) rfl
theorem q47 : (Jvm.Cond.laysFinal "NTRUHPS2048509" "NTRUParameterSet" "prfKeyBytes" "I") ∈ lw_all := lw_g (lw_at lw_m0 46 rfl) rfl
theorem q49 : (Jvm.Cond.laysFinal "NTRUHPS2048509" "NTRUParameterSet" "sharedKeyBytes" "I") ∈ lw_all := lw_g (lw_at lw_m0 48 rfl) rfl
theorem q51 : (Jvm.Cond.superclass "NTRUHPS2048509" "NTRUHPSParameterSet") ∈ lw_all := lw_g (lw_at lw_m0 50 rfl) rfl
theorem q62 : (Jvm.Cond.selects "NTRUHPS2048509" ({ cls := "NTRUParameterSet", name := "n", desc := "()I" } : Jvm.MethodName) ({ cls := "NTRUParameterSet", name := "n", desc := "()I" } : Jvm.MethodName)) ∈ lw_all := lw_g (lw_at lw_m0 61 rfl) rfl
theorem in_X5 : ∀ w ∈ wsX50, w ∈ lw_all := lw_in wsX50 [41, 43, 45, 47, 49] (by decide +kernel) (by decide +kernel)
/-! NtruRingModel -/
set_option maxRecDepth 100000
def RX6 : String := "NtruRingModel"
def TX6 : u_T := fun k => match k with
  | 0 => ("NtruRingModel", "wide", "[I", true)
  | 1 => ("NtruRingModel", "small", "[I", true)
  | _ => ("NtruRingModel", "made", "[I", true)
def tyX6 : Nat → FieldType := fun k => match k with
  | 0 => .array .int
  | 1 => .array .int
  | _ => .array .int
abbrev wsX60 : List Cond := u_ws RX6 TX6 3
theorem nmX6 : ∀ a, a < 3 → ∀ b, b < 3 → a ≠ b → (TX6 a).2.1 ≠ (TX6 b).2.1 := by decide +kernel
theorem tyX6_ok : ∀ k, k < 3 → parseFieldDescriptor (TX6 k).2.2.1 = some (tyX6 k) := by decide +kernel
abbrev cX6_init : ByteArray := prog_7_method_1_code
def yX6_init : MethodName := ⟨RX6, "<init>", "()V"⟩
def dkwX6_init_1 : List UInt8 := [17, 1, 253, 188, 10, 181, 0, 16, 177]
abbrev dktX6_init_1 : List UInt8 := dkwX6_init_1 ++ []
def dkwX6_init_0 : List UInt8 := [42, 183, 0, 1, 42, 17, 5, 247, 188, 10, 181, 0, 9, 42, 17, 5, 247, 188, 10, 181, 0, 13, 42]
abbrev dktX6_init_0 : List UInt8 := dkwX6_init_0 ++ dktX6_init_1
theorem dksX6_init_0 : cX6_init.data.toList.drop 0 = dktX6_init_0 := by decide +kernel
theorem dksX6_init_1 : cX6_init.data.toList.drop 23 = dktX6_init_1 := dk_seg dksX6_init_0 23 rfl rfl
theorem dX6_init_0 : decode cX6_init 0 = .ok (.aload_n 0, 1) := dk_42 (dk_at dksX6_init_0 0 rfl rfl)
theorem dX6_init_1 : decode cX6_init 1 = .ok (.invokespecial 1, 3) := dk_183 0 1 (dk_at dksX6_init_0 1 rfl rfl)
theorem dX6_init_4 : decode cX6_init 4 = .ok (.aload_n 0, 1) := dk_42 (dk_at dksX6_init_0 4 rfl rfl)
theorem dX6_init_5 : decode cX6_init 5 = .ok (.sipush 1527, 3) := dk_17 5 247 (dk_at dksX6_init_0 5 rfl rfl)
theorem dX6_init_8 : decode cX6_init 8 = .ok (.newarray .int, 2) := dk_188_10 (dk_at dksX6_init_0 8 rfl rfl)
theorem dX6_init_10 : decode cX6_init 10 = .ok (.putfield 9, 3) := dk_181 0 9 (dk_at dksX6_init_0 10 rfl rfl)
theorem dX6_init_13 : decode cX6_init 13 = .ok (.aload_n 0, 1) := dk_42 (dk_at dksX6_init_0 13 rfl rfl)
theorem dX6_init_14 : decode cX6_init 14 = .ok (.sipush 1527, 3) := dk_17 5 247 (dk_at dksX6_init_0 14 rfl rfl)
theorem dX6_init_17 : decode cX6_init 17 = .ok (.newarray .int, 2) := dk_188_10 (dk_at dksX6_init_0 17 rfl rfl)
theorem dX6_init_19 : decode cX6_init 19 = .ok (.putfield 13, 3) := dk_181 0 13 (dk_at dksX6_init_0 19 rfl rfl)
theorem dX6_init_22 : decode cX6_init 22 = .ok (.aload_n 0, 1) := dk_42 (dk_at dksX6_init_0 22 rfl rfl)
theorem dX6_init_23 : decode cX6_init 23 = .ok (.sipush 509, 3) := dk_17 1 253 (dk_at dksX6_init_1 0 rfl rfl)
theorem dX6_init_26 : decode cX6_init 26 = .ok (.newarray .int, 2) := dk_188_10 (dk_at dksX6_init_1 3 rfl rfl)
theorem dX6_init_28 : decode cX6_init 28 = .ok (.putfield 16, 3) := dk_181 0 16 (dk_at dksX6_init_1 5 rfl rfl)
theorem dX6_init_31 : decode cX6_init 31 = .ok (.return_, 1) := dk_177 (dk_at dksX6_init_1 8 rfl rfl)
abbrev cX6_wide : ByteArray := prog_7_method_4_code
def yX6_wide : MethodName := ⟨RX6, "wide", "(III)V"⟩
def dkwX6_wide_0 : List UInt8 := [42, 180, 0, 9, 27, 184, 0, 20, 28, 184, 0, 24, 96, 29, 17, 7, 255, 126, 79, 177]
abbrev dktX6_wide_0 : List UInt8 := dkwX6_wide_0 ++ []
theorem dksX6_wide_0 : cX6_wide.data.toList.drop 0 = dktX6_wide_0 := by decide +kernel
theorem dX6_wide_0 : decode cX6_wide 0 = .ok (.aload_n 0, 1) := dk_42 (dk_at dksX6_wide_0 0 rfl rfl)
theorem dX6_wide_1 : decode cX6_wide 1 = .ok (.getfield 9, 3) := dk_180 0 9 (dk_at dksX6_wide_0 1 rfl rfl)
theorem dX6_wide_4 : decode cX6_wide 4 = .ok (.iload_n 1, 1) := dk_27 (dk_at dksX6_wide_0 4 rfl rfl)
theorem dX6_wide_5 : decode cX6_wide 5 = .ok (.invokestatic 20, 3) := dk_184 0 20 (dk_at dksX6_wide_0 5 rfl rfl)
theorem dX6_wide_8 : decode cX6_wide 8 = .ok (.iload_n 2, 1) := dk_28 (dk_at dksX6_wide_0 8 rfl rfl)
theorem dX6_wide_9 : decode cX6_wide 9 = .ok (.invokestatic 24, 3) := dk_184 0 24 (dk_at dksX6_wide_0 9 rfl rfl)
theorem dX6_wide_12 : decode cX6_wide 12 = .ok (.iadd, 1) := dk_96 (dk_at dksX6_wide_0 12 rfl rfl)
theorem dX6_wide_13 : decode cX6_wide 13 = .ok (.iload_n 3, 1) := dk_29 (dk_at dksX6_wide_0 13 rfl rfl)
theorem dX6_wide_14 : decode cX6_wide 14 = .ok (.sipush 2047, 3) := dk_17 7 255 (dk_at dksX6_wide_0 14 rfl rfl)
theorem dX6_wide_17 : decode cX6_wide 17 = .ok (.iand, 1) := dk_126 (dk_at dksX6_wide_0 17 rfl rfl)
theorem dX6_wide_18 : decode cX6_wide 18 = .ok (.iastore, 1) := dk_79 (dk_at dksX6_wide_0 18 rfl rfl)
theorem dX6_wide_19 : decode cX6_wide 19 = .ok (.return_, 1) := dk_177 (dk_at dksX6_wide_0 19 rfl rfl)
abbrev cX6_first : ByteArray := prog_7_method_2_code
def yX6_first : MethodName := ⟨RX6, "first", "(I)I"⟩
def dkwX6_first_0 : List UInt8 := [26, 18, 19, 126, 6, 112, 17, 1, 253, 104, 172]
abbrev dktX6_first_0 : List UInt8 := dkwX6_first_0 ++ []
theorem dksX6_first_0 : cX6_first.data.toList.drop 0 = dktX6_first_0 := by decide +kernel
theorem dX6_first_0 : decode cX6_first 0 = .ok (.iload_n 0, 1) := dk_26 (dk_at dksX6_first_0 0 rfl rfl)
theorem dX6_first_1 : decode cX6_first 1 = .ok (.ldc 19, 2) := dk_18 19 (dk_at dksX6_first_0 1 rfl rfl)
theorem dX6_first_3 : decode cX6_first 3 = .ok (.iand, 1) := dk_126 (dk_at dksX6_first_0 3 rfl rfl)
theorem dX6_first_4 : decode cX6_first 4 = .ok (.iconst 3, 1) := dk_6 (dk_at dksX6_first_0 4 rfl rfl)
theorem dX6_first_5 : decode cX6_first 5 = .ok (.irem, 1) := dk_112 (dk_at dksX6_first_0 5 rfl rfl)
theorem dX6_first_6 : decode cX6_first 6 = .ok (.sipush 509, 3) := dk_17 1 253 (dk_at dksX6_first_0 6 rfl rfl)
theorem dX6_first_9 : decode cX6_first 9 = .ok (.imul, 1) := dk_104 (dk_at dksX6_first_0 9 rfl rfl)
theorem dX6_first_10 : decode cX6_first 10 = .ok (.ireturn, 1) := dk_172 (dk_at dksX6_first_0 10 rfl rfl)
abbrev cX6_place : ByteArray := prog_7_method_3_code
def yX6_place : MethodName := ⟨RX6, "place", "(I)I"⟩
def dkwX6_place_0 : List UInt8 := [26, 18, 19, 126, 17, 1, 253, 112, 172]
abbrev dktX6_place_0 : List UInt8 := dkwX6_place_0 ++ []
theorem dksX6_place_0 : cX6_place.data.toList.drop 0 = dktX6_place_0 := by decide +kernel
theorem dX6_place_0 : decode cX6_place 0 = .ok (.iload_n 0, 1) := dk_26 (dk_at dksX6_place_0 0 rfl rfl)
theorem dX6_place_1 : decode cX6_place 1 = .ok (.ldc 19, 2) := dk_18 19 (dk_at dksX6_place_0 1 rfl rfl)
theorem dX6_place_3 : decode cX6_place 3 = .ok (.iand, 1) := dk_126 (dk_at dksX6_place_0 3 rfl rfl)
theorem dX6_place_4 : decode cX6_place 4 = .ok (.sipush 509, 3) := dk_17 1 253 (dk_at dksX6_place_0 4 rfl rfl)
theorem dX6_place_7 : decode cX6_place 7 = .ok (.irem, 1) := dk_112 (dk_at dksX6_place_0 7 rfl rfl)
theorem dX6_place_8 : decode cX6_place 8 = .ok (.ireturn, 1) := dk_172 (dk_at dksX6_place_0 8 rfl rfl)
abbrev cX6_small : ByteArray := prog_7_method_5_code
def yX6_small : MethodName := ⟨RX6, "small", "(III)V"⟩
def dkwX6_small_1 : List UInt8 := [18, 19, 126, 6, 112, 79, 177]
abbrev dktX6_small_1 : List UInt8 := dkwX6_small_1 ++ []
def dkwX6_small_0 : List UInt8 := [28, 184, 0, 24, 17, 1, 252, 162, 0, 23, 42, 180, 0, 13, 27, 184, 0, 20, 28, 184, 0, 24, 96, 29]
abbrev dktX6_small_0 : List UInt8 := dkwX6_small_0 ++ dktX6_small_1
theorem dksX6_small_0 : cX6_small.data.toList.drop 0 = dktX6_small_0 := by decide +kernel
theorem dksX6_small_1 : cX6_small.data.toList.drop 24 = dktX6_small_1 := dk_seg dksX6_small_0 24 rfl rfl
theorem dX6_small_0 : decode cX6_small 0 = .ok (.iload_n 2, 1) := dk_28 (dk_at dksX6_small_0 0 rfl rfl)
theorem dX6_small_1 : decode cX6_small 1 = .ok (.invokestatic 24, 3) := dk_184 0 24 (dk_at dksX6_small_0 1 rfl rfl)
theorem dX6_small_4 : decode cX6_small 4 = .ok (.sipush 508, 3) := dk_17 1 252 (dk_at dksX6_small_0 4 rfl rfl)
theorem dX6_small_7 : decode cX6_small 7 = .ok (.if_icmp .ge 23, 3) := dk_162 0 23 (dk_at dksX6_small_0 7 rfl rfl)
theorem dX6_small_10 : decode cX6_small 10 = .ok (.aload_n 0, 1) := dk_42 (dk_at dksX6_small_0 10 rfl rfl)
theorem dX6_small_11 : decode cX6_small 11 = .ok (.getfield 13, 3) := dk_180 0 13 (dk_at dksX6_small_0 11 rfl rfl)
theorem dX6_small_14 : decode cX6_small 14 = .ok (.iload_n 1, 1) := dk_27 (dk_at dksX6_small_0 14 rfl rfl)
theorem dX6_small_15 : decode cX6_small 15 = .ok (.invokestatic 20, 3) := dk_184 0 20 (dk_at dksX6_small_0 15 rfl rfl)
theorem dX6_small_18 : decode cX6_small 18 = .ok (.iload_n 2, 1) := dk_28 (dk_at dksX6_small_0 18 rfl rfl)
theorem dX6_small_19 : decode cX6_small 19 = .ok (.invokestatic 24, 3) := dk_184 0 24 (dk_at dksX6_small_0 19 rfl rfl)
theorem dX6_small_22 : decode cX6_small 22 = .ok (.iadd, 1) := dk_96 (dk_at dksX6_small_0 22 rfl rfl)
theorem dX6_small_23 : decode cX6_small 23 = .ok (.iload_n 3, 1) := dk_29 (dk_at dksX6_small_0 23 rfl rfl)
theorem dX6_small_24 : decode cX6_small 24 = .ok (.ldc 19, 2) := dk_18 19 (dk_at dksX6_small_1 0 rfl rfl)
theorem dX6_small_26 : decode cX6_small 26 = .ok (.iand, 1) := dk_126 (dk_at dksX6_small_1 2 rfl rfl)
theorem dX6_small_27 : decode cX6_small 27 = .ok (.iconst 3, 1) := dk_6 (dk_at dksX6_small_1 3 rfl rfl)
theorem dX6_small_28 : decode cX6_small 28 = .ok (.irem, 1) := dk_112 (dk_at dksX6_small_1 4 rfl rfl)
theorem dX6_small_29 : decode cX6_small 29 = .ok (.iastore, 1) := dk_79 (dk_at dksX6_small_1 5 rfl rfl)
theorem dX6_small_30 : decode cX6_small 30 = .ok (.return_, 1) := dk_177 (dk_at dksX6_small_1 6 rfl rfl)
abbrev cX6_spread : ByteArray := prog_7_method_6_code
def yX6_spread : MethodName := ⟨RX6, "spread", "(III)V"⟩
def dkwX6_spread_3 : List UInt8 := [54, 4, 132, 5, 1, 167, 255, 186, 177]
abbrev dktX6_spread_3 : List UInt8 := dkwX6_spread_3 ++ []
def dkwX6_spread_2 : List UInt8 := [17, 1, 252, 162, 0, 15, 28, 21, 4, 130, 18, 19, 126, 6, 112, 167, 0, 4, 3, 79, 21, 4, 29, 96]
abbrev dktX6_spread_2 : List UInt8 := dkwX6_spread_2 ++ dktX6_spread_3
def dkwX6_spread_1 : List UInt8 := [96, 28, 21, 4, 96, 17, 7, 255, 126, 79, 42, 180, 0, 13, 27, 184, 0, 20, 21, 5, 96, 21, 5]
abbrev dktX6_spread_1 : List UInt8 := dkwX6_spread_1 ++ dktX6_spread_2
def dkwX6_spread_0 : List UInt8 := [3, 54, 4, 3, 54, 5, 21, 5, 17, 1, 253, 162, 0, 68, 42, 180, 0, 9, 27, 184, 0, 20, 21, 5]
abbrev dktX6_spread_0 : List UInt8 := dkwX6_spread_0 ++ dktX6_spread_1
theorem dksX6_spread_0 : cX6_spread.data.toList.drop 0 = dktX6_spread_0 := by decide +kernel
theorem dksX6_spread_1 : cX6_spread.data.toList.drop 24 = dktX6_spread_1 := dk_seg dksX6_spread_0 24 rfl rfl
theorem dksX6_spread_2 : cX6_spread.data.toList.drop 47 = dktX6_spread_2 := dk_seg dksX6_spread_1 23 rfl rfl
theorem dksX6_spread_3 : cX6_spread.data.toList.drop 71 = dktX6_spread_3 := dk_seg dksX6_spread_2 24 rfl rfl
theorem dX6_spread_0 : decode cX6_spread 0 = .ok (.iconst 0, 1) := dk_3 (dk_at dksX6_spread_0 0 rfl rfl)
theorem dX6_spread_1 : decode cX6_spread 1 = .ok (.istore 4, 2) := dk_54 4 (dk_at dksX6_spread_0 1 rfl rfl)
theorem dX6_spread_3 : decode cX6_spread 3 = .ok (.iconst 0, 1) := dk_3 (dk_at dksX6_spread_0 3 rfl rfl)
theorem dX6_spread_4 : decode cX6_spread 4 = .ok (.istore 5, 2) := dk_54 5 (dk_at dksX6_spread_0 4 rfl rfl)
theorem dX6_spread_6 : decode cX6_spread 6 = .ok (.iload 5, 2) := dk_21 5 (dk_at dksX6_spread_0 6 rfl rfl)
theorem dX6_spread_8 : decode cX6_spread 8 = .ok (.sipush 509, 3) := dk_17 1 253 (dk_at dksX6_spread_0 8 rfl rfl)
theorem dX6_spread_11 : decode cX6_spread 11 = .ok (.if_icmp .ge 68, 3) := dk_162 0 68 (dk_at dksX6_spread_0 11 rfl rfl)
theorem dX6_spread_14 : decode cX6_spread 14 = .ok (.aload_n 0, 1) := dk_42 (dk_at dksX6_spread_0 14 rfl rfl)
theorem dX6_spread_15 : decode cX6_spread 15 = .ok (.getfield 9, 3) := dk_180 0 9 (dk_at dksX6_spread_0 15 rfl rfl)
theorem dX6_spread_18 : decode cX6_spread 18 = .ok (.iload_n 1, 1) := dk_27 (dk_at dksX6_spread_0 18 rfl rfl)
theorem dX6_spread_19 : decode cX6_spread 19 = .ok (.invokestatic 20, 3) := dk_184 0 20 (dk_at dksX6_spread_0 19 rfl rfl)
theorem dX6_spread_22 : decode cX6_spread 22 = .ok (.iload 5, 2) := dk_21 5 (dk_at dksX6_spread_0 22 rfl rfl)
theorem dX6_spread_24 : decode cX6_spread 24 = .ok (.iadd, 1) := dk_96 (dk_at dksX6_spread_1 0 rfl rfl)
theorem dX6_spread_25 : decode cX6_spread 25 = .ok (.iload_n 2, 1) := dk_28 (dk_at dksX6_spread_1 1 rfl rfl)
theorem dX6_spread_26 : decode cX6_spread 26 = .ok (.iload 4, 2) := dk_21 4 (dk_at dksX6_spread_1 2 rfl rfl)
theorem dX6_spread_28 : decode cX6_spread 28 = .ok (.iadd, 1) := dk_96 (dk_at dksX6_spread_1 4 rfl rfl)
theorem dX6_spread_29 : decode cX6_spread 29 = .ok (.sipush 2047, 3) := dk_17 7 255 (dk_at dksX6_spread_1 5 rfl rfl)
theorem dX6_spread_32 : decode cX6_spread 32 = .ok (.iand, 1) := dk_126 (dk_at dksX6_spread_1 8 rfl rfl)
theorem dX6_spread_33 : decode cX6_spread 33 = .ok (.iastore, 1) := dk_79 (dk_at dksX6_spread_1 9 rfl rfl)
theorem dX6_spread_34 : decode cX6_spread 34 = .ok (.aload_n 0, 1) := dk_42 (dk_at dksX6_spread_1 10 rfl rfl)
theorem dX6_spread_35 : decode cX6_spread 35 = .ok (.getfield 13, 3) := dk_180 0 13 (dk_at dksX6_spread_1 11 rfl rfl)
theorem dX6_spread_38 : decode cX6_spread 38 = .ok (.iload_n 1, 1) := dk_27 (dk_at dksX6_spread_1 14 rfl rfl)
theorem dX6_spread_39 : decode cX6_spread 39 = .ok (.invokestatic 20, 3) := dk_184 0 20 (dk_at dksX6_spread_1 15 rfl rfl)
theorem dX6_spread_42 : decode cX6_spread 42 = .ok (.iload 5, 2) := dk_21 5 (dk_at dksX6_spread_1 18 rfl rfl)
theorem dX6_spread_44 : decode cX6_spread 44 = .ok (.iadd, 1) := dk_96 (dk_at dksX6_spread_1 20 rfl rfl)
theorem dX6_spread_45 : decode cX6_spread 45 = .ok (.iload 5, 2) := dk_21 5 (dk_at dksX6_spread_1 21 rfl rfl)
theorem dX6_spread_47 : decode cX6_spread 47 = .ok (.sipush 508, 3) := dk_17 1 252 (dk_at dksX6_spread_2 0 rfl rfl)
theorem dX6_spread_50 : decode cX6_spread 50 = .ok (.if_icmp .ge 15, 3) := dk_162 0 15 (dk_at dksX6_spread_2 3 rfl rfl)
theorem dX6_spread_53 : decode cX6_spread 53 = .ok (.iload_n 2, 1) := dk_28 (dk_at dksX6_spread_2 6 rfl rfl)
theorem dX6_spread_54 : decode cX6_spread 54 = .ok (.iload 4, 2) := dk_21 4 (dk_at dksX6_spread_2 7 rfl rfl)
theorem dX6_spread_56 : decode cX6_spread 56 = .ok (.ixor, 1) := dk_130 (dk_at dksX6_spread_2 9 rfl rfl)
theorem dX6_spread_57 : decode cX6_spread 57 = .ok (.ldc 19, 2) := dk_18 19 (dk_at dksX6_spread_2 10 rfl rfl)
theorem dX6_spread_59 : decode cX6_spread 59 = .ok (.iand, 1) := dk_126 (dk_at dksX6_spread_2 12 rfl rfl)
theorem dX6_spread_60 : decode cX6_spread 60 = .ok (.iconst 3, 1) := dk_6 (dk_at dksX6_spread_2 13 rfl rfl)
theorem dX6_spread_61 : decode cX6_spread 61 = .ok (.irem, 1) := dk_112 (dk_at dksX6_spread_2 14 rfl rfl)
theorem dX6_spread_62 : decode cX6_spread 62 = .ok (.goto 4, 3) := dk_167 0 4 (dk_at dksX6_spread_2 15 rfl rfl)
theorem dX6_spread_65 : decode cX6_spread 65 = .ok (.iconst 0, 1) := dk_3 (dk_at dksX6_spread_2 18 rfl rfl)
theorem dX6_spread_66 : decode cX6_spread 66 = .ok (.iastore, 1) := dk_79 (dk_at dksX6_spread_2 19 rfl rfl)
theorem dX6_spread_67 : decode cX6_spread 67 = .ok (.iload 4, 2) := dk_21 4 (dk_at dksX6_spread_2 20 rfl rfl)
theorem dX6_spread_69 : decode cX6_spread 69 = .ok (.iload_n 3, 1) := dk_29 (dk_at dksX6_spread_2 22 rfl rfl)
theorem dX6_spread_70 : decode cX6_spread 70 = .ok (.iadd, 1) := dk_96 (dk_at dksX6_spread_2 23 rfl rfl)
theorem dX6_spread_71 : decode cX6_spread 71 = .ok (.istore 4, 2) := dk_54 4 (dk_at dksX6_spread_3 0 rfl rfl)
theorem dX6_spread_73 : decode cX6_spread 73 = .ok (.iinc 5 1, 3) := dk_132 5 1 (dk_at dksX6_spread_3 2 rfl rfl)
theorem dX6_spread_76 : decode cX6_spread 76 = .ok (.goto (-70), 3) := dk_167 255 186 (dk_at dksX6_spread_3 5 rfl rfl)
theorem dX6_spread_79 : decode cX6_spread 79 = .ok (.return_, 1) := dk_177 (dk_at dksX6_spread_3 8 rfl rfl)
abbrev cX6_times : ByteArray := prog_7_method_8_code
def yX6_times : MethodName := ⟨RX6, "times", "(III)V"⟩
def dkwX6_times_2 : List UInt8 := [112, 79, 132, 4, 1, 167, 255, 222, 177]
abbrev dktX6_times_2 : List UInt8 := dkwX6_times_2 ++ []
def dkwX6_times_1 : List UInt8 := [162, 0, 32, 42, 180, 0, 9, 27, 184, 0, 20, 21, 4, 96, 42, 180, 0, 16, 21, 4, 46, 17, 8, 0]
abbrev dktX6_times_1 : List UInt8 := dkwX6_times_1 ++ dktX6_times_2
def dkwX6_times_0 : List UInt8 := [42, 42, 180, 0, 9, 28, 184, 0, 20, 29, 184, 0, 20, 182, 0, 27, 3, 54, 4, 21, 4, 17, 1, 253]
abbrev dktX6_times_0 : List UInt8 := dkwX6_times_0 ++ dktX6_times_1
theorem dksX6_times_0 : cX6_times.data.toList.drop 0 = dktX6_times_0 := by decide +kernel
theorem dksX6_times_1 : cX6_times.data.toList.drop 24 = dktX6_times_1 := dk_seg dksX6_times_0 24 rfl rfl
theorem dksX6_times_2 : cX6_times.data.toList.drop 48 = dktX6_times_2 := dk_seg dksX6_times_1 24 rfl rfl
theorem dX6_times_0 : decode cX6_times 0 = .ok (.aload_n 0, 1) := dk_42 (dk_at dksX6_times_0 0 rfl rfl)
theorem dX6_times_1 : decode cX6_times 1 = .ok (.aload_n 0, 1) := dk_42 (dk_at dksX6_times_0 1 rfl rfl)
theorem dX6_times_2 : decode cX6_times 2 = .ok (.getfield 9, 3) := dk_180 0 9 (dk_at dksX6_times_0 2 rfl rfl)
theorem dX6_times_5 : decode cX6_times 5 = .ok (.iload_n 2, 1) := dk_28 (dk_at dksX6_times_0 5 rfl rfl)
theorem dX6_times_6 : decode cX6_times 6 = .ok (.invokestatic 20, 3) := dk_184 0 20 (dk_at dksX6_times_0 6 rfl rfl)
theorem dX6_times_9 : decode cX6_times 9 = .ok (.iload_n 3, 1) := dk_29 (dk_at dksX6_times_0 9 rfl rfl)
theorem dX6_times_10 : decode cX6_times 10 = .ok (.invokestatic 20, 3) := dk_184 0 20 (dk_at dksX6_times_0 10 rfl rfl)
theorem dX6_times_13 : decode cX6_times 13 = .ok (.invokevirtual 27, 3) := dk_182 0 27 (dk_at dksX6_times_0 13 rfl rfl)
theorem dX6_times_16 : decode cX6_times 16 = .ok (.iconst 0, 1) := dk_3 (dk_at dksX6_times_0 16 rfl rfl)
theorem dX6_times_17 : decode cX6_times 17 = .ok (.istore 4, 2) := dk_54 4 (dk_at dksX6_times_0 17 rfl rfl)
theorem dX6_times_19 : decode cX6_times 19 = .ok (.iload 4, 2) := dk_21 4 (dk_at dksX6_times_0 19 rfl rfl)
theorem dX6_times_21 : decode cX6_times 21 = .ok (.sipush 509, 3) := dk_17 1 253 (dk_at dksX6_times_0 21 rfl rfl)
theorem dX6_times_24 : decode cX6_times 24 = .ok (.if_icmp .ge 32, 3) := dk_162 0 32 (dk_at dksX6_times_1 0 rfl rfl)
theorem dX6_times_27 : decode cX6_times 27 = .ok (.aload_n 0, 1) := dk_42 (dk_at dksX6_times_1 3 rfl rfl)
theorem dX6_times_28 : decode cX6_times 28 = .ok (.getfield 9, 3) := dk_180 0 9 (dk_at dksX6_times_1 4 rfl rfl)
theorem dX6_times_31 : decode cX6_times 31 = .ok (.iload_n 1, 1) := dk_27 (dk_at dksX6_times_1 7 rfl rfl)
theorem dX6_times_32 : decode cX6_times 32 = .ok (.invokestatic 20, 3) := dk_184 0 20 (dk_at dksX6_times_1 8 rfl rfl)
theorem dX6_times_35 : decode cX6_times 35 = .ok (.iload 4, 2) := dk_21 4 (dk_at dksX6_times_1 11 rfl rfl)
theorem dX6_times_37 : decode cX6_times 37 = .ok (.iadd, 1) := dk_96 (dk_at dksX6_times_1 13 rfl rfl)
theorem dX6_times_38 : decode cX6_times 38 = .ok (.aload_n 0, 1) := dk_42 (dk_at dksX6_times_1 14 rfl rfl)
theorem dX6_times_39 : decode cX6_times 39 = .ok (.getfield 16, 3) := dk_180 0 16 (dk_at dksX6_times_1 15 rfl rfl)
theorem dX6_times_42 : decode cX6_times 42 = .ok (.iload 4, 2) := dk_21 4 (dk_at dksX6_times_1 18 rfl rfl)
theorem dX6_times_44 : decode cX6_times 44 = .ok (.iaload, 1) := dk_46 (dk_at dksX6_times_1 20 rfl rfl)
theorem dX6_times_45 : decode cX6_times 45 = .ok (.sipush 2048, 3) := dk_17 8 0 (dk_at dksX6_times_1 21 rfl rfl)
theorem dX6_times_48 : decode cX6_times 48 = .ok (.irem, 1) := dk_112 (dk_at dksX6_times_2 0 rfl rfl)
theorem dX6_times_49 : decode cX6_times 49 = .ok (.iastore, 1) := dk_79 (dk_at dksX6_times_2 1 rfl rfl)
theorem dX6_times_50 : decode cX6_times 50 = .ok (.iinc 4 1, 3) := dk_132 4 1 (dk_at dksX6_times_2 2 rfl rfl)
theorem dX6_times_53 : decode cX6_times 53 = .ok (.goto (-34), 3) := dk_167 255 222 (dk_at dksX6_times_2 5 rfl rfl)
theorem dX6_times_56 : decode cX6_times 56 = .ok (.return_, 1) := dk_177 (dk_at dksX6_times_2 8 rfl rfl)
abbrev cX6_multiplies : ByteArray := prog_7_method_7_code
def yX6_multiplies : MethodName := ⟨RX6, "multiplies", "([III)V"⟩
def dkwX6_multiplies_6 : List UInt8 := [132, 4, 1, 167, 255, 139, 177]
abbrev dktX6_multiplies_6 : List UInt8 := dkwX6_multiplies_6 ++ []
def dkwX6_multiplies_5 : List UInt8 := [96, 17, 1, 253, 100, 92, 46, 21, 5, 43, 29, 21, 6, 96, 46, 104, 96, 79, 132, 6, 1, 167, 255, 219]
abbrev dktX6_multiplies_5 : List UInt8 := dkwX6_multiplies_5 ++ dktX6_multiplies_6
def dkwX6_multiplies_4 : List UInt8 := [17, 1, 253, 21, 4, 100, 54, 6, 21, 6, 17, 1, 253, 162, 0, 35, 42, 180, 0, 16, 21, 4, 21, 6]
abbrev dktX6_multiplies_4 : List UInt8 := dkwX6_multiplies_4 ++ dktX6_multiplies_5
def dkwX6_multiplies_3 : List UInt8 := [21, 4, 21, 6, 96, 92, 46, 21, 5, 43, 29, 21, 6, 96, 46, 104, 96, 79, 132, 6, 1, 167, 255, 220]
abbrev dktX6_multiplies_3 : List UInt8 := dkwX6_multiplies_3 ++ dktX6_multiplies_4
def dkwX6_multiplies_2 : List UInt8 := [154, 0, 6, 167, 0, 93, 3, 54, 6, 21, 6, 17, 1, 253, 21, 4, 100, 162, 0, 31, 42, 180, 0, 16]
abbrev dktX6_multiplies_2 : List UInt8 := dkwX6_multiplies_2 ++ dktX6_multiplies_3
def dkwX6_multiplies_1 : List UInt8 := [167, 255, 237, 3, 54, 4, 21, 4, 17, 1, 253, 162, 0, 115, 43, 28, 21, 4, 96, 46, 54, 5, 21, 5]
abbrev dktX6_multiplies_1 : List UInt8 := dkwX6_multiplies_1 ++ dktX6_multiplies_2
def dkwX6_multiplies_0 : List UInt8 := [3, 54, 4, 21, 4, 17, 1, 253, 162, 0, 17, 42, 180, 0, 16, 21, 4, 3, 79, 132, 4, 1]
abbrev dktX6_multiplies_0 : List UInt8 := dkwX6_multiplies_0 ++ dktX6_multiplies_1
theorem dksX6_multiplies_0 : cX6_multiplies.data.toList.drop 0 = dktX6_multiplies_0 := by decide +kernel
theorem dksX6_multiplies_1 : cX6_multiplies.data.toList.drop 22 = dktX6_multiplies_1 := dk_seg dksX6_multiplies_0 22 rfl rfl
theorem dksX6_multiplies_2 : cX6_multiplies.data.toList.drop 46 = dktX6_multiplies_2 := dk_seg dksX6_multiplies_1 24 rfl rfl
theorem dksX6_multiplies_3 : cX6_multiplies.data.toList.drop 70 = dktX6_multiplies_3 := dk_seg dksX6_multiplies_2 24 rfl rfl
theorem dksX6_multiplies_4 : cX6_multiplies.data.toList.drop 94 = dktX6_multiplies_4 := dk_seg dksX6_multiplies_3 24 rfl rfl
theorem dksX6_multiplies_5 : cX6_multiplies.data.toList.drop 118 = dktX6_multiplies_5 := dk_seg dksX6_multiplies_4 24 rfl rfl
theorem dksX6_multiplies_6 : cX6_multiplies.data.toList.drop 142 = dktX6_multiplies_6 := dk_seg dksX6_multiplies_5 24 rfl rfl
theorem dX6_multiplies_0 : decode cX6_multiplies 0 = .ok (.iconst 0, 1) := dk_3 (dk_at dksX6_multiplies_0 0 rfl rfl)
theorem dX6_multiplies_1 : decode cX6_multiplies 1 = .ok (.istore 4, 2) := dk_54 4 (dk_at dksX6_multiplies_0 1 rfl rfl)
theorem dX6_multiplies_3 : decode cX6_multiplies 3 = .ok (.iload 4, 2) := dk_21 4 (dk_at dksX6_multiplies_0 3 rfl rfl)
theorem dX6_multiplies_5 : decode cX6_multiplies 5 = .ok (.sipush 509, 3) := dk_17 1 253 (dk_at dksX6_multiplies_0 5 rfl rfl)
theorem dX6_multiplies_8 : decode cX6_multiplies 8 = .ok (.if_icmp .ge 17, 3) := dk_162 0 17 (dk_at dksX6_multiplies_0 8 rfl rfl)
theorem dX6_multiplies_11 : decode cX6_multiplies 11 = .ok (.aload_n 0, 1) := dk_42 (dk_at dksX6_multiplies_0 11 rfl rfl)
theorem dX6_multiplies_12 : decode cX6_multiplies 12 = .ok (.getfield 16, 3) := dk_180 0 16 (dk_at dksX6_multiplies_0 12 rfl rfl)
theorem dX6_multiplies_15 : decode cX6_multiplies 15 = .ok (.iload 4, 2) := dk_21 4 (dk_at dksX6_multiplies_0 15 rfl rfl)
theorem dX6_multiplies_17 : decode cX6_multiplies 17 = .ok (.iconst 0, 1) := dk_3 (dk_at dksX6_multiplies_0 17 rfl rfl)
theorem dX6_multiplies_18 : decode cX6_multiplies 18 = .ok (.iastore, 1) := dk_79 (dk_at dksX6_multiplies_0 18 rfl rfl)
theorem dX6_multiplies_19 : decode cX6_multiplies 19 = .ok (.iinc 4 1, 3) := dk_132 4 1 (dk_at dksX6_multiplies_0 19 rfl rfl)
theorem dX6_multiplies_22 : decode cX6_multiplies 22 = .ok (.goto (-19), 3) := dk_167 255 237 (dk_at dksX6_multiplies_1 0 rfl rfl)
theorem dX6_multiplies_25 : decode cX6_multiplies 25 = .ok (.iconst 0, 1) := dk_3 (dk_at dksX6_multiplies_1 3 rfl rfl)
theorem dX6_multiplies_26 : decode cX6_multiplies 26 = .ok (.istore 4, 2) := dk_54 4 (dk_at dksX6_multiplies_1 4 rfl rfl)
theorem dX6_multiplies_28 : decode cX6_multiplies 28 = .ok (.iload 4, 2) := dk_21 4 (dk_at dksX6_multiplies_1 6 rfl rfl)
theorem dX6_multiplies_30 : decode cX6_multiplies 30 = .ok (.sipush 509, 3) := dk_17 1 253 (dk_at dksX6_multiplies_1 8 rfl rfl)
theorem dX6_multiplies_33 : decode cX6_multiplies 33 = .ok (.if_icmp .ge 115, 3) := dk_162 0 115 (dk_at dksX6_multiplies_1 11 rfl rfl)
theorem dX6_multiplies_36 : decode cX6_multiplies 36 = .ok (.aload_n 1, 1) := dk_43 (dk_at dksX6_multiplies_1 14 rfl rfl)
theorem dX6_multiplies_37 : decode cX6_multiplies 37 = .ok (.iload_n 2, 1) := dk_28 (dk_at dksX6_multiplies_1 15 rfl rfl)
theorem dX6_multiplies_38 : decode cX6_multiplies 38 = .ok (.iload 4, 2) := dk_21 4 (dk_at dksX6_multiplies_1 16 rfl rfl)
theorem dX6_multiplies_40 : decode cX6_multiplies 40 = .ok (.iadd, 1) := dk_96 (dk_at dksX6_multiplies_1 18 rfl rfl)
theorem dX6_multiplies_41 : decode cX6_multiplies 41 = .ok (.iaload, 1) := dk_46 (dk_at dksX6_multiplies_1 19 rfl rfl)
theorem dX6_multiplies_42 : decode cX6_multiplies 42 = .ok (.istore 5, 2) := dk_54 5 (dk_at dksX6_multiplies_1 20 rfl rfl)
theorem dX6_multiplies_44 : decode cX6_multiplies 44 = .ok (.iload 5, 2) := dk_21 5 (dk_at dksX6_multiplies_1 22 rfl rfl)
theorem dX6_multiplies_46 : decode cX6_multiplies 46 = .ok (.ifCond .ne 6, 3) := dk_154 0 6 (dk_at dksX6_multiplies_2 0 rfl rfl)
theorem dX6_multiplies_49 : decode cX6_multiplies 49 = .ok (.goto 93, 3) := dk_167 0 93 (dk_at dksX6_multiplies_2 3 rfl rfl)
theorem dX6_multiplies_52 : decode cX6_multiplies 52 = .ok (.iconst 0, 1) := dk_3 (dk_at dksX6_multiplies_2 6 rfl rfl)
theorem dX6_multiplies_53 : decode cX6_multiplies 53 = .ok (.istore 6, 2) := dk_54 6 (dk_at dksX6_multiplies_2 7 rfl rfl)
theorem dX6_multiplies_55 : decode cX6_multiplies 55 = .ok (.iload 6, 2) := dk_21 6 (dk_at dksX6_multiplies_2 9 rfl rfl)
theorem dX6_multiplies_57 : decode cX6_multiplies 57 = .ok (.sipush 509, 3) := dk_17 1 253 (dk_at dksX6_multiplies_2 11 rfl rfl)
theorem dX6_multiplies_60 : decode cX6_multiplies 60 = .ok (.iload 4, 2) := dk_21 4 (dk_at dksX6_multiplies_2 14 rfl rfl)
theorem dX6_multiplies_62 : decode cX6_multiplies 62 = .ok (.isub, 1) := dk_100 (dk_at dksX6_multiplies_2 16 rfl rfl)
theorem dX6_multiplies_63 : decode cX6_multiplies 63 = .ok (.if_icmp .ge 31, 3) := dk_162 0 31 (dk_at dksX6_multiplies_2 17 rfl rfl)
theorem dX6_multiplies_66 : decode cX6_multiplies 66 = .ok (.aload_n 0, 1) := dk_42 (dk_at dksX6_multiplies_2 20 rfl rfl)
theorem dX6_multiplies_67 : decode cX6_multiplies 67 = .ok (.getfield 16, 3) := dk_180 0 16 (dk_at dksX6_multiplies_2 21 rfl rfl)
theorem dX6_multiplies_70 : decode cX6_multiplies 70 = .ok (.iload 4, 2) := dk_21 4 (dk_at dksX6_multiplies_3 0 rfl rfl)
theorem dX6_multiplies_72 : decode cX6_multiplies 72 = .ok (.iload 6, 2) := dk_21 6 (dk_at dksX6_multiplies_3 2 rfl rfl)
theorem dX6_multiplies_74 : decode cX6_multiplies 74 = .ok (.iadd, 1) := dk_96 (dk_at dksX6_multiplies_3 4 rfl rfl)
theorem dX6_multiplies_75 : decode cX6_multiplies 75 = .ok (.dup2, 1) := dk_92 (dk_at dksX6_multiplies_3 5 rfl rfl)
theorem dX6_multiplies_76 : decode cX6_multiplies 76 = .ok (.iaload, 1) := dk_46 (dk_at dksX6_multiplies_3 6 rfl rfl)
theorem dX6_multiplies_77 : decode cX6_multiplies 77 = .ok (.iload 5, 2) := dk_21 5 (dk_at dksX6_multiplies_3 7 rfl rfl)
theorem dX6_multiplies_79 : decode cX6_multiplies 79 = .ok (.aload_n 1, 1) := dk_43 (dk_at dksX6_multiplies_3 9 rfl rfl)
theorem dX6_multiplies_80 : decode cX6_multiplies 80 = .ok (.iload_n 3, 1) := dk_29 (dk_at dksX6_multiplies_3 10 rfl rfl)
theorem dX6_multiplies_81 : decode cX6_multiplies 81 = .ok (.iload 6, 2) := dk_21 6 (dk_at dksX6_multiplies_3 11 rfl rfl)
theorem dX6_multiplies_83 : decode cX6_multiplies 83 = .ok (.iadd, 1) := dk_96 (dk_at dksX6_multiplies_3 13 rfl rfl)
theorem dX6_multiplies_84 : decode cX6_multiplies 84 = .ok (.iaload, 1) := dk_46 (dk_at dksX6_multiplies_3 14 rfl rfl)
theorem dX6_multiplies_85 : decode cX6_multiplies 85 = .ok (.imul, 1) := dk_104 (dk_at dksX6_multiplies_3 15 rfl rfl)
theorem dX6_multiplies_86 : decode cX6_multiplies 86 = .ok (.iadd, 1) := dk_96 (dk_at dksX6_multiplies_3 16 rfl rfl)
theorem dX6_multiplies_87 : decode cX6_multiplies 87 = .ok (.iastore, 1) := dk_79 (dk_at dksX6_multiplies_3 17 rfl rfl)
theorem dX6_multiplies_88 : decode cX6_multiplies 88 = .ok (.iinc 6 1, 3) := dk_132 6 1 (dk_at dksX6_multiplies_3 18 rfl rfl)
theorem dX6_multiplies_91 : decode cX6_multiplies 91 = .ok (.goto (-36), 3) := dk_167 255 220 (dk_at dksX6_multiplies_3 21 rfl rfl)
theorem dX6_multiplies_94 : decode cX6_multiplies 94 = .ok (.sipush 509, 3) := dk_17 1 253 (dk_at dksX6_multiplies_4 0 rfl rfl)
theorem dX6_multiplies_97 : decode cX6_multiplies 97 = .ok (.iload 4, 2) := dk_21 4 (dk_at dksX6_multiplies_4 3 rfl rfl)
theorem dX6_multiplies_99 : decode cX6_multiplies 99 = .ok (.isub, 1) := dk_100 (dk_at dksX6_multiplies_4 5 rfl rfl)
theorem dX6_multiplies_100 : decode cX6_multiplies 100 = .ok (.istore 6, 2) := dk_54 6 (dk_at dksX6_multiplies_4 6 rfl rfl)
theorem dX6_multiplies_102 : decode cX6_multiplies 102 = .ok (.iload 6, 2) := dk_21 6 (dk_at dksX6_multiplies_4 8 rfl rfl)
theorem dX6_multiplies_104 : decode cX6_multiplies 104 = .ok (.sipush 509, 3) := dk_17 1 253 (dk_at dksX6_multiplies_4 10 rfl rfl)
theorem dX6_multiplies_107 : decode cX6_multiplies 107 = .ok (.if_icmp .ge 35, 3) := dk_162 0 35 (dk_at dksX6_multiplies_4 13 rfl rfl)
theorem dX6_multiplies_110 : decode cX6_multiplies 110 = .ok (.aload_n 0, 1) := dk_42 (dk_at dksX6_multiplies_4 16 rfl rfl)
theorem dX6_multiplies_111 : decode cX6_multiplies 111 = .ok (.getfield 16, 3) := dk_180 0 16 (dk_at dksX6_multiplies_4 17 rfl rfl)
theorem dX6_multiplies_114 : decode cX6_multiplies 114 = .ok (.iload 4, 2) := dk_21 4 (dk_at dksX6_multiplies_4 20 rfl rfl)
theorem dX6_multiplies_116 : decode cX6_multiplies 116 = .ok (.iload 6, 2) := dk_21 6 (dk_at dksX6_multiplies_4 22 rfl rfl)
theorem dX6_multiplies_118 : decode cX6_multiplies 118 = .ok (.iadd, 1) := dk_96 (dk_at dksX6_multiplies_5 0 rfl rfl)
theorem dX6_multiplies_119 : decode cX6_multiplies 119 = .ok (.sipush 509, 3) := dk_17 1 253 (dk_at dksX6_multiplies_5 1 rfl rfl)
theorem dX6_multiplies_122 : decode cX6_multiplies 122 = .ok (.isub, 1) := dk_100 (dk_at dksX6_multiplies_5 4 rfl rfl)
theorem dX6_multiplies_123 : decode cX6_multiplies 123 = .ok (.dup2, 1) := dk_92 (dk_at dksX6_multiplies_5 5 rfl rfl)
theorem dX6_multiplies_124 : decode cX6_multiplies 124 = .ok (.iaload, 1) := dk_46 (dk_at dksX6_multiplies_5 6 rfl rfl)
theorem dX6_multiplies_125 : decode cX6_multiplies 125 = .ok (.iload 5, 2) := dk_21 5 (dk_at dksX6_multiplies_5 7 rfl rfl)
theorem dX6_multiplies_127 : decode cX6_multiplies 127 = .ok (.aload_n 1, 1) := dk_43 (dk_at dksX6_multiplies_5 9 rfl rfl)
theorem dX6_multiplies_128 : decode cX6_multiplies 128 = .ok (.iload_n 3, 1) := dk_29 (dk_at dksX6_multiplies_5 10 rfl rfl)
theorem dX6_multiplies_129 : decode cX6_multiplies 129 = .ok (.iload 6, 2) := dk_21 6 (dk_at dksX6_multiplies_5 11 rfl rfl)
theorem dX6_multiplies_131 : decode cX6_multiplies 131 = .ok (.iadd, 1) := dk_96 (dk_at dksX6_multiplies_5 13 rfl rfl)
theorem dX6_multiplies_132 : decode cX6_multiplies 132 = .ok (.iaload, 1) := dk_46 (dk_at dksX6_multiplies_5 14 rfl rfl)
theorem dX6_multiplies_133 : decode cX6_multiplies 133 = .ok (.imul, 1) := dk_104 (dk_at dksX6_multiplies_5 15 rfl rfl)
theorem dX6_multiplies_134 : decode cX6_multiplies 134 = .ok (.iadd, 1) := dk_96 (dk_at dksX6_multiplies_5 16 rfl rfl)
theorem dX6_multiplies_135 : decode cX6_multiplies 135 = .ok (.iastore, 1) := dk_79 (dk_at dksX6_multiplies_5 17 rfl rfl)
theorem dX6_multiplies_136 : decode cX6_multiplies 136 = .ok (.iinc 6 1, 3) := dk_132 6 1 (dk_at dksX6_multiplies_5 18 rfl rfl)
theorem dX6_multiplies_139 : decode cX6_multiplies 139 = .ok (.goto (-37), 3) := dk_167 255 219 (dk_at dksX6_multiplies_5 21 rfl rfl)
theorem dX6_multiplies_142 : decode cX6_multiplies 142 = .ok (.iinc 4 1, 3) := dk_132 4 1 (dk_at dksX6_multiplies_6 0 rfl rfl)
theorem dX6_multiplies_145 : decode cX6_multiplies 145 = .ok (.goto (-117), 3) := dk_167 255 139 (dk_at dksX6_multiplies_6 3 rfl rfl)
theorem dX6_multiplies_148 : decode cX6_multiplies 148 = .ok (.return_, 1) := dk_177 (dk_at dksX6_multiplies_6 6 rfl rfl)
abbrev cX6_timesPhi : ByteArray := prog_7_method_9_code
def yX6_timesPhi : MethodName := ⟨RX6, "timesPhi", "(III)V"⟩
def dkwX6_timesPhi_3 : List UInt8 := [17, 8, 0, 112, 79, 132, 5, 1, 167, 255, 211, 177]
abbrev dktX6_timesPhi_3 : List UInt8 := dkwX6_timesPhi_3 ++ []
def dkwX6_timesPhi_2 : List UInt8 := [184, 0, 20, 21, 5, 96, 42, 180, 0, 16, 21, 5, 46, 17, 8, 0, 112, 17, 8, 0, 96, 21, 4, 100]
abbrev dktX6_timesPhi_2 : List UInt8 := dkwX6_timesPhi_2 ++ dktX6_timesPhi_3
def dkwX6_timesPhi_1 : List UInt8 := [17, 8, 0, 112, 54, 4, 3, 54, 5, 21, 5, 17, 1, 253, 162, 0, 43, 42, 180, 0, 9, 27]
abbrev dktX6_timesPhi_1 : List UInt8 := dkwX6_timesPhi_1 ++ dktX6_timesPhi_2
def dkwX6_timesPhi_0 : List UInt8 := [42, 42, 180, 0, 9, 28, 184, 0, 20, 29, 184, 0, 20, 182, 0, 27, 42, 180, 0, 16, 17, 1, 252, 46]
abbrev dktX6_timesPhi_0 : List UInt8 := dkwX6_timesPhi_0 ++ dktX6_timesPhi_1
theorem dksX6_timesPhi_0 : cX6_timesPhi.data.toList.drop 0 = dktX6_timesPhi_0 := by decide +kernel
theorem dksX6_timesPhi_1 : cX6_timesPhi.data.toList.drop 24 = dktX6_timesPhi_1 := dk_seg dksX6_timesPhi_0 24 rfl rfl
theorem dksX6_timesPhi_2 : cX6_timesPhi.data.toList.drop 46 = dktX6_timesPhi_2 := dk_seg dksX6_timesPhi_1 22 rfl rfl
theorem dksX6_timesPhi_3 : cX6_timesPhi.data.toList.drop 70 = dktX6_timesPhi_3 := dk_seg dksX6_timesPhi_2 24 rfl rfl
theorem dX6_timesPhi_0 : decode cX6_timesPhi 0 = .ok (.aload_n 0, 1) := dk_42 (dk_at dksX6_timesPhi_0 0 rfl rfl)
theorem dX6_timesPhi_1 : decode cX6_timesPhi 1 = .ok (.aload_n 0, 1) := dk_42 (dk_at dksX6_timesPhi_0 1 rfl rfl)
theorem dX6_timesPhi_2 : decode cX6_timesPhi 2 = .ok (.getfield 9, 3) := dk_180 0 9 (dk_at dksX6_timesPhi_0 2 rfl rfl)
theorem dX6_timesPhi_5 : decode cX6_timesPhi 5 = .ok (.iload_n 2, 1) := dk_28 (dk_at dksX6_timesPhi_0 5 rfl rfl)
theorem dX6_timesPhi_6 : decode cX6_timesPhi 6 = .ok (.invokestatic 20, 3) := dk_184 0 20 (dk_at dksX6_timesPhi_0 6 rfl rfl)
theorem dX6_timesPhi_9 : decode cX6_timesPhi 9 = .ok (.iload_n 3, 1) := dk_29 (dk_at dksX6_timesPhi_0 9 rfl rfl)
theorem dX6_timesPhi_10 : decode cX6_timesPhi 10 = .ok (.invokestatic 20, 3) := dk_184 0 20 (dk_at dksX6_timesPhi_0 10 rfl rfl)
theorem dX6_timesPhi_13 : decode cX6_timesPhi 13 = .ok (.invokevirtual 27, 3) := dk_182 0 27 (dk_at dksX6_timesPhi_0 13 rfl rfl)
theorem dX6_timesPhi_16 : decode cX6_timesPhi 16 = .ok (.aload_n 0, 1) := dk_42 (dk_at dksX6_timesPhi_0 16 rfl rfl)
theorem dX6_timesPhi_17 : decode cX6_timesPhi 17 = .ok (.getfield 16, 3) := dk_180 0 16 (dk_at dksX6_timesPhi_0 17 rfl rfl)
theorem dX6_timesPhi_20 : decode cX6_timesPhi 20 = .ok (.sipush 508, 3) := dk_17 1 252 (dk_at dksX6_timesPhi_0 20 rfl rfl)
theorem dX6_timesPhi_23 : decode cX6_timesPhi 23 = .ok (.iaload, 1) := dk_46 (dk_at dksX6_timesPhi_0 23 rfl rfl)
theorem dX6_timesPhi_24 : decode cX6_timesPhi 24 = .ok (.sipush 2048, 3) := dk_17 8 0 (dk_at dksX6_timesPhi_1 0 rfl rfl)
theorem dX6_timesPhi_27 : decode cX6_timesPhi 27 = .ok (.irem, 1) := dk_112 (dk_at dksX6_timesPhi_1 3 rfl rfl)
theorem dX6_timesPhi_28 : decode cX6_timesPhi 28 = .ok (.istore 4, 2) := dk_54 4 (dk_at dksX6_timesPhi_1 4 rfl rfl)
theorem dX6_timesPhi_30 : decode cX6_timesPhi 30 = .ok (.iconst 0, 1) := dk_3 (dk_at dksX6_timesPhi_1 6 rfl rfl)
theorem dX6_timesPhi_31 : decode cX6_timesPhi 31 = .ok (.istore 5, 2) := dk_54 5 (dk_at dksX6_timesPhi_1 7 rfl rfl)
theorem dX6_timesPhi_33 : decode cX6_timesPhi 33 = .ok (.iload 5, 2) := dk_21 5 (dk_at dksX6_timesPhi_1 9 rfl rfl)
theorem dX6_timesPhi_35 : decode cX6_timesPhi 35 = .ok (.sipush 509, 3) := dk_17 1 253 (dk_at dksX6_timesPhi_1 11 rfl rfl)
theorem dX6_timesPhi_38 : decode cX6_timesPhi 38 = .ok (.if_icmp .ge 43, 3) := dk_162 0 43 (dk_at dksX6_timesPhi_1 14 rfl rfl)
theorem dX6_timesPhi_41 : decode cX6_timesPhi 41 = .ok (.aload_n 0, 1) := dk_42 (dk_at dksX6_timesPhi_1 17 rfl rfl)
theorem dX6_timesPhi_42 : decode cX6_timesPhi 42 = .ok (.getfield 9, 3) := dk_180 0 9 (dk_at dksX6_timesPhi_1 18 rfl rfl)
theorem dX6_timesPhi_45 : decode cX6_timesPhi 45 = .ok (.iload_n 1, 1) := dk_27 (dk_at dksX6_timesPhi_1 21 rfl rfl)
theorem dX6_timesPhi_46 : decode cX6_timesPhi 46 = .ok (.invokestatic 20, 3) := dk_184 0 20 (dk_at dksX6_timesPhi_2 0 rfl rfl)
theorem dX6_timesPhi_49 : decode cX6_timesPhi 49 = .ok (.iload 5, 2) := dk_21 5 (dk_at dksX6_timesPhi_2 3 rfl rfl)
theorem dX6_timesPhi_51 : decode cX6_timesPhi 51 = .ok (.iadd, 1) := dk_96 (dk_at dksX6_timesPhi_2 5 rfl rfl)
theorem dX6_timesPhi_52 : decode cX6_timesPhi 52 = .ok (.aload_n 0, 1) := dk_42 (dk_at dksX6_timesPhi_2 6 rfl rfl)
theorem dX6_timesPhi_53 : decode cX6_timesPhi 53 = .ok (.getfield 16, 3) := dk_180 0 16 (dk_at dksX6_timesPhi_2 7 rfl rfl)
theorem dX6_timesPhi_56 : decode cX6_timesPhi 56 = .ok (.iload 5, 2) := dk_21 5 (dk_at dksX6_timesPhi_2 10 rfl rfl)
theorem dX6_timesPhi_58 : decode cX6_timesPhi 58 = .ok (.iaload, 1) := dk_46 (dk_at dksX6_timesPhi_2 12 rfl rfl)
theorem dX6_timesPhi_59 : decode cX6_timesPhi 59 = .ok (.sipush 2048, 3) := dk_17 8 0 (dk_at dksX6_timesPhi_2 13 rfl rfl)
theorem dX6_timesPhi_62 : decode cX6_timesPhi 62 = .ok (.irem, 1) := dk_112 (dk_at dksX6_timesPhi_2 16 rfl rfl)
theorem dX6_timesPhi_63 : decode cX6_timesPhi 63 = .ok (.sipush 2048, 3) := dk_17 8 0 (dk_at dksX6_timesPhi_2 17 rfl rfl)
theorem dX6_timesPhi_66 : decode cX6_timesPhi 66 = .ok (.iadd, 1) := dk_96 (dk_at dksX6_timesPhi_2 20 rfl rfl)
theorem dX6_timesPhi_67 : decode cX6_timesPhi 67 = .ok (.iload 4, 2) := dk_21 4 (dk_at dksX6_timesPhi_2 21 rfl rfl)
theorem dX6_timesPhi_69 : decode cX6_timesPhi 69 = .ok (.isub, 1) := dk_100 (dk_at dksX6_timesPhi_2 23 rfl rfl)
theorem dX6_timesPhi_70 : decode cX6_timesPhi 70 = .ok (.sipush 2048, 3) := dk_17 8 0 (dk_at dksX6_timesPhi_3 0 rfl rfl)
theorem dX6_timesPhi_73 : decode cX6_timesPhi 73 = .ok (.irem, 1) := dk_112 (dk_at dksX6_timesPhi_3 3 rfl rfl)
theorem dX6_timesPhi_74 : decode cX6_timesPhi 74 = .ok (.iastore, 1) := dk_79 (dk_at dksX6_timesPhi_3 4 rfl rfl)
theorem dX6_timesPhi_75 : decode cX6_timesPhi 75 = .ok (.iinc 5 1, 3) := dk_132 5 1 (dk_at dksX6_timesPhi_3 5 rfl rfl)
theorem dX6_timesPhi_78 : decode cX6_timesPhi 78 = .ok (.goto (-45), 3) := dk_167 255 211 (dk_at dksX6_timesPhi_3 8 rfl rfl)
theorem dX6_timesPhi_81 : decode cX6_timesPhi 81 = .ok (.return_, 1) := dk_177 (dk_at dksX6_timesPhi_3 11 rfl rfl)
abbrev cX6_timesThree : ByteArray := prog_7_method_10_code
def yX6_timesThree : MethodName := ⟨RX6, "timesThree", "(III)V"⟩
def dkwX6_timesThree_3 : List UInt8 := [167, 255, 217, 177]
abbrev dktX6_timesThree_3 : List UInt8 := dkwX6_timesThree_3 ++ []
def dkwX6_timesThree_2 : List UInt8 := [21, 5, 96, 42, 180, 0, 16, 21, 5, 46, 6, 112, 6, 96, 21, 4, 100, 6, 112, 79, 132, 5, 1]
abbrev dktX6_timesThree_2 : List UInt8 := dkwX6_timesThree_2 ++ dktX6_timesThree_3
def dkwX6_timesThree_1 : List UInt8 := [6, 112, 54, 4, 3, 54, 5, 21, 5, 17, 1, 253, 162, 0, 37, 42, 180, 0, 13, 27, 184, 0, 20]
abbrev dktX6_timesThree_1 : List UInt8 := dkwX6_timesThree_1 ++ dktX6_timesThree_2
def dkwX6_timesThree_0 : List UInt8 := [42, 42, 180, 0, 13, 28, 184, 0, 20, 29, 184, 0, 20, 182, 0, 27, 42, 180, 0, 16, 17, 1, 252, 46]
abbrev dktX6_timesThree_0 : List UInt8 := dkwX6_timesThree_0 ++ dktX6_timesThree_1
theorem dksX6_timesThree_0 : cX6_timesThree.data.toList.drop 0 = dktX6_timesThree_0 := by decide +kernel
theorem dksX6_timesThree_1 : cX6_timesThree.data.toList.drop 24 = dktX6_timesThree_1 := dk_seg dksX6_timesThree_0 24 rfl rfl
theorem dksX6_timesThree_2 : cX6_timesThree.data.toList.drop 47 = dktX6_timesThree_2 := dk_seg dksX6_timesThree_1 23 rfl rfl
theorem dksX6_timesThree_3 : cX6_timesThree.data.toList.drop 70 = dktX6_timesThree_3 := dk_seg dksX6_timesThree_2 23 rfl rfl
theorem dX6_timesThree_0 : decode cX6_timesThree 0 = .ok (.aload_n 0, 1) := dk_42 (dk_at dksX6_timesThree_0 0 rfl rfl)
theorem dX6_timesThree_1 : decode cX6_timesThree 1 = .ok (.aload_n 0, 1) := dk_42 (dk_at dksX6_timesThree_0 1 rfl rfl)
theorem dX6_timesThree_2 : decode cX6_timesThree 2 = .ok (.getfield 13, 3) := dk_180 0 13 (dk_at dksX6_timesThree_0 2 rfl rfl)
theorem dX6_timesThree_5 : decode cX6_timesThree 5 = .ok (.iload_n 2, 1) := dk_28 (dk_at dksX6_timesThree_0 5 rfl rfl)
theorem dX6_timesThree_6 : decode cX6_timesThree 6 = .ok (.invokestatic 20, 3) := dk_184 0 20 (dk_at dksX6_timesThree_0 6 rfl rfl)
theorem dX6_timesThree_9 : decode cX6_timesThree 9 = .ok (.iload_n 3, 1) := dk_29 (dk_at dksX6_timesThree_0 9 rfl rfl)
theorem dX6_timesThree_10 : decode cX6_timesThree 10 = .ok (.invokestatic 20, 3) := dk_184 0 20 (dk_at dksX6_timesThree_0 10 rfl rfl)
theorem dX6_timesThree_13 : decode cX6_timesThree 13 = .ok (.invokevirtual 27, 3) := dk_182 0 27 (dk_at dksX6_timesThree_0 13 rfl rfl)
theorem dX6_timesThree_16 : decode cX6_timesThree 16 = .ok (.aload_n 0, 1) := dk_42 (dk_at dksX6_timesThree_0 16 rfl rfl)
theorem dX6_timesThree_17 : decode cX6_timesThree 17 = .ok (.getfield 16, 3) := dk_180 0 16 (dk_at dksX6_timesThree_0 17 rfl rfl)
theorem dX6_timesThree_20 : decode cX6_timesThree 20 = .ok (.sipush 508, 3) := dk_17 1 252 (dk_at dksX6_timesThree_0 20 rfl rfl)
theorem dX6_timesThree_23 : decode cX6_timesThree 23 = .ok (.iaload, 1) := dk_46 (dk_at dksX6_timesThree_0 23 rfl rfl)
theorem dX6_timesThree_24 : decode cX6_timesThree 24 = .ok (.iconst 3, 1) := dk_6 (dk_at dksX6_timesThree_1 0 rfl rfl)
theorem dX6_timesThree_25 : decode cX6_timesThree 25 = .ok (.irem, 1) := dk_112 (dk_at dksX6_timesThree_1 1 rfl rfl)
theorem dX6_timesThree_26 : decode cX6_timesThree 26 = .ok (.istore 4, 2) := dk_54 4 (dk_at dksX6_timesThree_1 2 rfl rfl)
theorem dX6_timesThree_28 : decode cX6_timesThree 28 = .ok (.iconst 0, 1) := dk_3 (dk_at dksX6_timesThree_1 4 rfl rfl)
theorem dX6_timesThree_29 : decode cX6_timesThree 29 = .ok (.istore 5, 2) := dk_54 5 (dk_at dksX6_timesThree_1 5 rfl rfl)
theorem dX6_timesThree_31 : decode cX6_timesThree 31 = .ok (.iload 5, 2) := dk_21 5 (dk_at dksX6_timesThree_1 7 rfl rfl)
theorem dX6_timesThree_33 : decode cX6_timesThree 33 = .ok (.sipush 509, 3) := dk_17 1 253 (dk_at dksX6_timesThree_1 9 rfl rfl)
theorem dX6_timesThree_36 : decode cX6_timesThree 36 = .ok (.if_icmp .ge 37, 3) := dk_162 0 37 (dk_at dksX6_timesThree_1 12 rfl rfl)
theorem dX6_timesThree_39 : decode cX6_timesThree 39 = .ok (.aload_n 0, 1) := dk_42 (dk_at dksX6_timesThree_1 15 rfl rfl)
theorem dX6_timesThree_40 : decode cX6_timesThree 40 = .ok (.getfield 13, 3) := dk_180 0 13 (dk_at dksX6_timesThree_1 16 rfl rfl)
theorem dX6_timesThree_43 : decode cX6_timesThree 43 = .ok (.iload_n 1, 1) := dk_27 (dk_at dksX6_timesThree_1 19 rfl rfl)
theorem dX6_timesThree_44 : decode cX6_timesThree 44 = .ok (.invokestatic 20, 3) := dk_184 0 20 (dk_at dksX6_timesThree_1 20 rfl rfl)
theorem dX6_timesThree_47 : decode cX6_timesThree 47 = .ok (.iload 5, 2) := dk_21 5 (dk_at dksX6_timesThree_2 0 rfl rfl)
theorem dX6_timesThree_49 : decode cX6_timesThree 49 = .ok (.iadd, 1) := dk_96 (dk_at dksX6_timesThree_2 2 rfl rfl)
theorem dX6_timesThree_50 : decode cX6_timesThree 50 = .ok (.aload_n 0, 1) := dk_42 (dk_at dksX6_timesThree_2 3 rfl rfl)
theorem dX6_timesThree_51 : decode cX6_timesThree 51 = .ok (.getfield 16, 3) := dk_180 0 16 (dk_at dksX6_timesThree_2 4 rfl rfl)
theorem dX6_timesThree_54 : decode cX6_timesThree 54 = .ok (.iload 5, 2) := dk_21 5 (dk_at dksX6_timesThree_2 7 rfl rfl)
theorem dX6_timesThree_56 : decode cX6_timesThree 56 = .ok (.iaload, 1) := dk_46 (dk_at dksX6_timesThree_2 9 rfl rfl)
theorem dX6_timesThree_57 : decode cX6_timesThree 57 = .ok (.iconst 3, 1) := dk_6 (dk_at dksX6_timesThree_2 10 rfl rfl)
theorem dX6_timesThree_58 : decode cX6_timesThree 58 = .ok (.irem, 1) := dk_112 (dk_at dksX6_timesThree_2 11 rfl rfl)
theorem dX6_timesThree_59 : decode cX6_timesThree 59 = .ok (.iconst 3, 1) := dk_6 (dk_at dksX6_timesThree_2 12 rfl rfl)
theorem dX6_timesThree_60 : decode cX6_timesThree 60 = .ok (.iadd, 1) := dk_96 (dk_at dksX6_timesThree_2 13 rfl rfl)
theorem dX6_timesThree_61 : decode cX6_timesThree 61 = .ok (.iload 4, 2) := dk_21 4 (dk_at dksX6_timesThree_2 14 rfl rfl)
theorem dX6_timesThree_63 : decode cX6_timesThree 63 = .ok (.isub, 1) := dk_100 (dk_at dksX6_timesThree_2 16 rfl rfl)
theorem dX6_timesThree_64 : decode cX6_timesThree 64 = .ok (.iconst 3, 1) := dk_6 (dk_at dksX6_timesThree_2 17 rfl rfl)
theorem dX6_timesThree_65 : decode cX6_timesThree 65 = .ok (.irem, 1) := dk_112 (dk_at dksX6_timesThree_2 18 rfl rfl)
theorem dX6_timesThree_66 : decode cX6_timesThree 66 = .ok (.iastore, 1) := dk_79 (dk_at dksX6_timesThree_2 19 rfl rfl)
theorem dX6_timesThree_67 : decode cX6_timesThree 67 = .ok (.iinc 5 1, 3) := dk_132 5 1 (dk_at dksX6_timesThree_2 20 rfl rfl)
theorem dX6_timesThree_70 : decode cX6_timesThree 70 = .ok (.goto (-39), 3) := dk_167 255 217 (dk_at dksX6_timesThree_3 0 rfl rfl)
theorem dX6_timesThree_73 : decode cX6_timesThree 73 = .ok (.return_, 1) := dk_177 (dk_at dksX6_timesThree_3 3 rfl rfl)
abbrev cX6_wide_2 : ByteArray := prog_7_method_11_code
def yX6_wide_2 : MethodName := ⟨RX6, "wide", "(II)I"⟩
def dkwX6_wide_2_0 : List UInt8 := [42, 180, 0, 9, 27, 184, 0, 20, 28, 184, 0, 24, 96, 46, 172]
abbrev dktX6_wide_2_0 : List UInt8 := dkwX6_wide_2_0 ++ []
theorem dksX6_wide_2_0 : cX6_wide_2.data.toList.drop 0 = dktX6_wide_2_0 := by decide +kernel
theorem dX6_wide_2_0 : decode cX6_wide_2 0 = .ok (.aload_n 0, 1) := dk_42 (dk_at dksX6_wide_2_0 0 rfl rfl)
theorem dX6_wide_2_1 : decode cX6_wide_2 1 = .ok (.getfield 9, 3) := dk_180 0 9 (dk_at dksX6_wide_2_0 1 rfl rfl)
theorem dX6_wide_2_4 : decode cX6_wide_2 4 = .ok (.iload_n 1, 1) := dk_27 (dk_at dksX6_wide_2_0 4 rfl rfl)
theorem dX6_wide_2_5 : decode cX6_wide_2 5 = .ok (.invokestatic 20, 3) := dk_184 0 20 (dk_at dksX6_wide_2_0 5 rfl rfl)
theorem dX6_wide_2_8 : decode cX6_wide_2 8 = .ok (.iload_n 2, 1) := dk_28 (dk_at dksX6_wide_2_0 8 rfl rfl)
theorem dX6_wide_2_9 : decode cX6_wide_2 9 = .ok (.invokestatic 24, 3) := dk_184 0 24 (dk_at dksX6_wide_2_0 9 rfl rfl)
theorem dX6_wide_2_12 : decode cX6_wide_2 12 = .ok (.iadd, 1) := dk_96 (dk_at dksX6_wide_2_0 12 rfl rfl)
theorem dX6_wide_2_13 : decode cX6_wide_2 13 = .ok (.iaload, 1) := dk_46 (dk_at dksX6_wide_2_0 13 rfl rfl)
theorem dX6_wide_2_14 : decode cX6_wide_2 14 = .ok (.ireturn, 1) := dk_172 (dk_at dksX6_wide_2_0 14 rfl rfl)
abbrev cX6_small_2 : ByteArray := prog_7_method_12_code
def yX6_small_2 : MethodName := ⟨RX6, "small", "(II)I"⟩
def dkwX6_small_2_0 : List UInt8 := [42, 180, 0, 13, 27, 184, 0, 20, 28, 184, 0, 24, 96, 46, 172]
abbrev dktX6_small_2_0 : List UInt8 := dkwX6_small_2_0 ++ []
theorem dksX6_small_2_0 : cX6_small_2.data.toList.drop 0 = dktX6_small_2_0 := by decide +kernel
theorem dX6_small_2_0 : decode cX6_small_2 0 = .ok (.aload_n 0, 1) := dk_42 (dk_at dksX6_small_2_0 0 rfl rfl)
theorem dX6_small_2_1 : decode cX6_small_2 1 = .ok (.getfield 13, 3) := dk_180 0 13 (dk_at dksX6_small_2_0 1 rfl rfl)
theorem dX6_small_2_4 : decode cX6_small_2 4 = .ok (.iload_n 1, 1) := dk_27 (dk_at dksX6_small_2_0 4 rfl rfl)
theorem dX6_small_2_5 : decode cX6_small_2 5 = .ok (.invokestatic 20, 3) := dk_184 0 20 (dk_at dksX6_small_2_0 5 rfl rfl)
theorem dX6_small_2_8 : decode cX6_small_2 8 = .ok (.iload_n 2, 1) := dk_28 (dk_at dksX6_small_2_0 8 rfl rfl)
theorem dX6_small_2_9 : decode cX6_small_2 9 = .ok (.invokestatic 24, 3) := dk_184 0 24 (dk_at dksX6_small_2_0 9 rfl rfl)
theorem dX6_small_2_12 : decode cX6_small_2 12 = .ok (.iadd, 1) := dk_96 (dk_at dksX6_small_2_0 12 rfl rfl)
theorem dX6_small_2_13 : decode cX6_small_2 13 = .ok (.iaload, 1) := dk_46 (dk_at dksX6_small_2_0 13 rfl rfl)
theorem dX6_small_2_14 : decode cX6_small_2 14 = .ok (.ireturn, 1) := dk_172 (dk_at dksX6_small_2_0 14 rfl rfl)
theorem q8 : (Jvm.Cond.initialized "NtruRingModel") ∈ lw_all := lw_g (lw_at lw_m0 7 rfl) rfl
theorem q154 : (Jvm.Cond.instantiable "NtruRingModel" (3 : Nat)) ∈ lw_all := lw_g (lw_at lw_m0 153 rfl) rfl
theorem q156 : (Jvm.Cond.instanceMethod ({ cls := "NtruRingModel", name := "<init>", desc := "()V" } : Jvm.MethodName)) ∈ lw_all := lw_g (lw_at lw_m0 155 rfl) rfl
theorem q157 : (Jvm.Cond.code ({ cls := "NtruRingModel", name := "<init>", desc := "()V" } : Jvm.MethodName) prog_7_method_1_code (1 : Nat) (Option.none : Option Jvm.ClassFile.FieldType)) ∈ lw_all := lw_g (lw_at lw_m0 156 rfl) rfl
theorem q158 : (Jvm.Cond.methodLink "NtruRingModel" (1 : Nat) ({ cls := "java/lang/Object", name := "<init>", desc := "()V" } : Jvm.MethodName)) ∈ lw_all := lw_g (lw_at lw_m0 157 rfl) rfl
theorem q159 : (Jvm.Cond.fieldLink "NtruRingModel" (9 : Nat) "NtruRingModel" "wide" "[I") ∈ lw_all := lw_g (lw_at lw_m0 158 rfl) rfl
theorem q160 : (Jvm.Cond.fieldLink "NtruRingModel" (13 : Nat) "NtruRingModel" "small" "[I") ∈ lw_all := lw_g (lw_at lw_m0 159 rfl) rfl
theorem q161 : (Jvm.Cond.fieldLink "NtruRingModel" (16 : Nat) "NtruRingModel" "made" "[I") ∈ lw_all := lw_g (lw_at lw_m0 160 rfl) rfl
theorem q162 : (Jvm.Cond.laysFinal "NtruRingModel" "NtruRingModel" "wide" "[I") ∈ lw_all := lw_g (lw_at lw_m0 161 rfl) rfl
theorem q163 : (Jvm.Cond.soleField "NtruRingModel" "wide") ∈ lw_all := lw_g (lw_at lw_m0 162 rfl) rfl
theorem q164 : (Jvm.Cond.laysFinal "NtruRingModel" "NtruRingModel" "small" "[I") ∈ lw_all := lw_g (lw_at lw_m0 163 rfl) rfl
theorem q165 : (Jvm.Cond.soleField "NtruRingModel" "small") ∈ lw_all := lw_g (lw_at lw_m0 164 rfl) rfl
theorem q166 : (Jvm.Cond.laysFinal "NtruRingModel" "NtruRingModel" "made" "[I") ∈ lw_all := lw_g (lw_at lw_m0 165 rfl) rfl
theorem q167 : (Jvm.Cond.soleField "NtruRingModel" "made") ∈ lw_all := lw_g (lw_at lw_m0 166 rfl) rfl
theorem q168 : (Jvm.Cond.superclass "NtruRingModel" "java/lang/Object") ∈ lw_all := lw_g (lw_at lw_m0 167 rfl) rfl
theorem q170 : (Jvm.Cond.instanceMethod ({ cls := "NtruRingModel", name := "wide", desc := "(III)V" } : Jvm.MethodName)) ∈ lw_all := lw_g (lw_at lw_m0 169 rfl) rfl
theorem q171 : (Jvm.Cond.selects "NtruRingModel" ({ cls := "NtruRingModel", name := "wide", desc := "(III)V" } : Jvm.MethodName) ({ cls := "NtruRingModel", name := "wide", desc := "(III)V" } : Jvm.MethodName)) ∈ lw_all := lw_g (lw_at lw_m0 170 rfl) rfl
theorem q172 : (Jvm.Cond.code ({ cls := "NtruRingModel", name := "wide", desc := "(III)V" } : Jvm.MethodName) prog_7_method_4_code (4 : Nat) (Option.none : Option Jvm.ClassFile.FieldType)) ∈ lw_all := lw_g (lw_at lw_m0 171 rfl) rfl
theorem q173 : (Jvm.Cond.methodLink "NtruRingModel" (20 : Nat) ({ cls := "NtruRingModel", name := "first", desc := "(I)I" } : Jvm.MethodName)) ∈ lw_all := lw_g (lw_at lw_m0 172 rfl) rfl
theorem q174 : (Jvm.Cond.static ({ cls := "NtruRingModel", name := "first", desc := "(I)I" } : Jvm.MethodName)) ∈ lw_all := lw_g (lw_at lw_m0 173 rfl) rfl
theorem q175 : (Jvm.Cond.code ({ cls := "NtruRingModel", name := "first", desc := "(I)I" } : Jvm.MethodName) prog_7_method_2_code (1 : Nat) (Option.some Jvm.ClassFile.FieldType.int)) ∈ lw_all := lw_g (lw_at lw_m0 174 rfl) rfl
theorem q176 : (Jvm.Cond.constant "NtruRingModel" (19 : Nat) (2147483647 : Int32)) ∈ lw_all := lw_g (lw_at lw_m0 175 rfl) rfl
theorem q177 : (Jvm.Cond.methodLink "NtruRingModel" (24 : Nat) ({ cls := "NtruRingModel", name := "place", desc := "(I)I" } : Jvm.MethodName)) ∈ lw_all := lw_g (lw_at lw_m0 176 rfl) rfl
theorem q178 : (Jvm.Cond.static ({ cls := "NtruRingModel", name := "place", desc := "(I)I" } : Jvm.MethodName)) ∈ lw_all := lw_g (lw_at lw_m0 177 rfl) rfl
theorem q179 : (Jvm.Cond.code ({ cls := "NtruRingModel", name := "place", desc := "(I)I" } : Jvm.MethodName) prog_7_method_3_code (1 : Nat) (Option.some Jvm.ClassFile.FieldType.int)) ∈ lw_all := lw_g (lw_at lw_m0 178 rfl) rfl
theorem q181 : (Jvm.Cond.instanceMethod ({ cls := "NtruRingModel", name := "small", desc := "(III)V" } : Jvm.MethodName)) ∈ lw_all := lw_g (lw_at lw_m0 180 rfl) rfl
theorem q182 : (Jvm.Cond.selects "NtruRingModel" ({ cls := "NtruRingModel", name := "small", desc := "(III)V" } : Jvm.MethodName) ({ cls := "NtruRingModel", name := "small", desc := "(III)V" } : Jvm.MethodName)) ∈ lw_all := lw_g (lw_at lw_m0 181 rfl) rfl
theorem q183 : (Jvm.Cond.code ({ cls := "NtruRingModel", name := "small", desc := "(III)V" } : Jvm.MethodName) prog_7_method_5_code (4 : Nat) (Option.none : Option Jvm.ClassFile.FieldType)) ∈ lw_all := lw_g (lw_at lw_m0 182 rfl) rfl
theorem q185 : (Jvm.Cond.instanceMethod ({ cls := "NtruRingModel", name := "spread", desc := "(III)V" } : Jvm.MethodName)) ∈ lw_all := lw_g (lw_at lw_m0 184 rfl) rfl
theorem q186 : (Jvm.Cond.selects "NtruRingModel" ({ cls := "NtruRingModel", name := "spread", desc := "(III)V" } : Jvm.MethodName) ({ cls := "NtruRingModel", name := "spread", desc := "(III)V" } : Jvm.MethodName)) ∈ lw_all := lw_g (lw_at lw_m0 185 rfl) rfl
theorem q187 : (Jvm.Cond.code ({ cls := "NtruRingModel", name := "spread", desc := "(III)V" } : Jvm.MethodName) prog_7_method_6_code (6 : Nat) (Option.none : Option Jvm.ClassFile.FieldType)) ∈ lw_all := lw_g (lw_at lw_m0 186 rfl) rfl
theorem q189 : (Jvm.Cond.instanceMethod ({ cls := "NtruRingModel", name := "times", desc := "(III)V" } : Jvm.MethodName)) ∈ lw_all := lw_g (lw_at lw_m0 188 rfl) rfl
theorem q190 : (Jvm.Cond.selects "NtruRingModel" ({ cls := "NtruRingModel", name := "times", desc := "(III)V" } : Jvm.MethodName) ({ cls := "NtruRingModel", name := "times", desc := "(III)V" } : Jvm.MethodName)) ∈ lw_all := lw_g (lw_at lw_m0 189 rfl) rfl
theorem q191 : (Jvm.Cond.code ({ cls := "NtruRingModel", name := "times", desc := "(III)V" } : Jvm.MethodName) prog_7_method_8_code (5 : Nat) (Option.none : Option Jvm.ClassFile.FieldType)) ∈ lw_all := lw_g (lw_at lw_m0 190 rfl) rfl
theorem q192 : (Jvm.Cond.methodLink "NtruRingModel" (27 : Nat) ({ cls := "NtruRingModel", name := "multiplies", desc := "([III)V" } : Jvm.MethodName)) ∈ lw_all := lw_g (lw_at lw_m0 191 rfl) rfl
theorem q193 : (Jvm.Cond.privateMethod ({ cls := "NtruRingModel", name := "multiplies", desc := "([III)V" } : Jvm.MethodName)) ∈ lw_tbl := lw_at lw_m0 192 rfl
theorem q194 : (Jvm.Cond.instanceMethod ({ cls := "NtruRingModel", name := "multiplies", desc := "([III)V" } : Jvm.MethodName)) ∈ lw_all := lw_g (lw_at lw_m0 193 rfl) rfl
theorem q195 : (Jvm.Cond.code ({ cls := "NtruRingModel", name := "multiplies", desc := "([III)V" } : Jvm.MethodName) prog_7_method_7_code (7 : Nat) (Option.none : Option Jvm.ClassFile.FieldType)) ∈ lw_all := lw_g (lw_at lw_m0 194 rfl) rfl
theorem q197 : (Jvm.Cond.instanceMethod ({ cls := "NtruRingModel", name := "timesPhi", desc := "(III)V" } : Jvm.MethodName)) ∈ lw_all := lw_g (lw_at lw_m0 196 rfl) rfl
theorem q198 : (Jvm.Cond.selects "NtruRingModel" ({ cls := "NtruRingModel", name := "timesPhi", desc := "(III)V" } : Jvm.MethodName) ({ cls := "NtruRingModel", name := "timesPhi", desc := "(III)V" } : Jvm.MethodName)) ∈ lw_all := lw_g (lw_at lw_m0 197 rfl) rfl
theorem q199 : (Jvm.Cond.code ({ cls := "NtruRingModel", name := "timesPhi", desc := "(III)V" } : Jvm.MethodName) prog_7_method_9_code (6 : Nat) (Option.none : Option Jvm.ClassFile.FieldType)) ∈ lw_all := lw_g (lw_at lw_m0 198 rfl) rfl
theorem q201 : (Jvm.Cond.instanceMethod ({ cls := "NtruRingModel", name := "timesThree", desc := "(III)V" } : Jvm.MethodName)) ∈ lw_all := lw_g (lw_at lw_m0 200 rfl) rfl
theorem q202 : (Jvm.Cond.selects "NtruRingModel" ({ cls := "NtruRingModel", name := "timesThree", desc := "(III)V" } : Jvm.MethodName) ({ cls := "NtruRingModel", name := "timesThree", desc := "(III)V" } : Jvm.MethodName)) ∈ lw_all := lw_g (lw_at lw_m0 201 rfl) rfl
theorem q203 : (Jvm.Cond.code ({ cls := "NtruRingModel", name := "timesThree", desc := "(III)V" } : Jvm.MethodName) prog_7_method_10_code (6 : Nat) (Option.none : Option Jvm.ClassFile.FieldType)) ∈ lw_all := lw_g (lw_at lw_m0 202 rfl) rfl
theorem q205 : (Jvm.Cond.instanceMethod ({ cls := "NtruRingModel", name := "wide", desc := "(II)I" } : Jvm.MethodName)) ∈ lw_all := lw_g (lw_at lw_m0 204 rfl) rfl
theorem q206 : (Jvm.Cond.selects "NtruRingModel" ({ cls := "NtruRingModel", name := "wide", desc := "(II)I" } : Jvm.MethodName) ({ cls := "NtruRingModel", name := "wide", desc := "(II)I" } : Jvm.MethodName)) ∈ lw_all := lw_g (lw_at lw_m0 205 rfl) rfl
theorem q207 : (Jvm.Cond.code ({ cls := "NtruRingModel", name := "wide", desc := "(II)I" } : Jvm.MethodName) prog_7_method_11_code (3 : Nat) (Option.some Jvm.ClassFile.FieldType.int)) ∈ lw_all := lw_g (lw_at lw_m0 206 rfl) rfl
theorem q209 : (Jvm.Cond.instanceMethod ({ cls := "NtruRingModel", name := "small", desc := "(II)I" } : Jvm.MethodName)) ∈ lw_all := lw_g (lw_at lw_m0 208 rfl) rfl
theorem q210 : (Jvm.Cond.selects "NtruRingModel" ({ cls := "NtruRingModel", name := "small", desc := "(II)I" } : Jvm.MethodName) ({ cls := "NtruRingModel", name := "small", desc := "(II)I" } : Jvm.MethodName)) ∈ lw_all := lw_g (lw_at lw_m0 209 rfl) rfl
theorem q211 : (Jvm.Cond.code ({ cls := "NtruRingModel", name := "small", desc := "(II)I" } : Jvm.MethodName) prog_7_method_12_code (3 : Nat) (Option.some Jvm.ClassFile.FieldType.int)) ∈ lw_all := lw_g (lw_at lw_m0 210 rfl) rfl
theorem in_X6 : ∀ w ∈ wsX60, w ∈ lw_all := lw_in wsX60 [162, 164, 166] (by decide +kernel) (by decide +kernel)
/-! java/lang/Object -/
set_option maxRecDepth 100000
def RJ0 : String := "java/lang/Object"
abbrev cJ0_init : ByteArray := object_method_1_code
def yJ0_init : MethodName := ⟨RJ0, "<init>", "()V"⟩
theorem dJ0_init_0 : decode cJ0_init 0 = .ok (.return_, 1) := by decide +kernel
theorem q15 : (Jvm.Cond.instanceMethod ({ cls := "java/lang/Object", name := "<init>", desc := "()V" } : Jvm.MethodName)) ∈ lw_all := lw_g (lw_at lw_m0 14 rfl) rfl
theorem q16 : (Jvm.Cond.code ({ cls := "java/lang/Object", name := "<init>", desc := "()V" } : Jvm.MethodName) object_method_1_code (1 : Nat) (Option.none : Option Jvm.ClassFile.FieldType)) ∈ lw_all := lw_g (lw_at lw_m0 15 rfl) rfl
/-! the law's own entry -/
set_option maxRecDepth 100000
abbrev cL_law : ByteArray := code
def dkwL_law_16 : List UInt8 := [132, 3, 6, 167, 254, 135, 4, 172]
abbrev dktL_law_16 : List UInt8 := dkwL_law_16 ++ []
def dkwL_law_15 : List UInt8 := [96, 46, 182, 0, 42, 44, 42, 29, 4, 96, 46, 42, 29, 5, 96, 46, 182, 0, 44, 159, 0, 5, 3, 172]
abbrev dktL_law_15 : List UInt8 := dkwL_law_15 ++ dktL_law_16
def dkwL_law_14 : List UInt8 := [96, 46, 42, 29, 5, 96, 46, 182, 0, 41, 159, 0, 38, 3, 172, 43, 42, 29, 4, 96, 46, 42, 29, 5]
abbrev dktL_law_14 : List UInt8 := dkwL_law_14 ++ dktL_law_15
def dkwL_law_13 : List UInt8 := [182, 0, 37, 167, 0, 69, 43, 42, 29, 4, 96, 46, 42, 29, 5, 96, 46, 182, 0, 38, 44, 42, 29, 4]
abbrev dktL_law_13 : List UInt8 := dkwL_law_13 ++ dktL_law_14
def dkwL_law_12 : List UInt8 := [42, 29, 6, 96, 46, 182, 0, 34, 44, 42, 29, 4, 96, 46, 42, 29, 5, 96, 46, 42, 29, 6, 96, 46]
abbrev dktL_law_12 : List UInt8 := dkwL_law_12 ++ dktL_law_13
def dkwL_law_11 : List UInt8 := [96, 46, 42, 29, 6, 96, 46, 182, 0, 33, 167, 0, 110, 43, 42, 29, 4, 96, 46, 42, 29, 5, 96, 46]
abbrev dktL_law_11 : List UInt8 := dkwL_law_11 ++ dktL_law_12
def dkwL_law_10 : List UInt8 := [96, 46, 42, 29, 5, 96, 46, 42, 29, 6, 96, 46, 182, 0, 30, 44, 42, 29, 4, 96, 46, 42, 29, 5]
abbrev dktL_law_10 : List UInt8 := dkwL_law_10 ++ dktL_law_11
def dkwL_law_9 : List UInt8 := [29, 4, 96, 46, 42, 29, 5, 96, 46, 42, 29, 6, 96, 46, 182, 0, 29, 167, 0, 151, 43, 42, 29, 4]
abbrev dktL_law_9 : List UInt8 := dkwL_law_9 ++ dktL_law_10
def dkwL_law_8 : List UInt8 := [167, 0, 192, 43, 42, 29, 4, 96, 46, 42, 29, 5, 96, 46, 42, 29, 6, 96, 46, 182, 0, 26, 44, 42]
abbrev dktL_law_8 : List UInt8 := dkwL_law_8 ++ dktL_law_9
def dkwL_law_7 : List UInt8 := [96, 46, 182, 0, 22, 44, 42, 29, 4, 96, 46, 42, 29, 5, 96, 46, 42, 29, 6, 96, 46, 182, 0, 25]
abbrev dktL_law_7 : List UInt8 := dkwL_law_7 ++ dktL_law_8
def dkwL_law_6 : List UInt8 := [29, 6, 96, 46, 182, 0, 21, 167, 0, 233, 43, 42, 29, 4, 96, 46, 42, 29, 5, 96, 46, 42, 29, 6]
abbrev dktL_law_6 : List UInt8 := dkwL_law_6 ++ dktL_law_7
def dkwL_law_5 : List UInt8 := [29, 5, 96, 46, 42, 29, 6, 96, 46, 182, 0, 18, 44, 42, 29, 4, 96, 46, 42, 29, 5, 96, 46, 42]
abbrev dktL_law_5 : List UInt8 := dkwL_law_5 ++ dktL_law_6
def dkwL_law_4 : List UInt8 := [46, 42, 29, 5, 96, 46, 42, 29, 6, 96, 46, 182, 0, 17, 167, 1, 18, 43, 42, 29, 4, 96, 46, 42]
abbrev dktL_law_4 : List UInt8 := dkwL_law_4 ++ dktL_law_5
def dkwL_law_3 : List UInt8 := [43, 42, 29, 4, 96, 46, 42, 29, 5, 96, 46, 42, 29, 6, 96, 46, 182, 0, 13, 44, 42, 29, 4, 96]
abbrev dktL_law_3 : List UInt8 := dkwL_law_3 ++ dktL_law_4
def dkwL_law_2 : List UInt8 := [170, 0, 0, 0, 0, 1, 103, 0, 0, 0, 0, 0, 0, 0, 7, 0, 0, 0, 47, 0, 0, 0, 88, 0, 0, 0, 129, 0, 0, 0, 170, 0, 0, 0, 211, 0, 0, 0, 252, 0, 0, 1, 37, 0, 0, 1, 70]
abbrev dktL_law_2 : List UInt8 := dkwL_law_2 ++ dktL_law_3
def dkwL_law_1 : List UInt8 := [163, 1, 118, 42, 29, 46, 16, 7, 126]
abbrev dktL_law_1 : List UInt8 := dkwL_law_1 ++ dktL_law_2
def dkwL_law_0 : List UInt8 := [187, 0, 7, 89, 183, 0, 9, 76, 187, 0, 10, 89, 183, 0, 12, 77, 3, 62, 29, 42, 190, 16, 6, 100]
abbrev dktL_law_0 : List UInt8 := dkwL_law_0 ++ dktL_law_1
theorem dksL_law_0 : cL_law.data.toList.drop 0 = dktL_law_0 := by decide +kernel
theorem dksL_law_1 : cL_law.data.toList.drop 24 = dktL_law_1 := dk_seg dksL_law_0 24 rfl rfl
theorem dksL_law_2 : cL_law.data.toList.drop 33 = dktL_law_2 := dk_seg dksL_law_1 9 rfl rfl
theorem dksL_law_3 : cL_law.data.toList.drop 80 = dktL_law_3 := dk_seg dksL_law_2 47 rfl rfl
theorem dksL_law_4 : cL_law.data.toList.drop 104 = dktL_law_4 := dk_seg dksL_law_3 24 rfl rfl
theorem dksL_law_5 : cL_law.data.toList.drop 128 = dktL_law_5 := dk_seg dksL_law_4 24 rfl rfl
theorem dksL_law_6 : cL_law.data.toList.drop 152 = dktL_law_6 := dk_seg dksL_law_5 24 rfl rfl
theorem dksL_law_7 : cL_law.data.toList.drop 176 = dktL_law_7 := dk_seg dksL_law_6 24 rfl rfl
theorem dksL_law_8 : cL_law.data.toList.drop 200 = dktL_law_8 := dk_seg dksL_law_7 24 rfl rfl
theorem dksL_law_9 : cL_law.data.toList.drop 224 = dktL_law_9 := dk_seg dksL_law_8 24 rfl rfl
theorem dksL_law_10 : cL_law.data.toList.drop 248 = dktL_law_10 := dk_seg dksL_law_9 24 rfl rfl
theorem dksL_law_11 : cL_law.data.toList.drop 272 = dktL_law_11 := dk_seg dksL_law_10 24 rfl rfl
theorem dksL_law_12 : cL_law.data.toList.drop 296 = dktL_law_12 := dk_seg dksL_law_11 24 rfl rfl
theorem dksL_law_13 : cL_law.data.toList.drop 320 = dktL_law_13 := dk_seg dksL_law_12 24 rfl rfl
theorem dksL_law_14 : cL_law.data.toList.drop 344 = dktL_law_14 := dk_seg dksL_law_13 24 rfl rfl
theorem dksL_law_15 : cL_law.data.toList.drop 368 = dktL_law_15 := dk_seg dksL_law_14 24 rfl rfl
theorem dksL_law_16 : cL_law.data.toList.drop 392 = dktL_law_16 := dk_seg dksL_law_15 24 rfl rfl
theorem dL_law_0 : decode cL_law 0 = .ok (.new 7, 3) := dk_187 0 7 (dk_at dksL_law_0 0 rfl rfl)
theorem dL_law_3 : decode cL_law 3 = .ok (.dup, 1) := dk_89 (dk_at dksL_law_0 3 rfl rfl)
theorem dL_law_4 : decode cL_law 4 = .ok (.invokespecial 9, 3) := dk_183 0 9 (dk_at dksL_law_0 4 rfl rfl)
theorem dL_law_7 : decode cL_law 7 = .ok (.astore_n 1, 1) := dk_76 (dk_at dksL_law_0 7 rfl rfl)
theorem dL_law_8 : decode cL_law 8 = .ok (.new 10, 3) := dk_187 0 10 (dk_at dksL_law_0 8 rfl rfl)
theorem dL_law_11 : decode cL_law 11 = .ok (.dup, 1) := dk_89 (dk_at dksL_law_0 11 rfl rfl)
theorem dL_law_12 : decode cL_law 12 = .ok (.invokespecial 12, 3) := dk_183 0 12 (dk_at dksL_law_0 12 rfl rfl)
theorem dL_law_15 : decode cL_law 15 = .ok (.astore_n 2, 1) := dk_77 (dk_at dksL_law_0 15 rfl rfl)
theorem dL_law_16 : decode cL_law 16 = .ok (.iconst 0, 1) := dk_3 (dk_at dksL_law_0 16 rfl rfl)
theorem dL_law_17 : decode cL_law 17 = .ok (.istore_n 3, 1) := dk_62 (dk_at dksL_law_0 17 rfl rfl)
theorem dL_law_18 : decode cL_law 18 = .ok (.iload_n 3, 1) := dk_29 (dk_at dksL_law_0 18 rfl rfl)
theorem dL_law_19 : decode cL_law 19 = .ok (.aload_n 0, 1) := dk_42 (dk_at dksL_law_0 19 rfl rfl)
theorem dL_law_20 : decode cL_law 20 = .ok (.arraylength, 1) := dk_190 (dk_at dksL_law_0 20 rfl rfl)
theorem dL_law_21 : decode cL_law 21 = .ok (.bipush 6, 2) := dk_16 6 (dk_at dksL_law_0 21 rfl rfl)
theorem dL_law_23 : decode cL_law 23 = .ok (.isub, 1) := dk_100 (dk_at dksL_law_0 23 rfl rfl)
theorem dL_law_24 : decode cL_law 24 = .ok (.if_icmp .gt 374, 3) := dk_163 1 118 (dk_at dksL_law_1 0 rfl rfl)
theorem dL_law_27 : decode cL_law 27 = .ok (.aload_n 0, 1) := dk_42 (dk_at dksL_law_1 3 rfl rfl)
theorem dL_law_28 : decode cL_law 28 = .ok (.iload_n 3, 1) := dk_29 (dk_at dksL_law_1 4 rfl rfl)
theorem dL_law_29 : decode cL_law 29 = .ok (.iaload, 1) := dk_46 (dk_at dksL_law_1 5 rfl rfl)
theorem dL_law_30 : decode cL_law 30 = .ok (.bipush 7, 2) := dk_16 7 (dk_at dksL_law_1 6 rfl rfl)
theorem dL_law_32 : decode cL_law 32 = .ok (.iand, 1) := dk_126 (dk_at dksL_law_1 8 rfl rfl)
theorem dL_law_33 : decode cL_law 33 = .ok (.tableswitch 359 0 7 #[47, 88, 129, 170, 211, 252, 293, 326], 47) := by decide +kernel
theorem dL_law_80 : decode cL_law 80 = .ok (.aload_n 1, 1) := dk_43 (dk_at dksL_law_3 0 rfl rfl)
theorem dL_law_81 : decode cL_law 81 = .ok (.aload_n 0, 1) := dk_42 (dk_at dksL_law_3 1 rfl rfl)
theorem dL_law_82 : decode cL_law 82 = .ok (.iload_n 3, 1) := dk_29 (dk_at dksL_law_3 2 rfl rfl)
theorem dL_law_83 : decode cL_law 83 = .ok (.iconst 1, 1) := dk_4 (dk_at dksL_law_3 3 rfl rfl)
theorem dL_law_84 : decode cL_law 84 = .ok (.iadd, 1) := dk_96 (dk_at dksL_law_3 4 rfl rfl)
theorem dL_law_85 : decode cL_law 85 = .ok (.iaload, 1) := dk_46 (dk_at dksL_law_3 5 rfl rfl)
theorem dL_law_86 : decode cL_law 86 = .ok (.aload_n 0, 1) := dk_42 (dk_at dksL_law_3 6 rfl rfl)
theorem dL_law_87 : decode cL_law 87 = .ok (.iload_n 3, 1) := dk_29 (dk_at dksL_law_3 7 rfl rfl)
theorem dL_law_88 : decode cL_law 88 = .ok (.iconst 2, 1) := dk_5 (dk_at dksL_law_3 8 rfl rfl)
theorem dL_law_89 : decode cL_law 89 = .ok (.iadd, 1) := dk_96 (dk_at dksL_law_3 9 rfl rfl)
theorem dL_law_90 : decode cL_law 90 = .ok (.iaload, 1) := dk_46 (dk_at dksL_law_3 10 rfl rfl)
theorem dL_law_91 : decode cL_law 91 = .ok (.aload_n 0, 1) := dk_42 (dk_at dksL_law_3 11 rfl rfl)
theorem dL_law_92 : decode cL_law 92 = .ok (.iload_n 3, 1) := dk_29 (dk_at dksL_law_3 12 rfl rfl)
theorem dL_law_93 : decode cL_law 93 = .ok (.iconst 3, 1) := dk_6 (dk_at dksL_law_3 13 rfl rfl)
theorem dL_law_94 : decode cL_law 94 = .ok (.iadd, 1) := dk_96 (dk_at dksL_law_3 14 rfl rfl)
theorem dL_law_95 : decode cL_law 95 = .ok (.iaload, 1) := dk_46 (dk_at dksL_law_3 15 rfl rfl)
theorem dL_law_96 : decode cL_law 96 = .ok (.invokevirtual 13, 3) := dk_182 0 13 (dk_at dksL_law_3 16 rfl rfl)
theorem dL_law_99 : decode cL_law 99 = .ok (.aload_n 2, 1) := dk_44 (dk_at dksL_law_3 19 rfl rfl)
theorem dL_law_100 : decode cL_law 100 = .ok (.aload_n 0, 1) := dk_42 (dk_at dksL_law_3 20 rfl rfl)
theorem dL_law_101 : decode cL_law 101 = .ok (.iload_n 3, 1) := dk_29 (dk_at dksL_law_3 21 rfl rfl)
theorem dL_law_102 : decode cL_law 102 = .ok (.iconst 1, 1) := dk_4 (dk_at dksL_law_3 22 rfl rfl)
theorem dL_law_103 : decode cL_law 103 = .ok (.iadd, 1) := dk_96 (dk_at dksL_law_3 23 rfl rfl)
theorem dL_law_104 : decode cL_law 104 = .ok (.iaload, 1) := dk_46 (dk_at dksL_law_4 0 rfl rfl)
theorem dL_law_105 : decode cL_law 105 = .ok (.aload_n 0, 1) := dk_42 (dk_at dksL_law_4 1 rfl rfl)
theorem dL_law_106 : decode cL_law 106 = .ok (.iload_n 3, 1) := dk_29 (dk_at dksL_law_4 2 rfl rfl)
theorem dL_law_107 : decode cL_law 107 = .ok (.iconst 2, 1) := dk_5 (dk_at dksL_law_4 3 rfl rfl)
theorem dL_law_108 : decode cL_law 108 = .ok (.iadd, 1) := dk_96 (dk_at dksL_law_4 4 rfl rfl)
theorem dL_law_109 : decode cL_law 109 = .ok (.iaload, 1) := dk_46 (dk_at dksL_law_4 5 rfl rfl)
theorem dL_law_110 : decode cL_law 110 = .ok (.aload_n 0, 1) := dk_42 (dk_at dksL_law_4 6 rfl rfl)
theorem dL_law_111 : decode cL_law 111 = .ok (.iload_n 3, 1) := dk_29 (dk_at dksL_law_4 7 rfl rfl)
theorem dL_law_112 : decode cL_law 112 = .ok (.iconst 3, 1) := dk_6 (dk_at dksL_law_4 8 rfl rfl)
theorem dL_law_113 : decode cL_law 113 = .ok (.iadd, 1) := dk_96 (dk_at dksL_law_4 9 rfl rfl)
theorem dL_law_114 : decode cL_law 114 = .ok (.iaload, 1) := dk_46 (dk_at dksL_law_4 10 rfl rfl)
theorem dL_law_115 : decode cL_law 115 = .ok (.invokevirtual 17, 3) := dk_182 0 17 (dk_at dksL_law_4 11 rfl rfl)
theorem dL_law_118 : decode cL_law 118 = .ok (.goto 274, 3) := dk_167 1 18 (dk_at dksL_law_4 14 rfl rfl)
theorem dL_law_121 : decode cL_law 121 = .ok (.aload_n 1, 1) := dk_43 (dk_at dksL_law_4 17 rfl rfl)
theorem dL_law_122 : decode cL_law 122 = .ok (.aload_n 0, 1) := dk_42 (dk_at dksL_law_4 18 rfl rfl)
theorem dL_law_123 : decode cL_law 123 = .ok (.iload_n 3, 1) := dk_29 (dk_at dksL_law_4 19 rfl rfl)
theorem dL_law_124 : decode cL_law 124 = .ok (.iconst 1, 1) := dk_4 (dk_at dksL_law_4 20 rfl rfl)
theorem dL_law_125 : decode cL_law 125 = .ok (.iadd, 1) := dk_96 (dk_at dksL_law_4 21 rfl rfl)
theorem dL_law_126 : decode cL_law 126 = .ok (.iaload, 1) := dk_46 (dk_at dksL_law_4 22 rfl rfl)
theorem dL_law_127 : decode cL_law 127 = .ok (.aload_n 0, 1) := dk_42 (dk_at dksL_law_4 23 rfl rfl)
theorem dL_law_128 : decode cL_law 128 = .ok (.iload_n 3, 1) := dk_29 (dk_at dksL_law_5 0 rfl rfl)
theorem dL_law_129 : decode cL_law 129 = .ok (.iconst 2, 1) := dk_5 (dk_at dksL_law_5 1 rfl rfl)
theorem dL_law_130 : decode cL_law 130 = .ok (.iadd, 1) := dk_96 (dk_at dksL_law_5 2 rfl rfl)
theorem dL_law_131 : decode cL_law 131 = .ok (.iaload, 1) := dk_46 (dk_at dksL_law_5 3 rfl rfl)
theorem dL_law_132 : decode cL_law 132 = .ok (.aload_n 0, 1) := dk_42 (dk_at dksL_law_5 4 rfl rfl)
theorem dL_law_133 : decode cL_law 133 = .ok (.iload_n 3, 1) := dk_29 (dk_at dksL_law_5 5 rfl rfl)
theorem dL_law_134 : decode cL_law 134 = .ok (.iconst 3, 1) := dk_6 (dk_at dksL_law_5 6 rfl rfl)
theorem dL_law_135 : decode cL_law 135 = .ok (.iadd, 1) := dk_96 (dk_at dksL_law_5 7 rfl rfl)
theorem dL_law_136 : decode cL_law 136 = .ok (.iaload, 1) := dk_46 (dk_at dksL_law_5 8 rfl rfl)
theorem dL_law_137 : decode cL_law 137 = .ok (.invokevirtual 18, 3) := dk_182 0 18 (dk_at dksL_law_5 9 rfl rfl)
theorem dL_law_140 : decode cL_law 140 = .ok (.aload_n 2, 1) := dk_44 (dk_at dksL_law_5 12 rfl rfl)
theorem dL_law_141 : decode cL_law 141 = .ok (.aload_n 0, 1) := dk_42 (dk_at dksL_law_5 13 rfl rfl)
theorem dL_law_142 : decode cL_law 142 = .ok (.iload_n 3, 1) := dk_29 (dk_at dksL_law_5 14 rfl rfl)
theorem dL_law_143 : decode cL_law 143 = .ok (.iconst 1, 1) := dk_4 (dk_at dksL_law_5 15 rfl rfl)
theorem dL_law_144 : decode cL_law 144 = .ok (.iadd, 1) := dk_96 (dk_at dksL_law_5 16 rfl rfl)
theorem dL_law_145 : decode cL_law 145 = .ok (.iaload, 1) := dk_46 (dk_at dksL_law_5 17 rfl rfl)
theorem dL_law_146 : decode cL_law 146 = .ok (.aload_n 0, 1) := dk_42 (dk_at dksL_law_5 18 rfl rfl)
theorem dL_law_147 : decode cL_law 147 = .ok (.iload_n 3, 1) := dk_29 (dk_at dksL_law_5 19 rfl rfl)
theorem dL_law_148 : decode cL_law 148 = .ok (.iconst 2, 1) := dk_5 (dk_at dksL_law_5 20 rfl rfl)
theorem dL_law_149 : decode cL_law 149 = .ok (.iadd, 1) := dk_96 (dk_at dksL_law_5 21 rfl rfl)
theorem dL_law_150 : decode cL_law 150 = .ok (.iaload, 1) := dk_46 (dk_at dksL_law_5 22 rfl rfl)
theorem dL_law_151 : decode cL_law 151 = .ok (.aload_n 0, 1) := dk_42 (dk_at dksL_law_5 23 rfl rfl)
theorem dL_law_152 : decode cL_law 152 = .ok (.iload_n 3, 1) := dk_29 (dk_at dksL_law_6 0 rfl rfl)
theorem dL_law_153 : decode cL_law 153 = .ok (.iconst 3, 1) := dk_6 (dk_at dksL_law_6 1 rfl rfl)
theorem dL_law_154 : decode cL_law 154 = .ok (.iadd, 1) := dk_96 (dk_at dksL_law_6 2 rfl rfl)
theorem dL_law_155 : decode cL_law 155 = .ok (.iaload, 1) := dk_46 (dk_at dksL_law_6 3 rfl rfl)
theorem dL_law_156 : decode cL_law 156 = .ok (.invokevirtual 21, 3) := dk_182 0 21 (dk_at dksL_law_6 4 rfl rfl)
theorem dL_law_159 : decode cL_law 159 = .ok (.goto 233, 3) := dk_167 0 233 (dk_at dksL_law_6 7 rfl rfl)
theorem dL_law_162 : decode cL_law 162 = .ok (.aload_n 1, 1) := dk_43 (dk_at dksL_law_6 10 rfl rfl)
theorem dL_law_163 : decode cL_law 163 = .ok (.aload_n 0, 1) := dk_42 (dk_at dksL_law_6 11 rfl rfl)
theorem dL_law_164 : decode cL_law 164 = .ok (.iload_n 3, 1) := dk_29 (dk_at dksL_law_6 12 rfl rfl)
theorem dL_law_165 : decode cL_law 165 = .ok (.iconst 1, 1) := dk_4 (dk_at dksL_law_6 13 rfl rfl)
theorem dL_law_166 : decode cL_law 166 = .ok (.iadd, 1) := dk_96 (dk_at dksL_law_6 14 rfl rfl)
theorem dL_law_167 : decode cL_law 167 = .ok (.iaload, 1) := dk_46 (dk_at dksL_law_6 15 rfl rfl)
theorem dL_law_168 : decode cL_law 168 = .ok (.aload_n 0, 1) := dk_42 (dk_at dksL_law_6 16 rfl rfl)
theorem dL_law_169 : decode cL_law 169 = .ok (.iload_n 3, 1) := dk_29 (dk_at dksL_law_6 17 rfl rfl)
theorem dL_law_170 : decode cL_law 170 = .ok (.iconst 2, 1) := dk_5 (dk_at dksL_law_6 18 rfl rfl)
theorem dL_law_171 : decode cL_law 171 = .ok (.iadd, 1) := dk_96 (dk_at dksL_law_6 19 rfl rfl)
theorem dL_law_172 : decode cL_law 172 = .ok (.iaload, 1) := dk_46 (dk_at dksL_law_6 20 rfl rfl)
theorem dL_law_173 : decode cL_law 173 = .ok (.aload_n 0, 1) := dk_42 (dk_at dksL_law_6 21 rfl rfl)
theorem dL_law_174 : decode cL_law 174 = .ok (.iload_n 3, 1) := dk_29 (dk_at dksL_law_6 22 rfl rfl)
theorem dL_law_175 : decode cL_law 175 = .ok (.iconst 3, 1) := dk_6 (dk_at dksL_law_6 23 rfl rfl)
theorem dL_law_176 : decode cL_law 176 = .ok (.iadd, 1) := dk_96 (dk_at dksL_law_7 0 rfl rfl)
theorem dL_law_177 : decode cL_law 177 = .ok (.iaload, 1) := dk_46 (dk_at dksL_law_7 1 rfl rfl)
theorem dL_law_178 : decode cL_law 178 = .ok (.invokevirtual 22, 3) := dk_182 0 22 (dk_at dksL_law_7 2 rfl rfl)
theorem dL_law_181 : decode cL_law 181 = .ok (.aload_n 2, 1) := dk_44 (dk_at dksL_law_7 5 rfl rfl)
theorem dL_law_182 : decode cL_law 182 = .ok (.aload_n 0, 1) := dk_42 (dk_at dksL_law_7 6 rfl rfl)
theorem dL_law_183 : decode cL_law 183 = .ok (.iload_n 3, 1) := dk_29 (dk_at dksL_law_7 7 rfl rfl)
theorem dL_law_184 : decode cL_law 184 = .ok (.iconst 1, 1) := dk_4 (dk_at dksL_law_7 8 rfl rfl)
theorem dL_law_185 : decode cL_law 185 = .ok (.iadd, 1) := dk_96 (dk_at dksL_law_7 9 rfl rfl)
theorem dL_law_186 : decode cL_law 186 = .ok (.iaload, 1) := dk_46 (dk_at dksL_law_7 10 rfl rfl)
theorem dL_law_187 : decode cL_law 187 = .ok (.aload_n 0, 1) := dk_42 (dk_at dksL_law_7 11 rfl rfl)
theorem dL_law_188 : decode cL_law 188 = .ok (.iload_n 3, 1) := dk_29 (dk_at dksL_law_7 12 rfl rfl)
theorem dL_law_189 : decode cL_law 189 = .ok (.iconst 2, 1) := dk_5 (dk_at dksL_law_7 13 rfl rfl)
theorem dL_law_190 : decode cL_law 190 = .ok (.iadd, 1) := dk_96 (dk_at dksL_law_7 14 rfl rfl)
theorem dL_law_191 : decode cL_law 191 = .ok (.iaload, 1) := dk_46 (dk_at dksL_law_7 15 rfl rfl)
theorem dL_law_192 : decode cL_law 192 = .ok (.aload_n 0, 1) := dk_42 (dk_at dksL_law_7 16 rfl rfl)
theorem dL_law_193 : decode cL_law 193 = .ok (.iload_n 3, 1) := dk_29 (dk_at dksL_law_7 17 rfl rfl)
theorem dL_law_194 : decode cL_law 194 = .ok (.iconst 3, 1) := dk_6 (dk_at dksL_law_7 18 rfl rfl)
theorem dL_law_195 : decode cL_law 195 = .ok (.iadd, 1) := dk_96 (dk_at dksL_law_7 19 rfl rfl)
theorem dL_law_196 : decode cL_law 196 = .ok (.iaload, 1) := dk_46 (dk_at dksL_law_7 20 rfl rfl)
theorem dL_law_197 : decode cL_law 197 = .ok (.invokevirtual 25, 3) := dk_182 0 25 (dk_at dksL_law_7 21 rfl rfl)
theorem dL_law_200 : decode cL_law 200 = .ok (.goto 192, 3) := dk_167 0 192 (dk_at dksL_law_8 0 rfl rfl)
theorem dL_law_203 : decode cL_law 203 = .ok (.aload_n 1, 1) := dk_43 (dk_at dksL_law_8 3 rfl rfl)
theorem dL_law_204 : decode cL_law 204 = .ok (.aload_n 0, 1) := dk_42 (dk_at dksL_law_8 4 rfl rfl)
theorem dL_law_205 : decode cL_law 205 = .ok (.iload_n 3, 1) := dk_29 (dk_at dksL_law_8 5 rfl rfl)
theorem dL_law_206 : decode cL_law 206 = .ok (.iconst 1, 1) := dk_4 (dk_at dksL_law_8 6 rfl rfl)
theorem dL_law_207 : decode cL_law 207 = .ok (.iadd, 1) := dk_96 (dk_at dksL_law_8 7 rfl rfl)
theorem dL_law_208 : decode cL_law 208 = .ok (.iaload, 1) := dk_46 (dk_at dksL_law_8 8 rfl rfl)
theorem dL_law_209 : decode cL_law 209 = .ok (.aload_n 0, 1) := dk_42 (dk_at dksL_law_8 9 rfl rfl)
theorem dL_law_210 : decode cL_law 210 = .ok (.iload_n 3, 1) := dk_29 (dk_at dksL_law_8 10 rfl rfl)
theorem dL_law_211 : decode cL_law 211 = .ok (.iconst 2, 1) := dk_5 (dk_at dksL_law_8 11 rfl rfl)
theorem dL_law_212 : decode cL_law 212 = .ok (.iadd, 1) := dk_96 (dk_at dksL_law_8 12 rfl rfl)
theorem dL_law_213 : decode cL_law 213 = .ok (.iaload, 1) := dk_46 (dk_at dksL_law_8 13 rfl rfl)
theorem dL_law_214 : decode cL_law 214 = .ok (.aload_n 0, 1) := dk_42 (dk_at dksL_law_8 14 rfl rfl)
theorem dL_law_215 : decode cL_law 215 = .ok (.iload_n 3, 1) := dk_29 (dk_at dksL_law_8 15 rfl rfl)
theorem dL_law_216 : decode cL_law 216 = .ok (.iconst 3, 1) := dk_6 (dk_at dksL_law_8 16 rfl rfl)
theorem dL_law_217 : decode cL_law 217 = .ok (.iadd, 1) := dk_96 (dk_at dksL_law_8 17 rfl rfl)
theorem dL_law_218 : decode cL_law 218 = .ok (.iaload, 1) := dk_46 (dk_at dksL_law_8 18 rfl rfl)
theorem dL_law_219 : decode cL_law 219 = .ok (.invokevirtual 26, 3) := dk_182 0 26 (dk_at dksL_law_8 19 rfl rfl)
theorem dL_law_222 : decode cL_law 222 = .ok (.aload_n 2, 1) := dk_44 (dk_at dksL_law_8 22 rfl rfl)
theorem dL_law_223 : decode cL_law 223 = .ok (.aload_n 0, 1) := dk_42 (dk_at dksL_law_8 23 rfl rfl)
theorem dL_law_224 : decode cL_law 224 = .ok (.iload_n 3, 1) := dk_29 (dk_at dksL_law_9 0 rfl rfl)
theorem dL_law_225 : decode cL_law 225 = .ok (.iconst 1, 1) := dk_4 (dk_at dksL_law_9 1 rfl rfl)
theorem dL_law_226 : decode cL_law 226 = .ok (.iadd, 1) := dk_96 (dk_at dksL_law_9 2 rfl rfl)
theorem dL_law_227 : decode cL_law 227 = .ok (.iaload, 1) := dk_46 (dk_at dksL_law_9 3 rfl rfl)
theorem dL_law_228 : decode cL_law 228 = .ok (.aload_n 0, 1) := dk_42 (dk_at dksL_law_9 4 rfl rfl)
theorem dL_law_229 : decode cL_law 229 = .ok (.iload_n 3, 1) := dk_29 (dk_at dksL_law_9 5 rfl rfl)
theorem dL_law_230 : decode cL_law 230 = .ok (.iconst 2, 1) := dk_5 (dk_at dksL_law_9 6 rfl rfl)
theorem dL_law_231 : decode cL_law 231 = .ok (.iadd, 1) := dk_96 (dk_at dksL_law_9 7 rfl rfl)
theorem dL_law_232 : decode cL_law 232 = .ok (.iaload, 1) := dk_46 (dk_at dksL_law_9 8 rfl rfl)
theorem dL_law_233 : decode cL_law 233 = .ok (.aload_n 0, 1) := dk_42 (dk_at dksL_law_9 9 rfl rfl)
theorem dL_law_234 : decode cL_law 234 = .ok (.iload_n 3, 1) := dk_29 (dk_at dksL_law_9 10 rfl rfl)
theorem dL_law_235 : decode cL_law 235 = .ok (.iconst 3, 1) := dk_6 (dk_at dksL_law_9 11 rfl rfl)
theorem dL_law_236 : decode cL_law 236 = .ok (.iadd, 1) := dk_96 (dk_at dksL_law_9 12 rfl rfl)
theorem dL_law_237 : decode cL_law 237 = .ok (.iaload, 1) := dk_46 (dk_at dksL_law_9 13 rfl rfl)
theorem dL_law_238 : decode cL_law 238 = .ok (.invokevirtual 29, 3) := dk_182 0 29 (dk_at dksL_law_9 14 rfl rfl)
theorem dL_law_241 : decode cL_law 241 = .ok (.goto 151, 3) := dk_167 0 151 (dk_at dksL_law_9 17 rfl rfl)
theorem dL_law_244 : decode cL_law 244 = .ok (.aload_n 1, 1) := dk_43 (dk_at dksL_law_9 20 rfl rfl)
theorem dL_law_245 : decode cL_law 245 = .ok (.aload_n 0, 1) := dk_42 (dk_at dksL_law_9 21 rfl rfl)
theorem dL_law_246 : decode cL_law 246 = .ok (.iload_n 3, 1) := dk_29 (dk_at dksL_law_9 22 rfl rfl)
theorem dL_law_247 : decode cL_law 247 = .ok (.iconst 1, 1) := dk_4 (dk_at dksL_law_9 23 rfl rfl)
theorem dL_law_248 : decode cL_law 248 = .ok (.iadd, 1) := dk_96 (dk_at dksL_law_10 0 rfl rfl)
theorem dL_law_249 : decode cL_law 249 = .ok (.iaload, 1) := dk_46 (dk_at dksL_law_10 1 rfl rfl)
theorem dL_law_250 : decode cL_law 250 = .ok (.aload_n 0, 1) := dk_42 (dk_at dksL_law_10 2 rfl rfl)
theorem dL_law_251 : decode cL_law 251 = .ok (.iload_n 3, 1) := dk_29 (dk_at dksL_law_10 3 rfl rfl)
theorem dL_law_252 : decode cL_law 252 = .ok (.iconst 2, 1) := dk_5 (dk_at dksL_law_10 4 rfl rfl)
theorem dL_law_253 : decode cL_law 253 = .ok (.iadd, 1) := dk_96 (dk_at dksL_law_10 5 rfl rfl)
theorem dL_law_254 : decode cL_law 254 = .ok (.iaload, 1) := dk_46 (dk_at dksL_law_10 6 rfl rfl)
theorem dL_law_255 : decode cL_law 255 = .ok (.aload_n 0, 1) := dk_42 (dk_at dksL_law_10 7 rfl rfl)
theorem dL_law_256 : decode cL_law 256 = .ok (.iload_n 3, 1) := dk_29 (dk_at dksL_law_10 8 rfl rfl)
theorem dL_law_257 : decode cL_law 257 = .ok (.iconst 3, 1) := dk_6 (dk_at dksL_law_10 9 rfl rfl)
theorem dL_law_258 : decode cL_law 258 = .ok (.iadd, 1) := dk_96 (dk_at dksL_law_10 10 rfl rfl)
theorem dL_law_259 : decode cL_law 259 = .ok (.iaload, 1) := dk_46 (dk_at dksL_law_10 11 rfl rfl)
theorem dL_law_260 : decode cL_law 260 = .ok (.invokevirtual 30, 3) := dk_182 0 30 (dk_at dksL_law_10 12 rfl rfl)
theorem dL_law_263 : decode cL_law 263 = .ok (.aload_n 2, 1) := dk_44 (dk_at dksL_law_10 15 rfl rfl)
theorem dL_law_264 : decode cL_law 264 = .ok (.aload_n 0, 1) := dk_42 (dk_at dksL_law_10 16 rfl rfl)
theorem dL_law_265 : decode cL_law 265 = .ok (.iload_n 3, 1) := dk_29 (dk_at dksL_law_10 17 rfl rfl)
theorem dL_law_266 : decode cL_law 266 = .ok (.iconst 1, 1) := dk_4 (dk_at dksL_law_10 18 rfl rfl)
theorem dL_law_267 : decode cL_law 267 = .ok (.iadd, 1) := dk_96 (dk_at dksL_law_10 19 rfl rfl)
theorem dL_law_268 : decode cL_law 268 = .ok (.iaload, 1) := dk_46 (dk_at dksL_law_10 20 rfl rfl)
theorem dL_law_269 : decode cL_law 269 = .ok (.aload_n 0, 1) := dk_42 (dk_at dksL_law_10 21 rfl rfl)
theorem dL_law_270 : decode cL_law 270 = .ok (.iload_n 3, 1) := dk_29 (dk_at dksL_law_10 22 rfl rfl)
theorem dL_law_271 : decode cL_law 271 = .ok (.iconst 2, 1) := dk_5 (dk_at dksL_law_10 23 rfl rfl)
theorem dL_law_272 : decode cL_law 272 = .ok (.iadd, 1) := dk_96 (dk_at dksL_law_11 0 rfl rfl)
theorem dL_law_273 : decode cL_law 273 = .ok (.iaload, 1) := dk_46 (dk_at dksL_law_11 1 rfl rfl)
theorem dL_law_274 : decode cL_law 274 = .ok (.aload_n 0, 1) := dk_42 (dk_at dksL_law_11 2 rfl rfl)
theorem dL_law_275 : decode cL_law 275 = .ok (.iload_n 3, 1) := dk_29 (dk_at dksL_law_11 3 rfl rfl)
theorem dL_law_276 : decode cL_law 276 = .ok (.iconst 3, 1) := dk_6 (dk_at dksL_law_11 4 rfl rfl)
theorem dL_law_277 : decode cL_law 277 = .ok (.iadd, 1) := dk_96 (dk_at dksL_law_11 5 rfl rfl)
theorem dL_law_278 : decode cL_law 278 = .ok (.iaload, 1) := dk_46 (dk_at dksL_law_11 6 rfl rfl)
theorem dL_law_279 : decode cL_law 279 = .ok (.invokevirtual 33, 3) := dk_182 0 33 (dk_at dksL_law_11 7 rfl rfl)
theorem dL_law_282 : decode cL_law 282 = .ok (.goto 110, 3) := dk_167 0 110 (dk_at dksL_law_11 10 rfl rfl)
theorem dL_law_285 : decode cL_law 285 = .ok (.aload_n 1, 1) := dk_43 (dk_at dksL_law_11 13 rfl rfl)
theorem dL_law_286 : decode cL_law 286 = .ok (.aload_n 0, 1) := dk_42 (dk_at dksL_law_11 14 rfl rfl)
theorem dL_law_287 : decode cL_law 287 = .ok (.iload_n 3, 1) := dk_29 (dk_at dksL_law_11 15 rfl rfl)
theorem dL_law_288 : decode cL_law 288 = .ok (.iconst 1, 1) := dk_4 (dk_at dksL_law_11 16 rfl rfl)
theorem dL_law_289 : decode cL_law 289 = .ok (.iadd, 1) := dk_96 (dk_at dksL_law_11 17 rfl rfl)
theorem dL_law_290 : decode cL_law 290 = .ok (.iaload, 1) := dk_46 (dk_at dksL_law_11 18 rfl rfl)
theorem dL_law_291 : decode cL_law 291 = .ok (.aload_n 0, 1) := dk_42 (dk_at dksL_law_11 19 rfl rfl)
theorem dL_law_292 : decode cL_law 292 = .ok (.iload_n 3, 1) := dk_29 (dk_at dksL_law_11 20 rfl rfl)
theorem dL_law_293 : decode cL_law 293 = .ok (.iconst 2, 1) := dk_5 (dk_at dksL_law_11 21 rfl rfl)
theorem dL_law_294 : decode cL_law 294 = .ok (.iadd, 1) := dk_96 (dk_at dksL_law_11 22 rfl rfl)
theorem dL_law_295 : decode cL_law 295 = .ok (.iaload, 1) := dk_46 (dk_at dksL_law_11 23 rfl rfl)
theorem dL_law_296 : decode cL_law 296 = .ok (.aload_n 0, 1) := dk_42 (dk_at dksL_law_12 0 rfl rfl)
theorem dL_law_297 : decode cL_law 297 = .ok (.iload_n 3, 1) := dk_29 (dk_at dksL_law_12 1 rfl rfl)
theorem dL_law_298 : decode cL_law 298 = .ok (.iconst 3, 1) := dk_6 (dk_at dksL_law_12 2 rfl rfl)
theorem dL_law_299 : decode cL_law 299 = .ok (.iadd, 1) := dk_96 (dk_at dksL_law_12 3 rfl rfl)
theorem dL_law_300 : decode cL_law 300 = .ok (.iaload, 1) := dk_46 (dk_at dksL_law_12 4 rfl rfl)
theorem dL_law_301 : decode cL_law 301 = .ok (.invokevirtual 34, 3) := dk_182 0 34 (dk_at dksL_law_12 5 rfl rfl)
theorem dL_law_304 : decode cL_law 304 = .ok (.aload_n 2, 1) := dk_44 (dk_at dksL_law_12 8 rfl rfl)
theorem dL_law_305 : decode cL_law 305 = .ok (.aload_n 0, 1) := dk_42 (dk_at dksL_law_12 9 rfl rfl)
theorem dL_law_306 : decode cL_law 306 = .ok (.iload_n 3, 1) := dk_29 (dk_at dksL_law_12 10 rfl rfl)
theorem dL_law_307 : decode cL_law 307 = .ok (.iconst 1, 1) := dk_4 (dk_at dksL_law_12 11 rfl rfl)
theorem dL_law_308 : decode cL_law 308 = .ok (.iadd, 1) := dk_96 (dk_at dksL_law_12 12 rfl rfl)
theorem dL_law_309 : decode cL_law 309 = .ok (.iaload, 1) := dk_46 (dk_at dksL_law_12 13 rfl rfl)
theorem dL_law_310 : decode cL_law 310 = .ok (.aload_n 0, 1) := dk_42 (dk_at dksL_law_12 14 rfl rfl)
theorem dL_law_311 : decode cL_law 311 = .ok (.iload_n 3, 1) := dk_29 (dk_at dksL_law_12 15 rfl rfl)
theorem dL_law_312 : decode cL_law 312 = .ok (.iconst 2, 1) := dk_5 (dk_at dksL_law_12 16 rfl rfl)
theorem dL_law_313 : decode cL_law 313 = .ok (.iadd, 1) := dk_96 (dk_at dksL_law_12 17 rfl rfl)
theorem dL_law_314 : decode cL_law 314 = .ok (.iaload, 1) := dk_46 (dk_at dksL_law_12 18 rfl rfl)
theorem dL_law_315 : decode cL_law 315 = .ok (.aload_n 0, 1) := dk_42 (dk_at dksL_law_12 19 rfl rfl)
theorem dL_law_316 : decode cL_law 316 = .ok (.iload_n 3, 1) := dk_29 (dk_at dksL_law_12 20 rfl rfl)
theorem dL_law_317 : decode cL_law 317 = .ok (.iconst 3, 1) := dk_6 (dk_at dksL_law_12 21 rfl rfl)
theorem dL_law_318 : decode cL_law 318 = .ok (.iadd, 1) := dk_96 (dk_at dksL_law_12 22 rfl rfl)
theorem dL_law_319 : decode cL_law 319 = .ok (.iaload, 1) := dk_46 (dk_at dksL_law_12 23 rfl rfl)
theorem dL_law_320 : decode cL_law 320 = .ok (.invokevirtual 37, 3) := dk_182 0 37 (dk_at dksL_law_13 0 rfl rfl)
theorem dL_law_323 : decode cL_law 323 = .ok (.goto 69, 3) := dk_167 0 69 (dk_at dksL_law_13 3 rfl rfl)
theorem dL_law_326 : decode cL_law 326 = .ok (.aload_n 1, 1) := dk_43 (dk_at dksL_law_13 6 rfl rfl)
theorem dL_law_327 : decode cL_law 327 = .ok (.aload_n 0, 1) := dk_42 (dk_at dksL_law_13 7 rfl rfl)
theorem dL_law_328 : decode cL_law 328 = .ok (.iload_n 3, 1) := dk_29 (dk_at dksL_law_13 8 rfl rfl)
theorem dL_law_329 : decode cL_law 329 = .ok (.iconst 1, 1) := dk_4 (dk_at dksL_law_13 9 rfl rfl)
theorem dL_law_330 : decode cL_law 330 = .ok (.iadd, 1) := dk_96 (dk_at dksL_law_13 10 rfl rfl)
theorem dL_law_331 : decode cL_law 331 = .ok (.iaload, 1) := dk_46 (dk_at dksL_law_13 11 rfl rfl)
theorem dL_law_332 : decode cL_law 332 = .ok (.aload_n 0, 1) := dk_42 (dk_at dksL_law_13 12 rfl rfl)
theorem dL_law_333 : decode cL_law 333 = .ok (.iload_n 3, 1) := dk_29 (dk_at dksL_law_13 13 rfl rfl)
theorem dL_law_334 : decode cL_law 334 = .ok (.iconst 2, 1) := dk_5 (dk_at dksL_law_13 14 rfl rfl)
theorem dL_law_335 : decode cL_law 335 = .ok (.iadd, 1) := dk_96 (dk_at dksL_law_13 15 rfl rfl)
theorem dL_law_336 : decode cL_law 336 = .ok (.iaload, 1) := dk_46 (dk_at dksL_law_13 16 rfl rfl)
theorem dL_law_337 : decode cL_law 337 = .ok (.invokevirtual 38, 3) := dk_182 0 38 (dk_at dksL_law_13 17 rfl rfl)
theorem dL_law_340 : decode cL_law 340 = .ok (.aload_n 2, 1) := dk_44 (dk_at dksL_law_13 20 rfl rfl)
theorem dL_law_341 : decode cL_law 341 = .ok (.aload_n 0, 1) := dk_42 (dk_at dksL_law_13 21 rfl rfl)
theorem dL_law_342 : decode cL_law 342 = .ok (.iload_n 3, 1) := dk_29 (dk_at dksL_law_13 22 rfl rfl)
theorem dL_law_343 : decode cL_law 343 = .ok (.iconst 1, 1) := dk_4 (dk_at dksL_law_13 23 rfl rfl)
theorem dL_law_344 : decode cL_law 344 = .ok (.iadd, 1) := dk_96 (dk_at dksL_law_14 0 rfl rfl)
theorem dL_law_345 : decode cL_law 345 = .ok (.iaload, 1) := dk_46 (dk_at dksL_law_14 1 rfl rfl)
theorem dL_law_346 : decode cL_law 346 = .ok (.aload_n 0, 1) := dk_42 (dk_at dksL_law_14 2 rfl rfl)
theorem dL_law_347 : decode cL_law 347 = .ok (.iload_n 3, 1) := dk_29 (dk_at dksL_law_14 3 rfl rfl)
theorem dL_law_348 : decode cL_law 348 = .ok (.iconst 2, 1) := dk_5 (dk_at dksL_law_14 4 rfl rfl)
theorem dL_law_349 : decode cL_law 349 = .ok (.iadd, 1) := dk_96 (dk_at dksL_law_14 5 rfl rfl)
theorem dL_law_350 : decode cL_law 350 = .ok (.iaload, 1) := dk_46 (dk_at dksL_law_14 6 rfl rfl)
theorem dL_law_351 : decode cL_law 351 = .ok (.invokevirtual 41, 3) := dk_182 0 41 (dk_at dksL_law_14 7 rfl rfl)
theorem dL_law_354 : decode cL_law 354 = .ok (.if_icmp .eq 38, 3) := dk_159 0 38 (dk_at dksL_law_14 10 rfl rfl)
theorem dL_law_357 : decode cL_law 357 = .ok (.iconst 0, 1) := dk_3 (dk_at dksL_law_14 13 rfl rfl)
theorem dL_law_358 : decode cL_law 358 = .ok (.ireturn, 1) := dk_172 (dk_at dksL_law_14 14 rfl rfl)
theorem dL_law_359 : decode cL_law 359 = .ok (.aload_n 1, 1) := dk_43 (dk_at dksL_law_14 15 rfl rfl)
theorem dL_law_360 : decode cL_law 360 = .ok (.aload_n 0, 1) := dk_42 (dk_at dksL_law_14 16 rfl rfl)
theorem dL_law_361 : decode cL_law 361 = .ok (.iload_n 3, 1) := dk_29 (dk_at dksL_law_14 17 rfl rfl)
theorem dL_law_362 : decode cL_law 362 = .ok (.iconst 1, 1) := dk_4 (dk_at dksL_law_14 18 rfl rfl)
theorem dL_law_363 : decode cL_law 363 = .ok (.iadd, 1) := dk_96 (dk_at dksL_law_14 19 rfl rfl)
theorem dL_law_364 : decode cL_law 364 = .ok (.iaload, 1) := dk_46 (dk_at dksL_law_14 20 rfl rfl)
theorem dL_law_365 : decode cL_law 365 = .ok (.aload_n 0, 1) := dk_42 (dk_at dksL_law_14 21 rfl rfl)
theorem dL_law_366 : decode cL_law 366 = .ok (.iload_n 3, 1) := dk_29 (dk_at dksL_law_14 22 rfl rfl)
theorem dL_law_367 : decode cL_law 367 = .ok (.iconst 2, 1) := dk_5 (dk_at dksL_law_14 23 rfl rfl)
theorem dL_law_368 : decode cL_law 368 = .ok (.iadd, 1) := dk_96 (dk_at dksL_law_15 0 rfl rfl)
theorem dL_law_369 : decode cL_law 369 = .ok (.iaload, 1) := dk_46 (dk_at dksL_law_15 1 rfl rfl)
theorem dL_law_370 : decode cL_law 370 = .ok (.invokevirtual 42, 3) := dk_182 0 42 (dk_at dksL_law_15 2 rfl rfl)
theorem dL_law_373 : decode cL_law 373 = .ok (.aload_n 2, 1) := dk_44 (dk_at dksL_law_15 5 rfl rfl)
theorem dL_law_374 : decode cL_law 374 = .ok (.aload_n 0, 1) := dk_42 (dk_at dksL_law_15 6 rfl rfl)
theorem dL_law_375 : decode cL_law 375 = .ok (.iload_n 3, 1) := dk_29 (dk_at dksL_law_15 7 rfl rfl)
theorem dL_law_376 : decode cL_law 376 = .ok (.iconst 1, 1) := dk_4 (dk_at dksL_law_15 8 rfl rfl)
theorem dL_law_377 : decode cL_law 377 = .ok (.iadd, 1) := dk_96 (dk_at dksL_law_15 9 rfl rfl)
theorem dL_law_378 : decode cL_law 378 = .ok (.iaload, 1) := dk_46 (dk_at dksL_law_15 10 rfl rfl)
theorem dL_law_379 : decode cL_law 379 = .ok (.aload_n 0, 1) := dk_42 (dk_at dksL_law_15 11 rfl rfl)
theorem dL_law_380 : decode cL_law 380 = .ok (.iload_n 3, 1) := dk_29 (dk_at dksL_law_15 12 rfl rfl)
theorem dL_law_381 : decode cL_law 381 = .ok (.iconst 2, 1) := dk_5 (dk_at dksL_law_15 13 rfl rfl)
theorem dL_law_382 : decode cL_law 382 = .ok (.iadd, 1) := dk_96 (dk_at dksL_law_15 14 rfl rfl)
theorem dL_law_383 : decode cL_law 383 = .ok (.iaload, 1) := dk_46 (dk_at dksL_law_15 15 rfl rfl)
theorem dL_law_384 : decode cL_law 384 = .ok (.invokevirtual 44, 3) := dk_182 0 44 (dk_at dksL_law_15 16 rfl rfl)
theorem dL_law_387 : decode cL_law 387 = .ok (.if_icmp .eq 5, 3) := dk_159 0 5 (dk_at dksL_law_15 19 rfl rfl)
theorem dL_law_390 : decode cL_law 390 = .ok (.iconst 0, 1) := dk_3 (dk_at dksL_law_15 22 rfl rfl)
theorem dL_law_391 : decode cL_law 391 = .ok (.ireturn, 1) := dk_172 (dk_at dksL_law_15 23 rfl rfl)
theorem dL_law_392 : decode cL_law 392 = .ok (.iinc 3 6, 3) := dk_132 3 6 (dk_at dksL_law_16 0 rfl rfl)
theorem dL_law_395 : decode cL_law 395 = .ok (.goto (-377), 3) := dk_167 254 135 (dk_at dksL_law_16 3 rfl rfl)
theorem dL_law_398 : decode cL_law 398 = .ok (.iconst 1, 1) := dk_4 (dk_at dksL_law_16 6 rfl rfl)
theorem dL_law_399 : decode cL_law 399 = .ok (.ireturn, 1) := dk_172 (dk_at dksL_law_16 7 rfl rfl)
theorem q1 : (Jvm.Cond.initialized "NtruRingLaw") ∈ lw_all := lw_g (lw_at lw_m0 0 rfl) rfl
set_option maxRecDepth 100000
theorem q9 : (Jvm.Cond.classLink "NtruRingLaw" (7 : Nat) "NtruRing") ∈ lw_all := lw_g (lw_at lw_m0 8 rfl) rfl
theorem q11 : (Jvm.Cond.methodLink "NtruRingLaw" (9 : Nat) ({ cls := "NtruRing", name := "<init>", desc := "()V" } : Jvm.MethodName)) ∈ lw_all := lw_g (lw_at lw_m0 10 rfl) rfl
theorem q80 : (Jvm.Cond.methodLink "NtruRingLaw" (13 : Nat) ({ cls := "NtruRing", name := "wide", desc := "(III)V" } : Jvm.MethodName)) ∈ lw_all := lw_g (lw_at lw_m0 79 rfl) rfl
theorem q88 : (Jvm.Cond.methodLink "NtruRingLaw" (18 : Nat) ({ cls := "NtruRing", name := "small", desc := "(III)V" } : Jvm.MethodName)) ∈ lw_all := lw_g (lw_at lw_m0 87 rfl) rfl
theorem q92 : (Jvm.Cond.methodLink "NtruRingLaw" (22 : Nat) ({ cls := "NtruRing", name := "spread", desc := "(III)V" } : Jvm.MethodName)) ∈ lw_all := lw_g (lw_at lw_m0 91 rfl) rfl
theorem q96 : (Jvm.Cond.methodLink "NtruRingLaw" (26 : Nat) ({ cls := "NtruRing", name := "times", desc := "(III)V" } : Jvm.MethodName)) ∈ lw_all := lw_g (lw_at lw_m0 95 rfl) rfl
theorem q112 : (Jvm.Cond.methodLink "NtruRingLaw" (30 : Nat) ({ cls := "NtruRing", name := "timesPhi", desc := "(III)V" } : Jvm.MethodName)) ∈ lw_all := lw_g (lw_at lw_m0 111 rfl) rfl
theorem q127 : (Jvm.Cond.methodLink "NtruRingLaw" (34 : Nat) ({ cls := "NtruRing", name := "timesThree", desc := "(III)V" } : Jvm.MethodName)) ∈ lw_all := lw_g (lw_at lw_m0 126 rfl) rfl
theorem q145 : (Jvm.Cond.methodLink "NtruRingLaw" (38 : Nat) ({ cls := "NtruRing", name := "wide", desc := "(II)I" } : Jvm.MethodName)) ∈ lw_all := lw_g (lw_at lw_m0 144 rfl) rfl
theorem q149 : (Jvm.Cond.methodLink "NtruRingLaw" (42 : Nat) ({ cls := "NtruRing", name := "small", desc := "(II)I" } : Jvm.MethodName)) ∈ lw_all := lw_g (lw_at lw_m0 148 rfl) rfl
theorem q153 : (Jvm.Cond.classLink "NtruRingLaw" (10 : Nat) "NtruRingModel") ∈ lw_all := lw_g (lw_at lw_m0 152 rfl) rfl
theorem q155 : (Jvm.Cond.methodLink "NtruRingLaw" (12 : Nat) ({ cls := "NtruRingModel", name := "<init>", desc := "()V" } : Jvm.MethodName)) ∈ lw_all := lw_g (lw_at lw_m0 154 rfl) rfl
theorem q169 : (Jvm.Cond.methodLink "NtruRingLaw" (17 : Nat) ({ cls := "NtruRingModel", name := "wide", desc := "(III)V" } : Jvm.MethodName)) ∈ lw_all := lw_g (lw_at lw_m0 168 rfl) rfl
theorem q180 : (Jvm.Cond.methodLink "NtruRingLaw" (21 : Nat) ({ cls := "NtruRingModel", name := "small", desc := "(III)V" } : Jvm.MethodName)) ∈ lw_all := lw_g (lw_at lw_m0 179 rfl) rfl
theorem q184 : (Jvm.Cond.methodLink "NtruRingLaw" (25 : Nat) ({ cls := "NtruRingModel", name := "spread", desc := "(III)V" } : Jvm.MethodName)) ∈ lw_all := lw_g (lw_at lw_m0 183 rfl) rfl
theorem q188 : (Jvm.Cond.methodLink "NtruRingLaw" (29 : Nat) ({ cls := "NtruRingModel", name := "times", desc := "(III)V" } : Jvm.MethodName)) ∈ lw_all := lw_g (lw_at lw_m0 187 rfl) rfl
theorem q196 : (Jvm.Cond.methodLink "NtruRingLaw" (33 : Nat) ({ cls := "NtruRingModel", name := "timesPhi", desc := "(III)V" } : Jvm.MethodName)) ∈ lw_all := lw_g (lw_at lw_m0 195 rfl) rfl
theorem q200 : (Jvm.Cond.methodLink "NtruRingLaw" (37 : Nat) ({ cls := "NtruRingModel", name := "timesThree", desc := "(III)V" } : Jvm.MethodName)) ∈ lw_all := lw_g (lw_at lw_m0 199 rfl) rfl
theorem q204 : (Jvm.Cond.methodLink "NtruRingLaw" (41 : Nat) ({ cls := "NtruRingModel", name := "wide", desc := "(II)I" } : Jvm.MethodName)) ∈ lw_all := lw_g (lw_at lw_m0 203 rfl) rfl
theorem q208 : (Jvm.Cond.methodLink "NtruRingLaw" (44 : Nat) ({ cls := "NtruRingModel", name := "small", desc := "(II)I" } : Jvm.MethodName)) ∈ lw_all := lw_g (lw_at lw_m0 207 rfl) rfl
theorem q18 : (Jvm.Cond.arrayOver (Jvm.ClassFile.FieldType.object "Polynomial")) ∈ lw_tbl := lw_at lw_m0 17 rfl
set_option maxRecDepth 100000
theorem q72 : (Jvm.Cond.arrayClass Jvm.ClassFile.FieldType.short) ∈ lw_all := lw_g (lw_at lw_m0 71 rfl) rfl
theorem q111 : (Jvm.Cond.arrayClass Jvm.ClassFile.FieldType.int) ∈ lw_all := lw_g (lw_at lw_m0 110 rfl) rfl
end
section
/-! ===== PURE: sums and products of sequences over Int32 ===== -/
def nt_sm : Nat → (Nat → Int32) → Int32
  | 0, _ => 0
  | n + 1, t => nt_sm n t + t n
theorem nt_sm_s (n : Nat) (t : Nat → Int32) : nt_sm (n + 1) t = nt_sm n t + t n := rfl
theorem nt_sm_congr (n : Nat) {t u : Nat → Int32} (h : ∀ i, i < n → t i = u i) : nt_sm n t = nt_sm n u := by
  induction n with
  | zero => rfl
  | succ n ih => rw [nt_sm_s, nt_sm_s, ih (fun i hi => h i (Nat.lt_succ_of_lt hi)), h n (Nat.lt_succ_self n)]
theorem nt_sm_add (n : Nat) (t u : Nat → Int32) : nt_sm n (fun i => t i + u i) = nt_sm n t + nt_sm n u := by
  induction n with
  | zero => exact (Int32.add_zero 0).symm
  | succ n ih =>
    rw [nt_sm_s, nt_sm_s, nt_sm_s, ih]
    grind
theorem nt_sm_0 (n : Nat) {t : Nat → Int32} (h : ∀ i, i < n → t i = 0) : nt_sm n t = 0 := by
  induction n with
  | zero => rfl
  | succ n ih => rw [nt_sm_s, ih (fun i hi => h i (Nat.lt_succ_of_lt hi)), h n (Nat.lt_succ_self n), Int32.add_zero]
theorem nt_sm_ext (n k : Nat) {t : Nat → Int32} (h : ∀ i, n ≤ i → i < n + k → t i = 0) : nt_sm (n + k) t = nt_sm n t := by
  induction k with
  | zero => rfl
  | succ k ih =>
    have e : nt_sm (n + (k + 1)) t = nt_sm (n + k) t + t (n + k) := rfl
    rw [e, ih (fun i h1 h2 => h i h1 (by omega)), h (n + k) (by omega) (by omega), Int32.add_zero]
theorem nt_sm_split (n k : Nat) (t : Nat → Int32) : nt_sm (n + k) t = nt_sm n t + nt_sm k (fun i => t (n + i)) := by
  induction k with
  | zero => exact (Int32.add_zero (nt_sm n t)).symm
  | succ k ih =>
    have e : nt_sm (n + (k + 1)) t = nt_sm (n + k) t + t (n + k) := rfl
    have e2 : nt_sm (k + 1) (fun i => t (n + i)) = nt_sm k (fun i => t (n + i)) + t (n + k) := rfl
    rw [e, e2, ih]
    grind
/-- the product of two sequences at place j -/
def nt_pc (P Q : Nat → Int32) (j : Nat) : Int32 := nt_sm (j + 1) (fun i => P i * Q (j - i))
theorem nt_pc_aL (P P' Q : Nat → Int32) (j : Nat) : nt_pc (fun i => P i + P' i) Q j = nt_pc P Q j + nt_pc P' Q j := by
  unfold nt_pc
  rw [← nt_sm_add]
  refine nt_sm_congr _ (fun i _ => ?_)
  show (P i + P' i) * Q (j - i) = P i * Q (j - i) + P' i * Q (j - i)
  grind
theorem nt_pc_aR (P Q Q' : Nat → Int32) (j : Nat) : nt_pc P (fun i => Q i + Q' i) j = nt_pc P Q j + nt_pc P Q' j := by
  unfold nt_pc
  rw [← nt_sm_add]
  refine nt_sm_congr _ (fun i _ => ?_)
  show P i * (Q (j - i) + Q' (j - i)) = P i * Q (j - i) + P i * Q' (j - i)
  grind
def nt_sh (m : Nat) (P : Nat → Int32) : Nat → Int32 := fun i => if m ≤ i then P (i - m) else 0
theorem nt_sh_lt {m i : Nat} {P : Nat → Int32} (h : i < m) : nt_sh m P i = 0 := if_neg (Nat.not_le.mpr h)
theorem nt_sh_ge {m i : Nat} {P : Nat → Int32} (h : m ≤ i) : nt_sh m P i = P (i - m) := if_pos h
theorem nt_pc_sL (m : Nat) (P Q : Nat → Int32) (j : Nat) : nt_pc (nt_sh m P) Q j = nt_sh m (nt_pc P Q) j := by
  by_cases h : m ≤ j
  · rw [nt_sh_ge h]
    unfold nt_pc
    have e0 : nt_sm (j + 1) (fun i => nt_sh m P i * Q (j - i)) = nt_sm (m + (j - m + 1)) (fun i => nt_sh m P i * Q (j - i)) := by
      rw [show m + (j - m + 1) = j + 1 by omega]
    have e1 : nt_sm m (fun i => nt_sh m P i * Q (j - i)) = 0 := nt_sm_0 m (fun i hi => by
      show nt_sh m P i * Q (j - i) = 0
      rw [nt_sh_lt hi, Int32.zero_mul])
    rw [e0, nt_sm_split, e1, Int32.zero_add]
    refine nt_sm_congr _ (fun i hi => ?_)
    show nt_sh m P (m + i) * Q (j - (m + i)) = P i * Q (j - m - i)
    rw [nt_sh_ge (Nat.le_add_right m i), show m + i - m = i by omega, show j - (m + i) = j - m - i by omega]
  · rw [nt_sh_lt (show j < m by omega)]
    unfold nt_pc
    refine nt_sm_0 _ (fun i hi => ?_)
    show nt_sh m P i * Q (j - i) = 0
    rw [nt_sh_lt (show i < m by omega), Int32.zero_mul]
theorem nt_pc_sR (m : Nat) (P Q : Nat → Int32) (j : Nat) : nt_pc P (nt_sh m Q) j = nt_sh m (nt_pc P Q) j := by
  by_cases h : m ≤ j
  · rw [nt_sh_ge h]
    unfold nt_pc
    have e1 : nt_sm (j - m + 1 + m) (fun i => P i * nt_sh m Q (j - i)) = nt_sm (j - m + 1) (fun i => P i * nt_sh m Q (j - i)) := nt_sm_ext _ _ (fun i h1 h2 => by
      show P i * nt_sh m Q (j - i) = 0
      rw [nt_sh_lt (show j - i < m by omega), Int32.mul_zero])
    rw [show j - m + 1 + m = j + 1 by omega] at e1
    rw [e1]
    refine nt_sm_congr _ (fun i hi => ?_)
    show P i * nt_sh m Q (j - i) = P i * Q (j - m - i)
    rw [nt_sh_ge (show m ≤ j - i by omega), show j - i - m = j - m - i by omega]
  · rw [nt_sh_lt (show j < m by omega)]
    unfold nt_pc
    refine nt_sm_0 _ (fun i hi => ?_)
    show P i * nt_sh m Q (j - i) = 0
    rw [nt_sh_lt (show j - i < m by omega), Int32.mul_zero]
/-- Karatsuba's identity -/
theorem nt_kara (A0 A1 B0 B1 : Nat → Int32) (m j : Nat) :
    nt_pc (fun i => A0 i + nt_sh m A1 i) (fun i => B0 i + nt_sh m B1 i) j = nt_pc A0 B0 j + nt_sh m (fun k => nt_pc (fun i => A0 i + A1 i) (fun i => B0 i + B1 i) k - nt_pc A0 B0 k - nt_pc A1 B1 k) j + nt_sh m (nt_sh m (nt_pc A1 B1)) j := by
  have e1 : ∀ k, nt_pc (fun i => A0 i + A1 i) (fun i => B0 i + B1 i) k = nt_pc A0 B0 k + nt_pc A0 B1 k + (nt_pc A1 B0 k + nt_pc A1 B1 k) := fun k => by
    rw [nt_pc_aL A0 A1 _ k, nt_pc_aR A0 B0 B1 k, nt_pc_aR A1 B0 B1 k]
  have e2 : nt_pc A1 (nt_sh m B1) = nt_sh m (nt_pc A1 B1) := funext (nt_pc_sR m A1 B1)
  rw [nt_pc_aL A0 (nt_sh m A1) _ j, nt_pc_aR A0 B0 (nt_sh m B1) j, nt_pc_aR (nt_sh m A1) B0 (nt_sh m B1) j, nt_pc_sR m A0 B1 j, nt_pc_sL m A1 B0 j, nt_pc_sL m A1 (nt_sh m B1) j, e2]
  by_cases h : m ≤ j
  · rw [nt_sh_ge (P := nt_pc A0 B1) h, nt_sh_ge (P := nt_pc A1 B0) h, nt_sh_ge (P := nt_sh m (nt_pc A1 B1)) h, nt_sh_ge (P := fun k => nt_pc (fun i => A0 i + A1 i) (fun i => B0 i + B1 i) k - nt_pc A0 B0 k - nt_pc A1 B1 k) h]
    show _ = _ + (nt_pc (fun i => A0 i + A1 i) (fun i => B0 i + B1 i) (j - m) - nt_pc A0 B0 (j - m) - nt_pc A1 B1 (j - m)) + _
    rw [e1 (j - m)]
    generalize nt_pc A0 B0 j = a1
    generalize nt_pc A0 B1 (j - m) = a2
    generalize nt_pc A1 B0 (j - m) = a3
    generalize nt_sh m (nt_pc A1 B1) (j - m) = a4
    generalize nt_pc A0 B0 (j - m) = a5
    generalize nt_pc A1 B1 (j - m) = a6
    grind
  · have h' : j < m := by omega
    rw [nt_sh_lt (P := nt_pc A0 B1) h', nt_sh_lt (P := nt_pc A1 B0) h', nt_sh_lt (P := nt_sh m (nt_pc A1 B1)) h', nt_sh_lt (P := fun k => nt_pc (fun i => A0 i + A1 i) (fun i => B0 i + B1 i) k - nt_pc A0 B0 k - nt_pc A1 B1 k) h']
    generalize nt_pc A0 B0 j = a1
    grind
theorem nt_pc_van {P Q : Nat → Int32} {n k j : Nat} (hP : ∀ i, n ≤ i → P i = 0) (hQ : ∀ i, k ≤ i → Q i = 0) (h : n + k ≤ j + 1) : nt_pc P Q j = 0 := by
  unfold nt_pc
  refine nt_sm_0 _ (fun i hi => ?_)
  show P i * Q (j - i) = 0
  by_cases g : n ≤ i
  · rw [hP i g, Int32.zero_mul]
  · rw [hQ (j - i) (by omega), Int32.mul_zero]
theorem nt_pc_to {P : Nat → Int32} (Q : Nat → Int32) {n : Nat} (hP : ∀ i, n ≤ i → P i = 0) (j : Nat) : nt_pc P Q j = nt_sm n (fun i => if i ≤ j then P i * Q (j - i) else 0) := by
  have e1 : nt_sm (n + (j + 1)) (fun i => if i ≤ j then P i * Q (j - i) else 0) = nt_sm n (fun i => if i ≤ j then P i * Q (j - i) else 0) := nt_sm_ext _ _ (fun i h1 _ => by
    show (if i ≤ j then P i * Q (j - i) else 0) = 0
    rw [hP i h1, Int32.zero_mul]
    split <;> rfl)
  have e2 : nt_sm (j + 1 + n) (fun i => if i ≤ j then P i * Q (j - i) else 0) = nt_sm (j + 1) (fun i => if i ≤ j then P i * Q (j - i) else 0) := nt_sm_ext _ _ (fun i h1 _ => by
    show (if i ≤ j then P i * Q (j - i) else 0) = 0
    rw [if_neg (show ¬ i ≤ j by omega)])
  rw [← e1, Nat.add_comm n, e2]
  unfold nt_pc
  refine nt_sm_congr _ (fun i hi => ?_)
  show P i * Q (j - i) = if i ≤ j then P i * Q (j - i) else 0
  rw [if_pos (show i ≤ j by omega)]
/-- len places of g from off on, zero behind them -/
def nt_sl (g : Nat → Int32) (off len : Nat) : Nat → Int32 := fun i => if i < len then g (off + i) else 0
theorem nt_sl_lt {g : Nat → Int32} {off len i : Nat} (h : i < len) : nt_sl g off len i = g (off + i) := if_pos h
theorem nt_sl_ge {g : Nat → Int32} {off len i : Nat} (h : len ≤ i) : nt_sl g off len i = 0 := if_neg (Nat.not_lt.mpr h)
theorem nt_sl_congr {g g' : Nat → Int32} {off off' len : Nat} (h : ∀ i, i < len → g (off + i) = g' (off' + i)) : nt_sl g off len = nt_sl g' off' len := by
  funext i
  by_cases hi : i < len
  · rw [nt_sl_lt hi, nt_sl_lt hi, h i hi]
  · rw [nt_sl_ge (show len ≤ i by omega), nt_sl_ge (show len ≤ i by omega)]
theorem nt_sl_two (g : Nat → Int32) (off m h : Nat) : nt_sl g off (m + h) = fun i => nt_sl g off m i + nt_sh m (nt_sl g (off + m) h) i := by
  funext i
  by_cases h1 : i < m
  · rw [nt_sl_lt (show i < m + h by omega), nt_sl_lt h1, nt_sh_lt h1, Int32.add_zero]
  · rw [nt_sl_ge (show m ≤ i by omega), nt_sh_ge (show m ≤ i by omega), Int32.zero_add]
    by_cases h2 : i < m + h
    · rw [nt_sl_lt h2, nt_sl_lt (show i - m < h by omega), show off + m + (i - m) = off + i by omega]
    · rw [nt_sl_ge (show m + h ≤ i by omega), nt_sl_ge (show h ≤ i - m by omega)]
/-! ===== the memory of the int arrays ===== -/
abbrev nt_M : Type := Nat → Nat → Int32
def nt_st (M : nt_M) (a i : Nat) (v : Int32) : nt_M := fun q j => if q = a ∧ j = i then v else M q j
/-- n places of the array a from off on are written -/
def nt_wr (M : nt_M) (a off n : Nat) (new : Nat → Int32) : nt_M := fun q j => if q = a ∧ off ≤ j ∧ j < off + n then new (j - off) else M q j
theorem nt_wr_out {M : nt_M} {a off n : Nat} {new : Nat → Int32} {q j : Nat} (h : ¬ (q = a ∧ off ≤ j ∧ j < off + n)) : nt_wr M a off n new q j = M q j := if_neg h
theorem nt_wr_in {M : nt_M} {a off n : Nat} {new : Nat → Int32} {j : Nat} (h1 : off ≤ j) (h2 : j < off + n) : nt_wr M a off n new a j = new (j - off) := if_pos ⟨rfl, h1, h2⟩
theorem nt_wr_at {M : nt_M} {a off n : Nat} {new : Nat → Int32} {j : Nat} (h : j < n) : nt_wr M a off n new a (off + j) = new j := by
  rw [nt_wr_in (Nat.le_add_right off j) (by omega), show off + j - off = j by omega]
theorem nt_wr_0 (M : nt_M) (a off : Nat) (new : Nat → Int32) : nt_wr M a off 0 new = M := by
  funext q j
  exact nt_wr_out (by omega)
theorem nt_wr_s (M : nt_M) (a off n : Nat) (new : Nat → Int32) {v : Int32} (hv : v = new n) : nt_st (nt_wr M a off n new) a (off + n) v = nt_wr M a off (n + 1) new := by
  funext q j
  by_cases h : q = a ∧ j = off + n
  · obtain ⟨rfl, rfl⟩ := h
    rw [nt_wr_at (Nat.lt_succ_self n), hv]
    exact if_pos ⟨rfl, rfl⟩
  · have e : nt_st (nt_wr M a off n new) a (off + n) v q j = nt_wr M a off n new q j := if_neg h
    rw [e]
    unfold nt_wr
    by_cases g : q = a ∧ off ≤ j ∧ j < off + n
    · rw [if_pos g, if_pos (show q = a ∧ off ≤ j ∧ j < off + (n + 1) by omega)]
    · rw [if_neg g, if_neg (show ¬ (q = a ∧ off ≤ j ∧ j < off + (n + 1)) by omega)]
/-- one place of a written block is written again -/
theorem nt_wr_u (M : nt_M) (a off n k : Nat) {new new' : Nat → Int32} {v : Int32} (hk : k < n) (h1 : new' k = v) (h2 : ∀ j, j ≠ k → new' j = new j) : nt_st (nt_wr M a off n new) a (off + k) v = nt_wr M a off n new' := by
  funext q j
  by_cases h : q = a ∧ j = off + k
  · obtain ⟨rfl, rfl⟩ := h
    rw [nt_wr_at hk, h1]
    exact if_pos ⟨rfl, rfl⟩
  · have e : nt_st (nt_wr M a off n new) a (off + k) v q j = nt_wr M a off n new q j := if_neg h
    rw [e]
    unfold nt_wr
    by_cases g : q = a ∧ off ≤ j ∧ j < off + n
    · rw [if_pos g, if_pos g, h2 (j - off) (by omega)]
    · rw [if_neg g, if_neg g]
/-- a write at one block passes another -/
theorem nt_st_wr (M : nt_M) (a i b off n : Nat) (new : Nat → Int32) (v : Int32) (h : ¬ (a = b ∧ off ≤ i ∧ i < off + n)) : nt_st (nt_wr M b off n new) a i v = nt_wr (nt_st M a i v) b off n new := by
  funext q j
  by_cases h1 : q = a ∧ j = i
  · have e1 : nt_st (nt_wr M b off n new) a i v q j = v := if_pos h1
    have e2 : nt_wr (nt_st M a i v) b off n new q j = nt_st M a i v q j := nt_wr_out (by rw [h1.1, h1.2]; exact h)
    have e3 : nt_st M a i v q j = v := if_pos h1
    rw [e1, e2, e3]
  · have e1 : nt_st (nt_wr M b off n new) a i v q j = nt_wr M b off n new q j := if_neg h1
    have e3 : nt_st M a i v q j = M q j := if_neg h1
    rw [e1]
    unfold nt_wr
    by_cases g : q = b ∧ off ≤ j ∧ j < off + n
    · rw [if_pos g, if_pos g]
    · rw [if_neg g, if_neg g, e3]
/-! the base case's accumulation: i rows whole, j places of row i -/
def nt_ac (A B : Nat → Int32) (i j : Nat) : Nat → Int32 := fun k => nt_sm i (fun u => if u ≤ k then A u * B (k - u) else 0) + (if i ≤ k ∧ k < i + j then A i * B (k - i) else 0)
theorem nt_ac_0 (A B : Nat → Int32) : nt_ac A B 0 0 = fun _ => 0 := by
  funext k
  show (0 : Int32) + (if 0 ≤ k ∧ k < 0 + 0 then A 0 * B (k - 0) else 0) = 0
  rw [if_neg (by omega), Int32.add_zero]
theorem nt_ac_j (A B : Nat → Int32) (i j : Nat) : nt_ac A B i (j + 1) (i + j) = nt_ac A B i j (i + j) + A i * B j := by
  unfold nt_ac
  rw [if_pos (show i ≤ i + j ∧ i + j < i + (j + 1) by omega), if_neg (show ¬ (i ≤ i + j ∧ i + j < i + j) by omega), show i + j - i = j by omega, Int32.add_zero]
theorem nt_ac_j2 (A B : Nat → Int32) (i j k : Nat) (h : k ≠ i + j) : nt_ac A B i (j + 1) k = nt_ac A B i j k := by
  unfold nt_ac
  by_cases g : i ≤ k ∧ k < i + j
  · rw [if_pos g, if_pos (show i ≤ k ∧ k < i + (j + 1) by omega)]
  · rw [if_neg g, if_neg (show ¬ (i ≤ k ∧ k < i + (j + 1)) by omega)]
theorem nt_ac_i (A B : Nat → Int32) (i len : Nat) (hB : ∀ u, len ≤ u → B u = 0) : nt_ac A B i len = nt_ac A B (i + 1) 0 := by
  funext k
  unfold nt_ac
  rw [if_neg (show ¬ (i + 1 ≤ k ∧ k < i + 1 + 0) by omega), Int32.add_zero, nt_sm_s]
  by_cases h : i ≤ k
  · rw [if_pos h]
    by_cases g : k < i + len
    · rw [if_pos ⟨h, g⟩]
    · rw [if_neg (show ¬ (i ≤ k ∧ k < i + len) by omega), hB (k - i) (by omega), Int32.mul_zero]
  · rw [if_neg h, if_neg (show ¬ (i ≤ k ∧ k < i + len) by omega)]
theorem nt_ac_n (g : Nat → Int32) (B : Nat → Int32) (off len k : Nat) : nt_ac (fun u => g (off + u)) B len 0 k = nt_pc (nt_sl g off len) B k := by
  unfold nt_ac
  rw [if_neg (show ¬ (len ≤ k ∧ k < len + 0) by omega), Int32.add_zero, nt_pc_to B (n := len) (fun i h => nt_sl_ge h) k]
  refine nt_sm_congr _ (fun i hi => ?_)
  show (if i ≤ k then g (off + i) * B (k - i) else 0) = (if i ≤ k then nt_sl g off len i * B (k - i) else 0)
  rw [nt_sl_lt hi]
/-! ===== kMul: what it does to the memory ===== -/
/-- two blocks are apart -/
def nt_dis (a o n b p k : Nat) : Prop := a ≠ b ∨ o + n ≤ p ∨ p + k ≤ o
/-- ul = 2 * len - 1 places of the product, from rOff on; tOff: 9 * len places of scratch -/
def nt_KS (r rOff ul a aOff b bOff len t tOff : Nat) (M M' : nt_M) : Prop :=
  (∀ j, j < ul → M' r (rOff + j) = nt_pc (nt_sl (M a) aOff len) (nt_sl (M b) bOff len) j) ∧
  ∀ q j, ¬ (q = r ∧ rOff ≤ j ∧ j < rOff + ul) → ¬ (q = t ∧ tOff ≤ j ∧ j < tOff + 9 * len) → M' q j = M q j
theorem nt_KS_base {r rOff ul a aOff b bOff len t tOff : Nat} {M : nt_M} : nt_KS r rOff ul a aOff b bOff len t tOff M (nt_wr M r rOff ul (nt_ac (fun u => M a (aOff + u)) (nt_sl (M b) bOff len) len 0)) := by
  refine ⟨fun j hj => ?_, fun q j h1 _ => nt_wr_out h1⟩
  rw [nt_wr_at hj, nt_ac_n]
/-! ===== small numbers: sums in Nat ===== -/
def nt_sN : Nat → (Nat → Nat) → Nat
  | 0, _ => 0
  | n + 1, t => nt_sN n t + t n
theorem nt_sN_s (n : Nat) (t : Nat → Nat) : nt_sN (n + 1) t = nt_sN n t + t n := rfl
theorem nt_sN_congr (n : Nat) {t u : Nat → Nat} (h : ∀ i, i < n → t i = u i) : nt_sN n t = nt_sN n u := by
  induction n with
  | zero => rfl
  | succ n ih => rw [nt_sN_s, nt_sN_s, ih (fun i hi => h i (Nat.lt_succ_of_lt hi)), h n (Nat.lt_succ_self n)]
theorem nt_sN_I (n : Nat) (t : Nat → Nat) : nt_sm n (fun i => nI (t i)) = nI (nt_sN n t) := by
  induction n with
  | zero => exact nI_0.symm
  | succ n ih => rw [nt_sm_s, nt_sN_s, ih, nI_add]
theorem nt_sN_le (n c : Nat) {t : Nat → Nat} (h : ∀ i, i < n → t i ≤ c) : nt_sN n t ≤ n * c := by
  induction n with
  | zero => exact Nat.zero_le _
  | succ n ih =>
    rw [nt_sN_s, Nat.succ_mul]
    exact Nat.add_le_add (ih (fun i hi => h i (Nat.lt_succ_of_lt hi))) (h n (Nat.lt_succ_self n))
/-- the product of two rows of 509, the power 509 counting as the power 0 -/
def nt_cN (A B : Nat → Nat) (k : Nat) : Nat := nt_sN 509 (fun i => A i * B ((k + 509 - i) % 509))
theorem nt_cN_le {A B : Nat → Nat} {c : Nat} (hA : ∀ i, i < 509 → A i ≤ c) (hB : ∀ i, i < 509 → B i ≤ c) (k : Nat) : nt_cN A B k ≤ 509 * (c * c) :=
  nt_sN_le 509 (c * c) (fun i hi => Nat.mul_le_mul (hA i hi) (hB _ (Nat.mod_lt _ (by decide))))
theorem nt_cy {ga gb : Nat → Int32} {A B : Nat → Nat} (hA : ∀ i, i < 509 → ga i = nI (A i)) (hB : ∀ i, i < 509 → gb i = nI (B i)) {k : Nat} (hk : k < 509) :
    nt_pc (nt_sl ga 0 509) (nt_sl gb 0 509) k + nt_pc (nt_sl ga 0 509) (nt_sl gb 0 509) (k + 509) = nI (nt_cN A B k) := by
  have z : ∀ i, 509 ≤ i → nt_sl ga 0 509 i = 0 := fun i h => nt_sl_ge h
  rw [nt_pc_to _ z k, nt_pc_to _ z (k + 509), ← nt_sm_add]
  unfold nt_cN
  rw [← nt_sN_I]
  refine nt_sm_congr _ (fun i hi => ?_)
  show (if i ≤ k then nt_sl ga 0 509 i * nt_sl gb 0 509 (k - i) else 0) + (if i ≤ k + 509 then nt_sl ga 0 509 i * nt_sl gb 0 509 (k + 509 - i) else 0) = nI (A i * B ((k + 509 - i) % 509))
  rw [if_pos (show i ≤ k + 509 by omega), nt_sl_lt hi, Nat.zero_add, hA i hi, ← pk_mul]
  by_cases h : i ≤ k
  · rw [if_pos h, nt_sl_lt (show k - i < 509 by omega), nt_sl_ge (show 509 ≤ k + 509 - i by omega), Nat.zero_add, hB (k - i) (by omega), Int32.mul_zero, Int32.add_zero, show (k + 509 - i) % 509 = k - i by omega]
  · rw [if_neg h, nt_sl_lt (show k + 509 - i < 509 by omega), Nat.zero_add, hB (k + 509 - i) (by omega), Int32.zero_add, show (k + 509 - i) % 509 = k + 509 - i by omega]
/-! ===== what a short keeps; low bits ===== -/
def nt_s16 (v : Int32) : Int32 := v.toInt16.toInt32
theorem nt_s16_T (v : Int32) : (nt_s16 v).toInt = v.toInt.bmod (2 ^ 16) := by
  unfold nt_s16
  rw [Int16.toInt_toInt32, Int32.toInt_toInt16]
theorem nt_s16_N {n : Nat} (h : n < 32768) : nt_s16 (nI n) = nI n := by
  apply Int32.toInt_inj.mp
  rw [nt_s16_T, nI_toInt (by omega)]
  exact Int.bmod_eq_of_le (by omega) (by omega)
theorem nt_s16_0 : nt_s16 0 = 0 := by decide +kernel
theorem nt_s16_i (v : Int32) : nt_s16 (nt_s16 v) = nt_s16 v := by
  apply Int32.toInt_inj.mp
  rw [nt_s16_T, nt_s16_T, Int.bmod_bmod]
def nt_lo (v : Int32) : Nat := v.toBitVec.toNat % 2048
theorem nt_lo_T (v : Int32) : (nt_lo v : Int) = v.toInt % 2048 := by
  unfold nt_lo
  have h := BitVec.toInt_eq_toNat_cond v.toBitVec
  have e : v.toInt = v.toBitVec.toInt := rfl
  rw [e, h]
  have hl := v.toBitVec.isLt
  split <;> omega
theorem nt_lo_lt (v : Int32) : nt_lo v < 2048 := Nat.mod_lt _ (by decide)
theorem nt_lo_and (v : Int32) : v &&& nI 2047 = nI (nt_lo v) := pk_and v 11 (by decide +kernel)
theorem nt_lo_N {n : Nat} (h : n < 2 ^ 32) : nt_lo (nI n) = n % 2048 := by
  unfold nt_lo
  rw [pk_tn h]
theorem nt_lo_s16 (v : Int32) : nt_lo (nt_s16 v) = nt_lo v := by
  have h1 := nt_lo_T (nt_s16 v)
  rw [nt_s16_T] at h1
  have h2 := nt_lo_T v
  have h3 : v.toInt.bmod (2 ^ 16) % ((2 ^ 16 : Nat) : Int) = v.toInt % ((2 ^ 16 : Nat) : Int) := Int.bmod_emod
  generalize v.toInt.bmod (2 ^ 16) = z at h1 h3
  generalize v.toInt = w at h2 h3
  omega
theorem nt_lo_sub (v w : Int32) : nt_lo (v - w) = (nt_lo v + 2048 - nt_lo w) % 2048 := by
  have h1 := nt_lo_T (v - w)
  rw [Int32.toInt_sub] at h1
  have h2 := nt_lo_T v
  have h4 := nt_lo_T w
  have h5 := nt_lo_lt v
  have h6 := nt_lo_lt w
  have h3 : (v.toInt - w.toInt).bmod (2 ^ 32) % ((2 ^ 32 : Nat) : Int) = (v.toInt - w.toInt) % ((2 ^ 32 : Nat) : Int) := Int.bmod_emod
  generalize (v.toInt - w.toInt).bmod (2 ^ 32) = z at h1 h3
  generalize v.toInt = y at h2 h3
  generalize w.toInt = y' at h4 h3
  omega
theorem nt_cut {c : Nat} (hc : c < 2 ^ 31) : nt_s16 (nt_s16 (nI c) &&& nI 2047) = nI (c % 2048) := by
  rw [nt_lo_and, nt_lo_s16, nt_lo_N (show c < 2 ^ 32 by omega), nt_s16_N (show c % 2048 < 32768 by omega)]
theorem nt_phi {c d : Nat} (hc : c < 2 ^ 31) (hd : d < 2 ^ 31) : nt_s16 (nt_s16 (nt_s16 (nI c) - nt_s16 (nI d)) &&& nI 2047) = nI ((c % 2048 + 2048 - d % 2048) % 2048) := by
  rw [nt_lo_and, nt_lo_s16, nt_lo_sub, nt_lo_s16, nt_lo_s16, nt_lo_N (show c < 2 ^ 32 by omega), nt_lo_N (show d < 2 ^ 32 by omega), nt_s16_N (by omega)]
/-! mod3 -/
def nt_m3 (v : Int32) : Nat := v.toBitVec.toNat % 65536 % 3
theorem nt_m3_lt (v : Int32) : nt_m3 v < 3 := Nat.mod_lt _ (by decide)
theorem nt_m3_N {n : Nat} (h : n < 65536) : nt_m3 (nI n) = n % 3 := by
  unfold nt_m3
  rw [pk_tn (show n < 2 ^ 32 by omega), Nat.mod_eq_of_lt h]
theorem nt_m3_r {n r1 r2 r3 r4 : Nat} (h : n < 65536) (h1 : r1 = n / 256 + n % 256) (h2 : r2 = r1 / 16 + r1 % 16) (h3 : r3 = r2 / 4 + r2 % 4) (h4 : r4 = r3 / 4 + r3 % 4) : r4 ≤ 5 ∧ r4 % 3 = n % 3 := by omega
theorem nt_m3_e : ∀ r : Fin 6, ((nI r.val - nI 3) >>> (nI 31 &&& 31) &&& nI r.val) ^^^ (((nI r.val - nI 3) >>> (nI 31 &&& 31) ^^^ (-1)) &&& (nI r.val - nI 3)) = nI (r.val % 3) := by decide +kernel
theorem nt_three {c d : Nat} (hc : c < 10000) (hd : d < 10000) : nt_m3 (nt_s16 (nI c + nI 2 * nI d)) = (c % 3 + 3 - d % 3) % 3 := by
  rw [pk_mul, nI_add, nt_s16_N (show c + 2 * d < 32768 by omega), nt_m3_N (show c + 2 * d < 65536 by omega)]
  omega
/-! the mask of the sign -/
def nt_u (v : Int32) : Nat := v.toBitVec.toNat % 2147483648
theorem nt_u_lt (v : Int32) : nt_u v < 2147483648 := Nat.mod_lt _ (by decide)
theorem nt_u_and (v : Int32) : v &&& 2147483647 = nI (nt_u v) := pk_and v 31 (by decide +kernel)
theorem nt_rem {a d : Nat} (ha : a < 2147483648) (h0 : 0 < d) (hd : d < 2147483648) : nI a - nI a / nI d * nI d = nI (a % d) := pk_rem ha h0 hd
/-! ===== a block of an array is written, place by place ===== -/
def nt_w (off n : Nat) (new old : Nat → Int32) : Nat → Int32 := fun j => if off ≤ j ∧ j < off + n then new (j - off) else old j
theorem nt_w_out {off n j : Nat} {new old : Nat → Int32} (h : ¬ (off ≤ j ∧ j < off + n)) : nt_w off n new old j = old j := if_neg h
theorem nt_w_at {off n j : Nat} {new old : Nat → Int32} (h : j < n) : nt_w off n new old (off + j) = new j := by
  unfold nt_w
  rw [if_pos (show off ≤ off + j ∧ off + j < off + n by omega), show off + j - off = j by omega]
theorem nt_w_0 (off : Nat) (new old : Nat → Int32) : nt_w off 0 new old = old := by
  funext j
  exact nt_w_out (by omega)
theorem nt_w_s (off n : Nat) (new old : Nat → Int32) {p : Nat} {v : Int32} (hp : p = off + n) (hv : v = new n) : upd (nt_w off n new old) p v = nt_w off (n + 1) new old := by
  funext j
  unfold upd
  by_cases h : j = p
  · rw [if_pos h, h, hp, nt_w_at (Nat.lt_succ_self n), hv]
  · rw [if_neg h]
    unfold nt_w
    by_cases g : off ≤ j ∧ j < off + n
    · rw [if_pos g, if_pos (show off ≤ j ∧ j < off + (n + 1) by omega)]
    · rw [if_neg g, if_neg (show ¬ (off ≤ j ∧ j < off + (n + 1)) by omega)]
/-! ===== the reference's product: i rows whole, k places of row i ===== -/
def nt_mc (A B : Nat → Nat) (old : Nat → Int32) (i k : Nat) : Nat → Int32 := fun j => if j < 509 then nI (nt_sN i (fun u => A u * B ((j + 509 - u) % 509)) + (if (i ≤ j ∧ j < i + k) ∨ j + 509 < i + k then A i * B ((j + 509 - i) % 509) else 0)) else old j
theorem nt_mc_0 (A B : Nat → Nat) (old : Nat → Int32) : nt_w 0 509 (fun _ => 0) old = nt_mc A B old 0 0 := by
  funext j
  unfold nt_w nt_mc
  by_cases h : j < 509
  · rw [if_pos (show 0 ≤ j ∧ j < 0 + 509 by omega), if_pos h, if_neg (show ¬ ((0 ≤ j ∧ j < 0 + 0) ∨ j + 509 < 0 + 0) by omega)]
    exact nI_0.symm
  · rw [if_neg (show ¬ (0 ≤ j ∧ j < 0 + 509) by omega), if_neg h]
theorem nt_mc_k (A B : Nat → Nat) (old : Nat → Int32) {i k p : Nat} (hi : i < 509) (hk : k < 509) (hp : p < 509) (he : p = i + k ∨ p + 509 = i + k) {v : Int32} (hv : v = nt_mc A B old i k p + nI (A i) * nI (B k)) : upd (nt_mc A B old i k) p v = nt_mc A B old i (k + 1) := by
  subst hv
  funext j
  unfold upd
  by_cases h : j = p
  · subst h
    rw [if_pos rfl]
    unfold nt_mc
    rw [if_pos hp, if_pos hp, if_neg (show ¬ ((i ≤ j ∧ j < i + k) ∨ j + 509 < i + k) by omega), if_pos (show (i ≤ j ∧ j < i + (k + 1)) ∨ j + 509 < i + (k + 1) by omega), Nat.add_zero, pk_mul, nI_add, show (j + 509 - i) % 509 = k by omega]
  · rw [if_neg h]
    unfold nt_mc
    by_cases g : j < 509
    · rw [if_pos g, if_pos g]
      by_cases g2 : (i ≤ j ∧ j < i + k) ∨ j + 509 < i + k
      · rw [if_pos g2, if_pos (show (i ≤ j ∧ j < i + (k + 1)) ∨ j + 509 < i + (k + 1) by omega)]
      · rw [if_neg g2, if_neg (show ¬ ((i ≤ j ∧ j < i + (k + 1)) ∨ j + 509 < i + (k + 1)) by omega)]
    · rw [if_neg g, if_neg g]
theorem nt_mc_i (A B : Nat → Nat) (old : Nat → Int32) {i : Nat} (hi : i < 509) : nt_mc A B old i 509 = nt_mc A B old (i + 1) 0 := by
  funext j
  unfold nt_mc
  by_cases g : j < 509
  · rw [if_pos g, if_pos g, if_pos (show (i ≤ j ∧ j < i + 509) ∨ j + 509 < i + 509 by omega), if_neg (show ¬ ((i + 1 ≤ j ∧ j < i + 1 + 0) ∨ j + 509 < i + 1 + 0) by omega), nt_sN_s]
    rfl
  · rw [if_neg g, if_neg g]
theorem nt_mc_z (A B : Nat → Nat) (old : Nat → Int32) {i : Nat} (hi : i < 509) (hz : A i = 0) : nt_mc A B old i 0 = nt_mc A B old (i + 1) 0 := by
  funext j
  unfold nt_mc
  by_cases g : j < 509
  · rw [if_pos g, if_pos g, if_neg (show ¬ ((i ≤ j ∧ j < i + 0) ∨ j + 509 < i + 0) by omega), if_neg (show ¬ ((i + 1 ≤ j ∧ j < i + 1 + 0) ∨ j + 509 < i + 1 + 0) by omega), nt_sN_s, hz, Nat.zero_mul]
  · rw [if_neg g, if_neg g]
theorem nt_mc_n (A B : Nat → Nat) (old : Nat → Int32) {j : Nat} (hj : j < 509) : nt_mc A B old 509 0 j = nI (nt_cN A B j) := by
  unfold nt_mc nt_cN
  rw [if_pos hj, if_neg (show ¬ ((509 ≤ j ∧ j < 509 + 0) ∨ j + 509 < 509 + 0) by omega), Nat.add_zero]
end
section
/-! ===== kMul's recursive case, on the memory ===== -/
/-- the layout of the scratch cells -/
def nt_lay (len ul m u0 hi u2 sa sb z0 z2 z1 nx : Nat) : Prop := m + hi = len ∧ hi ≤ m ∧ m ≤ hi + 1 ∧ 24 ≤ hi ∧ u0 + 1 = 2 * m ∧ u2 + 1 = 2 * hi ∧ ul + 1 = 2 * len ∧ sb = sa + m ∧ z0 = sb + m ∧ z2 = z0 + u0 ∧ z1 = z2 + u2 ∧ nx = z1 + u0 ∧ nx + 9 * m ≤ sa + 9 * len
set_option maxHeartbeats 4000000 in
/-- sums of halves -/
theorem nt_K0 {a aOff b bOff len ul t m u0 hi u2 sa sb z0 z2 z1 nx : Nat} {M M2 : nt_M} (hl : nt_lay len ul m u0 hi u2 sa sb z0 z2 z1 nx)
    (hM2 : M2 = nt_wr (nt_wr (nt_wr (nt_wr M t sa m (fun i => M a (aOff + i))) t sb m (fun i => M b (bOff + i))) t sa hi (fun i => M a (aOff + i) + M a (aOff + m + i))) t sb hi (fun i => M b (bOff + i) + M b (bOff + m + i))) :
    (∀ q j, ¬ (q = t ∧ sa ≤ j ∧ j < z0) → M2 q j = M q j) ∧ (∀ i, i < m → M2 t (sa + i) = nt_sl (M a) aOff m i + nt_sl (M a) (aOff + m) hi i) ∧ ∀ i, i < m → M2 t (sb + i) = nt_sl (M b) bOff m i + nt_sl (M b) (bOff + m) hi i := by
  obtain ⟨-, l1, -, -, -, -, -, l2, l3, -⟩ := hl
  refine ⟨fun q j h => ?_, fun i hi' => ?_, fun i hi' => ?_⟩
  · rw [hM2, nt_wr_out (by omega), nt_wr_out (by omega), nt_wr_out (by omega), nt_wr_out (by omega)]
  · rw [nt_sl_lt hi', hM2, nt_wr_out (by omega)]
    by_cases g : i < hi
    · rw [nt_wr_at g, nt_sl_lt g]
    · rw [nt_wr_out (by omega), nt_wr_out (by omega), nt_wr_at hi', nt_sl_ge (show hi ≤ i by omega), Int32.add_zero]
  · rw [nt_sl_lt hi', hM2]
    by_cases g : i < hi
    · rw [nt_wr_at g, nt_sl_lt g]
    · rw [nt_wr_out (by omega), nt_wr_out (by omega), nt_wr_at hi', nt_sl_ge (show hi ≤ i by omega), Int32.add_zero]
set_option maxHeartbeats 4000000 in
/-- the three products -/
theorem nt_K1 {a aOff b bOff len ul t m u0 hi u2 sa sb z0 z2 z1 nx : Nat} {M M2 M3 M4 M5 : nt_M} (hl : nt_lay len ul m u0 hi u2 sa sb z0 z2 z1 nx)
    (d2 : nt_dis a aOff len t sa (9 * len)) (d3 : nt_dis b bOff len t sa (9 * len))
    (a2 : ∀ q j, ¬ (q = t ∧ sa ≤ j ∧ j < z0) → M2 q j = M q j) (s2 : ∀ i, i < m → M2 t (sa + i) = nt_sl (M a) aOff m i + nt_sl (M a) (aOff + m) hi i) (s2' : ∀ i, i < m → M2 t (sb + i) = nt_sl (M b) bOff m i + nt_sl (M b) (bOff + m) hi i)
    (k1 : nt_KS t z0 u0 a aOff b bOff m t nx M2 M3) (k2 : nt_KS t z2 u2 a (aOff + m) b (bOff + m) hi t nx M3 M4) (k3 : nt_KS t z1 u0 t sa t sb m t nx M4 M5) :
    (∀ j, j < u0 → M5 t (z0 + j) = nt_pc (nt_sl (M a) aOff m) (nt_sl (M b) bOff m) j) ∧ (∀ j, j < u2 → M5 t (z2 + j) = nt_pc (nt_sl (M a) (aOff + m) hi) (nt_sl (M b) (bOff + m) hi) j) ∧
    (∀ j, j < u0 → M5 t (z1 + j) = nt_pc (fun i => nt_sl (M a) aOff m i + nt_sl (M a) (aOff + m) hi i) (fun i => nt_sl (M b) bOff m i + nt_sl (M b) (bOff + m) hi i) j) ∧
    ∀ q j, ¬ (q = t ∧ sa ≤ j ∧ j < sa + 9 * len) → M5 q j = M q j := by
  obtain ⟨l0, l1, l2, l3, l4, l5, l6, l7, l8, l9, l10, l11, l12⟩ := hl
  have f1 : ∀ q j, ¬ (q = t ∧ z0 ≤ j ∧ j < z0 + u0) → ¬ (q = t ∧ nx ≤ j ∧ j < nx + 9 * m) → M3 q j = M2 q j := k1.2
  have f2 : ∀ q j, ¬ (q = t ∧ z2 ≤ j ∧ j < z2 + u2) → ¬ (q = t ∧ nx ≤ j ∧ j < nx + 9 * hi) → M4 q j = M3 q j := k2.2
  have f3 : ∀ q j, ¬ (q = t ∧ z1 ≤ j ∧ j < z1 + u0) → ¬ (q = t ∧ nx ≤ j ∧ j < nx + 9 * m) → M5 q j = M4 q j := k3.2
  have ra : ∀ i, i < len → M2 a (aOff + i) = M a (aOff + i) ∧ M3 a (aOff + i) = M a (aOff + i) := fun i hi' => by
    have g : a = t → aOff + i < sa ∨ sa + 9 * len ≤ aOff + i := fun h => by
      rcases d2 with d | d | d
      · exact absurd h d
      · omega
      · omega
    have e := a2 a (aOff + i) (by omega)
    exact ⟨e, (f1 a (aOff + i) (by omega) (by omega)).trans e⟩
  have rb : ∀ i, i < len → M2 b (bOff + i) = M b (bOff + i) ∧ M3 b (bOff + i) = M b (bOff + i) := fun i hi' => by
    have g : b = t → bOff + i < sa ∨ sa + 9 * len ≤ bOff + i := fun h => by
      rcases d3 with d | d | d
      · exact absurd h d
      · omega
      · omega
    have e := a2 b (bOff + i) (by omega)
    exact ⟨e, (f1 b (bOff + i) (by omega) (by omega)).trans e⟩
  have ea0 : nt_sl (M2 a) aOff m = nt_sl (M a) aOff m := nt_sl_congr (fun i h => (ra i (by omega)).1)
  have eb0 : nt_sl (M2 b) bOff m = nt_sl (M b) bOff m := nt_sl_congr (fun i h => (rb i (by omega)).1)
  have ea1 : nt_sl (M3 a) (aOff + m) hi = nt_sl (M a) (aOff + m) hi := nt_sl_congr (fun i h => by
    have e := (ra (m + i) (by omega)).2
    rw [show aOff + (m + i) = aOff + m + i by omega] at e
    exact e)
  have eb1 : nt_sl (M3 b) (bOff + m) hi = nt_sl (M b) (bOff + m) hi := nt_sl_congr (fun i h => by
    have e := (rb (m + i) (by omega)).2
    rw [show bOff + (m + i) = bOff + m + i by omega] at e
    exact e)
  have es : nt_sl (M4 t) sa m = fun i => nt_sl (M a) aOff m i + nt_sl (M a) (aOff + m) hi i := by
    funext i
    by_cases g : i < m
    · rw [nt_sl_lt g, f2 t (sa + i) (by omega) (by omega), f1 t (sa + i) (by omega) (by omega), s2 i g]
    · rw [nt_sl_ge (show m ≤ i by omega), nt_sl_ge (show m ≤ i by omega), nt_sl_ge (show hi ≤ i by omega), Int32.add_zero]
  have es' : nt_sl (M4 t) sb m = fun i => nt_sl (M b) bOff m i + nt_sl (M b) (bOff + m) hi i := by
    funext i
    by_cases g : i < m
    · rw [nt_sl_lt g, f2 t (sb + i) (by omega) (by omega), f1 t (sb + i) (by omega) (by omega), s2' i g]
    · rw [nt_sl_ge (show m ≤ i by omega), nt_sl_ge (show m ≤ i by omega), nt_sl_ge (show hi ≤ i by omega), Int32.add_zero]
  refine ⟨fun j hj => ?_, fun j hj => ?_, fun j hj => ?_, fun q j h => ?_⟩
  · rw [f3 t (z0 + j) (by omega) (by omega), f2 t (z0 + j) (by omega) (by omega), k1.1 j hj, ea0, eb0]
  · rw [f3 t (z2 + j) (by omega) (by omega), k2.1 j hj, ea1, eb1]
  · rw [k3.1 j hj, es, es']
  · rw [f3 q j (by omega) (by omega), f2 q j (by omega) (by omega), f1 q j (by omega) (by omega)]
    exact a2 q j (by omega)
set_option maxHeartbeats 4000000 in
/-- the middle product less the outer ones -/
theorem nt_K2 {A0 A1 B0 B1 : Nat → Int32} {len ul t m u0 hi u2 sa sb z0 z2 z1 nx : Nat} {M5 M6 M7 : nt_M} (hl : nt_lay len ul m u0 hi u2 sa sb z0 z2 z1 nx)
    (zA1 : ∀ i, hi ≤ i → A1 i = 0) (zB1 : ∀ i, hi ≤ i → B1 i = 0)
    (v0 : ∀ j, j < u0 → M5 t (z0 + j) = nt_pc A0 B0 j) (v2 : ∀ j, j < u2 → M5 t (z2 + j) = nt_pc A1 B1 j) (v1 : ∀ j, j < u0 → M5 t (z1 + j) = nt_pc (fun i => A0 i + A1 i) (fun i => B0 i + B1 i) j)
    (hM6 : M6 = nt_wr M5 t z1 u0 (fun i => M5 t (z1 + i) - M5 t (z0 + i))) (hM7 : M7 = nt_wr M6 t z1 u2 (fun i => M6 t (z1 + i) - M6 t (z2 + i))) :
    (∀ j, j < u0 → M7 t (z0 + j) = nt_pc A0 B0 j) ∧ (∀ j, j < u2 → M7 t (z2 + j) = nt_pc A1 B1 j) ∧ (∀ j, j < u0 → M7 t (z1 + j) = nt_pc (fun i => A0 i + A1 i) (fun i => B0 i + B1 i) j - nt_pc A0 B0 j - nt_pc A1 B1 j) ∧
    ∀ q j, ¬ (q = t ∧ z1 ≤ j ∧ j < nx) → M7 q j = M5 q j := by
  obtain ⟨-, l1, -, -, l4, l5, -, -, -, l9, l10, l11, -⟩ := hl
  have o6 : ∀ q j, ¬ (q = t ∧ z1 ≤ j ∧ j < z1 + u0) → M6 q j = M5 q j := fun q j h => by rw [hM6]; exact nt_wr_out h
  have o7 : ∀ q j, ¬ (q = t ∧ z1 ≤ j ∧ j < z1 + u2) → M7 q j = M6 q j := fun q j h => by rw [hM7]; exact nt_wr_out h
  have w6 : ∀ i, i < u0 → M6 t (z1 + i) = M5 t (z1 + i) - M5 t (z0 + i) := fun i h => by rw [hM6]; exact nt_wr_at h
  refine ⟨fun j h => ?_, fun j h => ?_, fun j h => ?_, fun q j h => ?_⟩
  · rw [o7 t (z0 + j) (by omega), o6 t (z0 + j) (by omega), v0 j h]
  · rw [o7 t (z2 + j) (by omega), o6 t (z2 + j) (by omega), v2 j h]
  · by_cases g : j < u2
    · have x1 : M7 t (z1 + j) = M6 t (z1 + j) - M6 t (z2 + j) := by rw [hM7]; exact nt_wr_at g
      rw [x1, o6 t (z2 + j) (by omega), w6 j h, v1 j h, v0 j h, v2 j g]
    · rw [o7 t (z1 + j) (by omega), w6 j h, v1 j h, v0 j h, nt_pc_van zA1 zB1 (show hi + hi ≤ j + 1 by omega), Int32.sub_zero]
  · rw [o7 q j (by omega), o6 q j (by omega)]
set_option maxHeartbeats 4000000 in
/-- the answer, put together -/
theorem nt_K3 {A0 A1 B0 B1 S : Nat → Int32} {r rOff len ul t m u0 hi u2 sa sb z0 z2 z1 nx : Nat} {M7 M8 M9 M10 M11 : nt_M} (hl : nt_lay len ul m u0 hi u2 sa sb z0 z2 z1 nx)
    (zA0 : ∀ i, m ≤ i → A0 i = 0) (zB0 : ∀ i, m ≤ i → B0 i = 0) (zA1 : ∀ i, hi ≤ i → A1 i = 0) (zB1 : ∀ i, hi ≤ i → B1 i = 0)
    (hS : ∀ k, S k = nt_pc (fun i => A0 i + A1 i) (fun i => B0 i + B1 i) k - nt_pc A0 B0 k - nt_pc A1 B1 k)
    (d1 : nt_dis r rOff ul t sa (9 * len))
    (w0 : ∀ j, j < u0 → M7 t (z0 + j) = nt_pc A0 B0 j) (w2 : ∀ j, j < u2 → M7 t (z2 + j) = nt_pc A1 B1 j) (w1 : ∀ j, j < u0 → M7 t (z1 + j) = S j)
    (hM8 : M8 = nt_wr M7 r rOff ul (fun _ => 0)) (hM9 : M9 = nt_wr M8 r rOff u0 (fun i => M8 r (rOff + i) + M8 t (z0 + i))) (hM10 : M10 = nt_wr M9 r (rOff + 2 * m) u2 (fun i => M9 r (rOff + 2 * m + i) + M9 t (z2 + i))) (hM11 : M11 = nt_wr M10 r (rOff + m) u0 (fun i => M10 r (rOff + m + i) + M10 t (z1 + i))) :
    (∀ i, i < ul → M11 r (rOff + i) = nt_pc A0 B0 i + nt_sh m S i + nt_sh m (nt_sh m (nt_pc A1 B1)) i) ∧ ∀ q j, ¬ (q = r ∧ rOff ≤ j ∧ j < rOff + ul) → M11 q j = M7 q j := by
  obtain ⟨l0, l1, l2, l3, l4, l5, l6, l7, l8, l9, l10, l11, l12⟩ := hl
  have ap : ∀ j, sa ≤ j → j < nx → ¬ (t = r ∧ rOff ≤ j ∧ j < rOff + ul) := fun j h1 h2 h => by
    rcases d1 with d | d | d
    · exact d h.1.symm
    · omega
    · omega
  have t8 : ∀ j, sa ≤ j → j < nx → M8 t j = M7 t j := fun j h1 h2 => by rw [hM8]; exact nt_wr_out (ap j h1 h2)
  have t9 : ∀ j, sa ≤ j → j < nx → M9 t j = M7 t j := fun j h1 h2 => by
    have h := ap j h1 h2
    rw [hM9, nt_wr_out (by omega)]
    exact t8 j h1 h2
  have t10 : ∀ j, sa ≤ j → j < nx → M10 t j = M7 t j := fun j h1 h2 => by
    have h := ap j h1 h2
    rw [hM10, nt_wr_out (by omega)]
    exact t9 j h1 h2
  clear ap
  have c8 : ∀ i, i < ul → M8 r (rOff + i) = 0 := fun i h => by rw [hM8]; exact nt_wr_at h
  have c9 : ∀ i, i < ul → M9 r (rOff + i) = nt_pc A0 B0 i := fun i h => by
    by_cases g : i < u0
    · have x1 : M9 r (rOff + i) = M8 r (rOff + i) + M8 t (z0 + i) := by rw [hM9]; exact nt_wr_at g
      rw [x1, c8 i h, t8 (z0 + i) (by omega) (by omega), w0 i g, Int32.zero_add]
    · have x1 : M9 r (rOff + i) = M8 r (rOff + i) := by rw [hM9]; exact nt_wr_out (by omega)
      rw [x1, c8 i h, nt_pc_van zA0 zB0 (show m + m ≤ i + 1 by omega)]
  have c10 : ∀ i, i < ul → M10 r (rOff + i) = nt_pc A0 B0 i + nt_sh m (nt_sh m (nt_pc A1 B1)) i := fun i h => by
    by_cases g : 2 * m ≤ i
    · obtain ⟨k, rfl⟩ : ∃ k, i = 2 * m + k := ⟨i - 2 * m, by omega⟩
      have g2 : k < u2 := by omega
      have x0 : rOff + (2 * m + k) = rOff + 2 * m + k := by omega
      have x1 : M10 r (rOff + 2 * m + k) = M9 r (rOff + 2 * m + k) + M9 t (z2 + k) := by rw [hM10]; exact nt_wr_at g2
      rw [x0, x1, ← x0, c9 (2 * m + k) h, t9 (z2 + k) (by omega) (by omega), w2 k g2, nt_sh_ge (show m ≤ 2 * m + k by omega), nt_sh_ge (show m ≤ 2 * m + k - m by omega), show 2 * m + k - m - m = k by omega]
    · have x1 : M10 r (rOff + i) = M9 r (rOff + i) := by rw [hM10]; exact nt_wr_out (by omega)
      have x2 : nt_sh m (nt_sh m (nt_pc A1 B1)) i = 0 := by
        by_cases g3 : m ≤ i
        · rw [nt_sh_ge g3, nt_sh_lt (show i - m < m by omega)]
        · exact nt_sh_lt (by omega)
      rw [x1, c9 i h, x2, Int32.add_zero]
  have c11 : ∀ i, i < ul → M11 r (rOff + i) = nt_pc A0 B0 i + nt_sh m S i + nt_sh m (nt_sh m (nt_pc A1 B1)) i := fun i h => by
    by_cases g : m ≤ i ∧ i < m + u0
    · obtain ⟨k, rfl⟩ : ∃ k, i = m + k := ⟨i - m, by omega⟩
      have g2 : k < u0 := by omega
      have x0 : rOff + (m + k) = rOff + m + k := by omega
      have x1 : M11 r (rOff + m + k) = M10 r (rOff + m + k) + M10 t (z1 + k) := by rw [hM11]; exact nt_wr_at g2
      rw [x0, x1, ← x0, c10 (m + k) h, t10 (z1 + k) (by omega) (by omega), w1 k g2, nt_sh_ge (P := S) (show m ≤ m + k by omega), show m + k - m = k by omega]
      generalize nt_pc A0 B0 (m + k) = y1
      generalize nt_sh m (nt_sh m (nt_pc A1 B1)) (m + k) = y2
      generalize S k = y3
      grind
    · have x1 : M11 r (rOff + i) = M10 r (rOff + i) := by rw [hM11]; exact nt_wr_out (by omega)
      have x2 : nt_sh m S i = 0 := by
        by_cases g3 : m ≤ i
        · have y1 : nt_pc (fun i => A0 i + A1 i) (fun i => B0 i + B1 i) (i - m) = 0 := nt_pc_van (n := m) (k := m) (fun u hu => by
            show A0 u + A1 u = 0
            rw [zA0 u hu, zA1 u (by omega), Int32.add_zero]) (fun u hu => by
            show B0 u + B1 u = 0
            rw [zB0 u hu, zB1 u (by omega), Int32.add_zero]) (by omega)
          have y2 : S (i - m) = 0 - 0 - 0 := by
            rw [hS (i - m), y1, nt_pc_van zA0 zB0 (show m + m ≤ i - m + 1 by omega), nt_pc_van zA1 zB1 (show hi + hi ≤ i - m + 1 by omega)]
          exact (nt_sh_ge g3).trans (y2.trans (by decide))
        · exact nt_sh_lt (by omega)
      rw [x1, c10 i h, x2, Int32.add_zero]
  refine ⟨c11, fun q j h => ?_⟩
  rw [hM11, nt_wr_out (by omega), hM10, nt_wr_out (by omega), hM9, nt_wr_out (by omega), hM8, nt_wr_out (by omega)]
set_option maxHeartbeats 4000000 in
/-- the recursive case: three products, put together -/
theorem nt_KS_step {r rOff ul a aOff b bOff len t tOff m u0 hi u2 sb z0 z2 z1 nx : Nat} {M M2 M3 M4 M5 M6 M7 M8 M9 M10 M11 : nt_M}
    (hl : nt_lay len ul m u0 hi u2 tOff sb z0 z2 z1 nx)
    (d1 : nt_dis r rOff ul t tOff (9 * len)) (d2 : nt_dis a aOff len t tOff (9 * len)) (d3 : nt_dis b bOff len t tOff (9 * len))
    (hM2 : M2 = nt_wr (nt_wr (nt_wr (nt_wr M t tOff m (fun i => M a (aOff + i))) t sb m (fun i => M b (bOff + i))) t tOff hi (fun i => M a (aOff + i) + M a (aOff + m + i))) t sb hi (fun i => M b (bOff + i) + M b (bOff + m + i)))
    (k1 : nt_KS t z0 u0 a aOff b bOff m t nx M2 M3) (k2 : nt_KS t z2 u2 a (aOff + m) b (bOff + m) hi t nx M3 M4) (k3 : nt_KS t z1 u0 t tOff t sb m t nx M4 M5)
    (hM6 : M6 = nt_wr M5 t z1 u0 (fun i => M5 t (z1 + i) - M5 t (z0 + i))) (hM7 : M7 = nt_wr M6 t z1 u2 (fun i => M6 t (z1 + i) - M6 t (z2 + i)))
    (hM8 : M8 = nt_wr M7 r rOff ul (fun _ => 0)) (hM9 : M9 = nt_wr M8 r rOff u0 (fun i => M8 r (rOff + i) + M8 t (z0 + i))) (hM10 : M10 = nt_wr M9 r (rOff + 2 * m) u2 (fun i => M9 r (rOff + 2 * m + i) + M9 t (z2 + i)))
    (hM11 : M11 = nt_wr M10 r (rOff + m) u0 (fun i => M10 r (rOff + m + i) + M10 t (z1 + i))) : nt_KS r rOff ul a aOff b bOff len t tOff M M11 := by
  obtain ⟨a2, s2, s2'⟩ := nt_K0 hl hM2
  obtain ⟨v0, v2, v1, fr⟩ := nt_K1 hl d2 d3 a2 s2 s2' k1 k2 k3
  obtain ⟨w0, w2, w1, fr2⟩ := nt_K2 hl (fun i h => nt_sl_ge h) (fun i h => nt_sl_ge h) v0 v2 v1 hM6 hM7
  obtain ⟨S, hS⟩ : ∃ S : Nat → Int32, S = fun k => nt_pc (fun i => nt_sl (M a) aOff m i + nt_sl (M a) (aOff + m) hi i) (fun i => nt_sl (M b) bOff m i + nt_sl (M b) (bOff + m) hi i) k - nt_pc (nt_sl (M a) aOff m) (nt_sl (M b) bOff m) k - nt_pc (nt_sl (M a) (aOff + m) hi) (nt_sl (M b) (bOff + m) hi) k := ⟨_, rfl⟩
  obtain ⟨x1, x2⟩ := nt_K3 (S := S) hl (fun i h => nt_sl_ge h) (fun i h => nt_sl_ge h) (fun i h => nt_sl_ge h) (fun i h => nt_sl_ge h) (fun k => by rw [hS]) d1 w0 w2 (fun j hj => by rw [w1 j hj, hS]) hM8 hM9 hM10 hM11
  refine ⟨fun j hj => ?_, fun q j h1 h2 => ?_⟩
  · rw [x1 j hj, show len = m + hi from hl.1.symm, nt_sl_two, nt_sl_two, nt_kara, hS]
  · have h3 : tOff ≤ z1 ∧ nx ≤ tOff + 9 * len := by
      obtain ⟨l0, l1, l2, l3, l4, l5, l6, l7, l8, l9, l10, l11, l12⟩ := hl
      omega
    rw [x2 q j h1, fr2 q j (by omega), fr q j h2]
end
section
/-! ===== THE LAYER: worlds as pools (addresses and what they hold), one judgement with locals and stack in sight ===== -/
abbrev vwCl : List vw_C := [(RX0, TX0, 2), (RX2, TX2, 2), (RX5, TX5, 5), (RX6, TX6, 3)]
abbrev nt_T (cI cS cP : ClassId) : List (ClassId × FieldType) := [(cI, .int), (cS, .short), (cP, .object "Polynomial")]
def nt_K (D : va_G) (cI cS cP : ClassId) (U : State) : Prop := va_K D vwCl (nt_T cI cS cP) U ∧ va_AO "Polynomial" U ∧ va_Nw (.castable "HPSPolynomial" "Polynomial") U
theorem nt_K.moved {D : va_G} {cI cS cP : ClassId} {s U : State} (hW : s.WarmedH U.vm) (h : nt_K D cI cS cP s) : nt_K D cI cS cP U := ⟨va_K.moved hW.alike h.1, va_AO.moved hW.alike h.2.1, va_Nw.warmC hW h.2.2⟩
theorem nt_K.call {D : va_G} {cI cS cP : ClassId} {U : State} (g : JFrame) (mk : MethodId) (a : Array Value) (h : nt_K D cI cS cP U) : nt_K D cI cS cP (U.calling g mk a) :=
  ⟨va_K.moved (u := U) (U := U.calling g mk a) (Vm.Alike.refl U.vm) h.1, va_AO.moved (u := U) (U := U.calling g mk a) (Vm.Alike.refl U.vm) h.2.1, va_Nw.same (u := U) (U := U.calling g mk a) rfl rfl h.2.2⟩
theorem nt_cls {s : State} {cA cB : ClassId} {ty : FieldType} (h1 : va_RA s cA ty) (h2 : va_RA s cB ty) : cA = cB := by
  cases ty with
  | object C =>
    obtain ⟨_, _, -, -, -, a⟩ := h1
    obtain ⟨_, _, -, -, -, b⟩ := h2
    exact Option.some.inj (a.symm.trans b)
  | _ => exact Option.some.inj (Eq.trans (Eq.symm h1) h2)
/-! pools -/
theorem nt_setmap {A : Nat → Prop} {ws : va_W} {k a : Nat} {e0 e : va_E} (hD : va_D A ws) (hk : ws[k]? = some (a, e0)) : ws.set k (a, e) = ws.map (fun w => if w.1 = a then (a, e) else w) := by
  apply List.ext_getElem?
  intro j
  rw [List.getElem?_map]
  by_cases hj : j = k
  · subst hj
    rw [List.getElem?_set_self (List.getElem?_eq_some_iff.mp hk).1, hk]
    simp
  · rw [List.getElem?_set_ne (Ne.symm hj)]
    cases hb : ws[j]? with
    | none => rfl
    | some w =>
      have hw : w.1 ≠ a := fun h => hj (hD.1 j k w (a, e0) hb hk h)
      simp [hw]
theorem nt_mem1 {L L2 : List Nat} {f f2 : Nat → va_E} {a : Nat} (h : a ∈ L) : ∃ k : Nat, (va_pl L f ++ va_pl L2 f2)[k]? = some (a, f a) :=
  List.getElem?_of_mem (List.mem_append_left _ (List.mem_map.mpr ⟨a, h, rfl⟩))
theorem nt_mem2 {L L2 : List Nat} {f f2 : Nat → va_E} {a : Nat} (h : a ∈ L2) : ∃ k : Nat, (va_pl L f ++ va_pl L2 f2)[k]? = some (a, f2 a) :=
  List.getElem?_of_mem (List.mem_append_right _ (List.mem_map.mpr ⟨a, h, rfl⟩))
theorem nt_ap {A : Nat → Prop} {w1 w2 : va_W} (hD : va_D A (w1 ++ w2)) {p q : Nat × va_E} (hp : p ∈ w1) (hq : q ∈ w2) : p.1 ≠ q.1 := by
  intro h
  obtain ⟨i, hi⟩ := List.getElem?_of_mem hp
  obtain ⟨j, hj⟩ := List.getElem?_of_mem hq
  have hl := (List.getElem?_eq_some_iff.mp hi).1
  have h1 : (w1 ++ w2)[i]? = some p := by rw [List.getElem?_append_left hl]; exact hi
  have h2 : (w1 ++ w2)[w1.length + j]? = some q := by rw [List.getElem?_append_right (Nat.le_add_right _ _), Nat.add_sub_cancel_left]; exact hj
  have := hD.1 _ _ _ _ h1 h2 h
  omega
theorem nt_ne12 {A : Nat → Prop} {L L2 : List Nat} {f f2 : Nat → va_E} (hD : va_D A (va_pl L f ++ va_pl L2 f2)) {a b : Nat} (ha : a ∈ L) (hb : b ∈ L2) : a ≠ b :=
  nt_ap hD (List.mem_map.mpr ⟨a, ha, rfl⟩) (List.mem_map.mpr ⟨b, hb, rfl⟩)
theorem nt_map_up (L : List Nat) (f : Nat → va_E) (a : Nat) (e : va_E) : (va_pl L f).map (fun w => if w.1 = a then (a, e) else w) = va_pl L (va_up f a e) := by
  unfold va_pl
  rw [List.map_map]
  apply List.map_congr_left
  intro b _
  show (if b = a then (a, e) else (b, f b)) = (b, va_up f a e b)
  by_cases h : b = a
  · subst h
    rw [if_pos rfl, va_up_self]
  · rw [if_neg h, va_up_ne _ _ h]
theorem nt_map_no (L : List Nat) (f : Nat → va_E) (a : Nat) (e : va_E) (h : ∀ b, b ∈ L → b ≠ a) : (va_pl L f).map (fun w => if w.1 = a then (a, e) else w) = va_pl L f := by
  unfold va_pl
  rw [List.map_map]
  apply List.map_congr_left
  intro b hb
  show (if b = a then (a, e) else (b, f b)) = (b, f b)
  rw [if_neg (h b hb)]
theorem nt_set1 {A : Nat → Prop} {L L2 : List Nat} {f f2 : Nat → va_E} {a k : Nat} {e : va_E} (hD : va_D A (va_pl L f ++ va_pl L2 f2)) (ha : a ∈ L) (hk : (va_pl L f ++ va_pl L2 f2)[k]? = some (a, f a)) : (va_pl L f ++ va_pl L2 f2).set k (a, e) = va_pl L (va_up f a e) ++ va_pl L2 f2 := by
  rw [nt_setmap hD hk, List.map_append, nt_map_up, nt_map_no L2 f2 a e (fun b hb h => nt_ne12 hD ha hb h.symm)]
theorem nt_set2 {A : Nat → Prop} {L L2 : List Nat} {f f2 : Nat → va_E} {a k : Nat} {e : va_E} (hD : va_D A (va_pl L f ++ va_pl L2 f2)) (ha : a ∈ L2) (hk : (va_pl L f ++ va_pl L2 f2)[k]? = some (a, f2 a)) : (va_pl L f ++ va_pl L2 f2).set k (a, e) = va_pl L f ++ va_pl L2 (va_up f2 a e) := by
  rw [nt_setmap hD hk, List.map_append, nt_map_up L2 f2 a e, nt_map_no L f a e (fun b hb h => nt_ne12 hD hb ha h)]
theorem nt_push1 {A : Nat → Prop} {L : List Nat} {f f2 : Nat → va_E} {q : Nat} {e : va_E} (hD : va_D A ((va_pl L f ++ va_pl [] f2) ++ [(q, e)])) : q ∉ L ∧ (va_pl L f ++ va_pl [] f2) ++ [(q, e)] = va_pl (L ++ [q]) (va_up f q e) ++ va_pl [] f2 := by
  have hq : q ∉ L := fun h => nt_ap hD (p := (q, f q)) (q := (q, e)) (List.mem_append_left _ (List.mem_map.mpr ⟨q, h, rfl⟩)) List.mem_cons_self rfl
  refine ⟨hq, ?_⟩
  show (va_pl L f ++ []) ++ [(q, e)] = va_pl (L ++ [q]) (va_up f q e) ++ []
  rw [List.append_nil, List.append_nil, va_pl_push hq]
theorem nt_push2 {A : Nat → Prop} {L L2 : List Nat} {f f2 : Nat → va_E} {q : Nat} {e : va_E} (hD : va_D A ((va_pl L f ++ va_pl L2 f2) ++ [(q, e)])) : q ∉ L2 ∧ (va_pl L f ++ va_pl L2 f2) ++ [(q, e)] = va_pl L f ++ va_pl (L2 ++ [q]) (va_up f2 q e) := by
  have hq : q ∉ L2 := fun h => nt_ap hD (p := (q, f2 q)) (q := (q, e)) (List.mem_append_right _ (List.mem_map.mpr ⟨q, h, rfl⟩)) List.mem_cons_self rfl
  refine ⟨hq, ?_⟩
  rw [List.append_assoc, va_pl_push hq]
theorem nt_P1 {D : va_G} {cl : List vw_C} {w1 w2 : va_W} {H : Heap} (h : va_P D cl (w1 ++ w2) H) : va_P D cl w1 H := fun k q hk => h k q (by rw [List.getElem?_append_left (List.getElem?_eq_some_iff.mp hk).1]; exact hk)
theorem nt_P2 {D : va_G} {cl : List vw_C} {w1 w2 : va_W} {H : Heap} (h : va_P D cl (w1 ++ w2) H) : va_P D cl w2 H := fun k q hk => h (w1.length + k) q (by rw [List.getElem?_append_right (Nat.le_add_right _ _), Nat.add_sub_cancel_left]; exact hk)
theorem nt_D1 {A : Nat → Prop} {w1 w2 : va_W} (h : va_D A (w1 ++ w2)) : va_D A w1 := by
  have key : ∀ (k : Nat) (q : Nat × va_E), w1[k]? = some q → (w1 ++ w2)[k]? = some q := fun k q hk => by rw [List.getElem?_append_left (List.getElem?_eq_some_iff.mp hk).1]; exact hk
  exact ⟨fun i j x y hi hj hxy => h.1 i j x y (key i x hi) (key j y hj) hxy, fun k q hk => h.2 k q (key k q hk)⟩
theorem nt_D2 {A : Nat → Prop} {w1 w2 : va_W} (h : va_D A (w1 ++ w2)) : va_D A w2 := by
  have key : ∀ (k : Nat) (q : Nat × va_E), w2[k]? = some q → (w1 ++ w2)[w1.length + k]? = some q := fun k q hk => by rw [List.getElem?_append_right (Nat.le_add_right _ _), Nat.add_sub_cancel_left]; exact hk
  exact ⟨fun i j x y hi hj hxy => by have := h.1 _ _ x y (key i x hi) (key j y hj) hxy; omega, fun k q hk => h.2 _ q (key k q hk)⟩
theorem nt_join1 {A : Nat → Prop} {D : va_G} {cl : List vw_C} {w1 w2 w1' : va_W} {H H1 : Heap} (hP : va_P D cl (w1 ++ w2) H) (hD : va_D A (w1 ++ w2)) (hk : ∀ q : Nat, q < H.size → ¬ va_A w1 H.size q → H1[q]? = H[q]?) (hF : ∀ q, va_A w1 H.size q → A q) (hP1 : va_P D cl w1' H1) (hD1 : va_D (va_A w1 H.size) w1') : va_P D cl (w1' ++ w2) H1 ∧ va_D A (w1' ++ w2) := by
  have ap : ∀ (k : Nat) (q : Nat × va_E), w2[k]? = some q → q.1 < H.size ∧ ¬ va_A w1 H.size q.1 := by
    intro k q hq
    refine ⟨(nt_P2 hP k q hq).lt, fun h => ?_⟩
    rcases h with ⟨k2, e, h⟩ | h
    · exact nt_ap hD (List.mem_of_getElem? h) (List.mem_of_getElem? hq) rfl
    · have := (nt_P2 hP k q hq).lt
      omega
  refine ⟨va_P.app hP1 (fun k q hq => ((nt_P2 hP) k q hq).kept (hk q.1 (ap k q hq).1 (ap k q hq).2)), va_D.app (hD1.weaken (fun k q _ h => hF q.1 h)) (nt_D2 hD) (fun i j x y hi hj hxy => ?_)⟩
  exact (ap j y hj).2 (by rw [← hxy]; exact hD1.2 i x hi)
theorem nt_join2 {A : Nat → Prop} {D : va_G} {cl : List vw_C} {w1 w2 w2' : va_W} {H H1 : Heap} (hP : va_P D cl (w1 ++ w2) H) (hD : va_D A (w1 ++ w2)) (hk : ∀ q : Nat, q < H.size → ¬ va_A w2 H.size q → H1[q]? = H[q]?) (hF : ∀ q, va_A w2 H.size q → A q) (hP1 : va_P D cl w2' H1) (hD1 : va_D (va_A w2 H.size) w2') : va_P D cl (w1 ++ w2') H1 ∧ va_D A (w1 ++ w2') := by
  have ap : ∀ (k : Nat) (q : Nat × va_E), w1[k]? = some q → q.1 < H.size ∧ ¬ va_A w2 H.size q.1 := by
    intro k q hq
    refine ⟨(nt_P1 hP k q hq).lt, fun h => ?_⟩
    rcases h with ⟨k2, e, h⟩ | h
    · exact nt_ap hD (List.mem_of_getElem? hq) (List.mem_of_getElem? h) rfl
    · have := (nt_P1 hP k q hq).lt
      omega
  refine ⟨va_P.app (fun k q hq => ((nt_P1 hP) k q hq).kept (hk q.1 (ap k q hq).1 (ap k q hq).2)) hP1, va_D.app (nt_D1 hD) (hD1.weaken (fun k q _ h => hF q.1 h)) (fun i j x y hi hj hxy => ?_)⟩
  exact (ap i x hi).2 (by rw [hxy]; exact hD1.2 j y hj)
theorem nt_hF1 {A : Nat → Prop} {w1 w2 : va_W} {H0 H : Heap} {locs : List Loc} (hD : va_D A (w1 ++ w2)) (hS : va_S A H0 H locs) (hA : ∀ q : Nat, H0.size ≤ q → A q) : ∀ q, va_A w1 H.size q → A q := by
  intro q h
  rcases h with ⟨k, e, h⟩ | h
  · exact (nt_D1 hD).2 k (q, e) h
  · exact hA q (Nat.le_trans hS.1 h)
theorem nt_hF2 {A : Nat → Prop} {w1 w2 : va_W} {H0 H : Heap} {locs : List Loc} (hD : va_D A (w1 ++ w2)) (hS : va_S A H0 H locs) (hA : ∀ q : Nat, H0.size ≤ q → A q) : ∀ q, va_A w2 H.size q → A q := by
  intro q h
  rcases h with ⟨k, e, h⟩ | h
  · exact (nt_D2 hD).2 k (q, e) h
  · exact hA q (Nat.le_trans hS.1 h)
/-! the judgement -/
/-- program, environment, start state, method, arguments, frames below, method and code, aim, cells that may change -/
abbrev nt_G : Type := Program × Env × State × MethodId × Array Value × List Frame × Method × Code × (State → Prop) × (Nat → Prop)
abbrev nt_sO (G : nt_G) : State := G.2.2.1
abbrev nt_mO (G : nt_G) : MethodId := G.2.2.2.1
abbrev nt_aO (G : nt_G) : Array Value := G.2.2.2.2.1
abbrev nt_bO (G : nt_G) : List Frame := G.2.2.2.2.2.1
abbrev nt_tO (G : nt_G) : Method := G.2.2.2.2.2.2.1
abbrev nt_cO (G : nt_G) : Code := G.2.2.2.2.2.2.2.1
abbrev nt_QO (G : nt_G) : State → Prop := G.2.2.2.2.2.2.2.2.1
abbrev nt_AO (G : nt_G) : Nat → Prop := G.2.2.2.2.2.2.2.2.2
def nt_F (G : nt_G) (D : va_G) (cI cS cP : ClassId) (cc : ByteArray) (own : String) (nL : Nat) : Prop :=
  G.1.tables.exec = Jvm.exec ∧ (nt_cO G).code = cc ∧ (nt_cO G).maxLocals = nL ∧ (nt_sO G).vm.findClass own = some (nt_mO G).cls ∧ (∀ w ∈ lw_all, w.before (nt_aO G) (nt_sO G) = true) ∧ nt_K D cI cS cP (nt_sO G) ∧ ∀ q : Nat, (nt_sO G).heap.size ≤ q → (nt_AO G) q
def nt_X (l : Launch) (R : Room) (D : va_G) (nL : Nat) (G : nt_G) (L : List Nat) (f : Nat → va_E) (L2 : List Nat) (f2 : Nat → va_E) (kc ks : Nat) (lv : List (Nat × Value)) (pc : Nat) (st : List Value) : Prop :=
  ∀ (H : Heap) (locs : List Loc) (ls : Array Slot), va_P D vwCl (va_pl L f ++ va_pl L2 f2) H → va_D (nt_AO G) (va_pl L f ++ va_pl L2 f2) → va_S (nt_AO G) (nt_sO G).heap H locs → lv_has ls nL lv →
    W G.1 l G.2.1 R (nt_sO G) (nt_mO G) (nt_aO G) (nt_bO G) (nt_tO G) (nt_cO G) H locs kc ks (nt_QO G) (F0 (nt_mO G) pc ls st)
section NX
variable {l : Launch} {R : Room} {D : va_G} {nL : Nat} {G : nt_G} {L L2 : List Nat} {f f2 : Nat → va_E} {kc ks : Nat} {lv : List (Nat × Value)} {pc : Nat} {st : List Value}
variable {cI cS cP : ClassId} {cc : ByteArray} {own : String}
/-! one row an instruction -/
theorem nx_iconst (F : nt_F G D cI cS cP cc own nL) (pc' : Nat) (hpc : pc + 1 = pc') {n : Int} {v : Int32} (hdg : decode cc pc = .ok (.iconst n, 1)) (hv : Int32.ofInt n = v)
    (K : nt_X l R D nL G L f L2 f2 kc ks lv pc' (.int v :: st)) : nt_X l R D nL G L f L2 f2 kc ks lv pc st := by
  subst hpc
  exact fun H locs ls hP hD hS hl => lv_iconst F.1 F.2.1 hdg hv (K H locs ls hP hD hS hl)
theorem nx_bipush (F : nt_F G D cI cS cP cc own nL) (pc' : Nat) (hpc : pc + 2 = pc') {n : Int} {v : Int32} (hdg : decode cc pc = .ok (.bipush n, 2)) (hv : (Int8.ofInt n).toInt32 = v)
    (K : nt_X l R D nL G L f L2 f2 kc ks lv pc' (.int v :: st)) : nt_X l R D nL G L f L2 f2 kc ks lv pc st := by
  subst hpc
  exact fun H locs ls hP hD hS hl => lv_bipush F.1 F.2.1 hdg hv (K H locs ls hP hD hS hl)
theorem nx_sipush (F : nt_F G D cI cS cP cc own nL) (pc' : Nat) (hpc : pc + 3 = pc') {n : Int} {v : Int32} (hdg : decode cc pc = .ok (.sipush n, 3)) (hv : (Int16.ofInt n).toInt32 = v)
    (K : nt_X l R D nL G L f L2 f2 kc ks lv pc' (.int v :: st)) : nt_X l R D nL G L f L2 f2 kc ks lv pc st := by
  subst hpc
  exact fun H locs ls hP hD hS hl => lv_sipush F.1 F.2.1 hdg hv (K H locs ls hP hD hS hl)
theorem nx_ldc (F : nt_F G D cI cS cP cc own nL) (pc' : Nat) (hpc : pc + 2 = pc') {index : Nat} {v : Int32} (hdg : decode cc pc = .ok (.ldc index, 2)) (hw : Jvm.Cond.constant own index v ∈ lw_all)
    (K : nt_X l R D nL G L f L2 f2 kc ks lv pc' (.int v :: st)) : nt_X l R D nL G L f L2 f2 kc ks lv pc st := by
  subst hpc
  exact fun H locs ls hP hD hS hl => lv_ldc F.1 F.2.1 F.2.2.2.1 (F.2.2.2.2.1 _ hw) hdg (K H locs ls hP hD hS hl)
theorem nx_iload_n (F : nt_F G D cI cS cP cc own nL) (pc' : Nat) (hpc : pc + 1 = pc') {k : Fin 4} {v : Int32} (hdg : decode cc pc = .ok (.iload_n k, 1)) (j : Nat) (hj : lv[j]? = some ((k : Nat), .int v))
    (K : nt_X l R D nL G L f L2 f2 kc ks lv pc' (.int v :: st)) : nt_X l R D nL G L f L2 f2 kc ks lv pc st := by
  subst hpc
  exact fun H locs ls hP hD hS hl => lv_iload_n F.1 F.2.1 hdg rfl (lv_at hl j hj) (K H locs ls hP hD hS hl)
theorem nx_iload (F : nt_F G D cI cS cP cc own nL) (pc' : Nat) (hpc : pc + 2 = pc') {k : Nat} {v : Int32} (hdg : decode cc pc = .ok (.iload k, 2)) (j : Nat) (hj : lv[j]? = some (k, .int v))
    (K : nt_X l R D nL G L f L2 f2 kc ks lv pc' (.int v :: st)) : nt_X l R D nL G L f L2 f2 kc ks lv pc st := by
  subst hpc
  exact fun H locs ls hP hD hS hl => lv_iload F.1 F.2.1 hdg (lv_at hl j hj) (K H locs ls hP hD hS hl)
theorem nx_aload_n (F : nt_F G D cI cS cP cc own nL) (pc' : Nat) (hpc : pc + 1 = pc') {k : Fin 4} {v : Nat} (hdg : decode cc pc = .ok (.aload_n k, 1)) (j : Nat) (hj : lv[j]? = some ((k : Nat), .ref v))
    (K : nt_X l R D nL G L f L2 f2 kc ks lv pc' (.ref v :: st)) : nt_X l R D nL G L f L2 f2 kc ks lv pc st := by
  subst hpc
  exact fun H locs ls hP hD hS hl => lv_aload_n F.1 F.2.1 hdg rfl (lv_at hl j hj) (K H locs ls hP hD hS hl)
theorem nx_aload (F : nt_F G D cI cS cP cc own nL) (pc' : Nat) (hpc : pc + 2 = pc') {k : Nat} {v : Nat} (hdg : decode cc pc = .ok (.aload k, 2)) (j : Nat) (hj : lv[j]? = some (k, .ref v))
    (K : nt_X l R D nL G L f L2 f2 kc ks lv pc' (.ref v :: st)) : nt_X l R D nL G L f L2 f2 kc ks lv pc st := by
  subst hpc
  exact fun H locs ls hP hD hS hl => lv_aload F.1 F.2.1 hdg (lv_at hl j hj) (K H locs ls hP hD hS hl)
theorem nx_istore_n (F : nt_F G D cI cS cP cc own nL) (pc' : Nat) (hpc : pc + 1 = pc') {k : Fin 4} {v : Int32} (hdg : decode cc pc = .ok (.istore_n k, 1)) (hn : (k : Nat) < nL) (lv' : List (Nat × Value)) (hl' : ((k : Nat), Value.int v) :: lv.filter (fun q => !(q.1 == (k : Nat)) && !(q.1 + 1 == (k : Nat) && q.2.category == 2)) = lv')
    (K : nt_X l R D nL G L f L2 f2 kc ks lv' pc' st) : nt_X l R D nL G L f L2 f2 kc ks lv pc (.int v :: st) := by
  subst hpc
  exact fun H locs ls hP hD hS hl => lv_istore_n F.1 F.2.1 hdg rfl hl hn hl' (fun ls' h => K H locs ls' hP hD hS h)
theorem nx_istore (F : nt_F G D cI cS cP cc own nL) (pc' : Nat) (hpc : pc + 2 = pc') {k : Nat} {v : Int32} (hdg : decode cc pc = .ok (.istore k, 2)) (hn : k < nL) (lv' : List (Nat × Value)) (hl' : (k, Value.int v) :: lv.filter (fun q => !(q.1 == k) && !(q.1 + 1 == k && q.2.category == 2)) = lv')
    (K : nt_X l R D nL G L f L2 f2 kc ks lv' pc' st) : nt_X l R D nL G L f L2 f2 kc ks lv pc (.int v :: st) := by
  subst hpc
  exact fun H locs ls hP hD hS hl => lv_istore F.1 F.2.1 hdg hl hn hl' (fun ls' h => K H locs ls' hP hD hS h)
theorem nx_astore_n (F : nt_F G D cI cS cP cc own nL) (pc' : Nat) (hpc : pc + 1 = pc') {k : Fin 4} {v : Nat} (hdg : decode cc pc = .ok (.astore_n k, 1)) (hn : (k : Nat) < nL) (lv' : List (Nat × Value)) (hl' : ((k : Nat), Value.ref v) :: lv.filter (fun q => !(q.1 == (k : Nat)) && !(q.1 + 1 == (k : Nat) && q.2.category == 2)) = lv')
    (K : nt_X l R D nL G L f L2 f2 kc ks lv' pc' st) : nt_X l R D nL G L f L2 f2 kc ks lv pc (.ref v :: st) := by
  subst hpc
  exact fun H locs ls hP hD hS hl => lv_astore_n F.1 F.2.1 hdg rfl hl hn hl' (fun ls' h => K H locs ls' hP hD hS h)
theorem nx_astore (F : nt_F G D cI cS cP cc own nL) (pc' : Nat) (hpc : pc + 2 = pc') {k : Nat} {v : Nat} (hdg : decode cc pc = .ok (.astore k, 2)) (hn : k < nL) (lv' : List (Nat × Value)) (hl' : (k, Value.ref v) :: lv.filter (fun q => !(q.1 == k) && !(q.1 + 1 == k && q.2.category == 2)) = lv')
    (K : nt_X l R D nL G L f L2 f2 kc ks lv' pc' st) : nt_X l R D nL G L f L2 f2 kc ks lv pc (.ref v :: st) := by
  subst hpc
  exact fun H locs ls hP hD hS hl => lv_astore F.1 F.2.1 hdg hl hn hl' (fun ls' h => K H locs ls' hP hD hS h)
theorem nx_iinc (F : nt_F G D cI cS cP cc own nL) (pc' : Nat) (hpc : pc + 3 = pc') {k : Nat} {n : Int} {v v' : Int32} (hdg : decode cc pc = .ok (.iinc k n, 3)) (j : Nat) (hj : lv[j]? = some (k, .int v)) (hv : v + Int32.ofInt n = v') (hn : k < nL) (lv' : List (Nat × Value)) (hl' : (k, Value.int v') :: lv.filter (fun q => !(q.1 == k) && !(q.1 + 1 == k && q.2.category == 2)) = lv')
    (K : nt_X l R D nL G L f L2 f2 kc ks lv' pc' st) : nt_X l R D nL G L f L2 f2 kc ks lv pc st := by
  subst hpc
  exact fun H locs ls hP hD hS hl => lv_iinc F.1 F.2.1 hdg hl hj hv hn hl' (fun ls' h => K H locs ls' hP hD hS h)
/-- fewer locals, or another order -/
theorem nx_lv (is : List Nat) (lv' : List (Nat × Value)) (h : lv_pick lv is = lv') (K : nt_X l R D nL G L f L2 f2 kc ks lv' pc st) : nt_X l R D nL G L f L2 f2 kc ks lv pc st :=
  fun H locs ls hP hD hS hl => K H locs ls hP hD hS (lv_sub hl is h)
theorem nx_wide {kc' ks' : Nat} (h1 : kc ≤ kc') (h2 : ks ≤ ks') (K : nt_X l R D nL G L f L2 f2 kc' ks' lv pc st) : nt_X l R D nL G L f L2 f2 kc ks lv pc st :=
  fun H locs ls hP hD hS hl => W.widen h1 h2 (K H locs ls hP hD hS hl)
/-- what is on top, under another name -/
theorem nx_topi {v v' : Int32} (hv : v = v') (K : nt_X l R D nL G L f L2 f2 kc ks lv pc (.int v' :: st)) : nt_X l R D nL G L f L2 f2 kc ks lv pc (.int v :: st) := by
  subst hv
  exact K
theorem nx_iadd (F : nt_F G D cI cS cP cc own nL) (pc' : Nat) (hpc : pc + 1 = pc') {x y v : Int32} (hdg : decode cc pc = .ok (.iadd, 1)) (hv : x + y = v)
    (K : nt_X l R D nL G L f L2 f2 kc ks lv pc' (.int v :: st)) : nt_X l R D nL G L f L2 f2 kc ks lv pc (.int y :: .int x :: st) := by
  subst hpc hv
  exact fun H locs ls hP hD hS hl => lv_iadd F.1 F.2.1 hdg (K H locs ls hP hD hS hl)
theorem nx_isub (F : nt_F G D cI cS cP cc own nL) (pc' : Nat) (hpc : pc + 1 = pc') {x y v : Int32} (hdg : decode cc pc = .ok (.isub, 1)) (hv : x - y = v)
    (K : nt_X l R D nL G L f L2 f2 kc ks lv pc' (.int v :: st)) : nt_X l R D nL G L f L2 f2 kc ks lv pc (.int y :: .int x :: st) := by
  subst hpc hv
  exact fun H locs ls hP hD hS hl => lv_isub F.1 F.2.1 hdg (K H locs ls hP hD hS hl)
theorem nx_imul (F : nt_F G D cI cS cP cc own nL) (pc' : Nat) (hpc : pc + 1 = pc') {x y v : Int32} (hdg : decode cc pc = .ok (.imul, 1)) (hv : x * y = v)
    (K : nt_X l R D nL G L f L2 f2 kc ks lv pc' (.int v :: st)) : nt_X l R D nL G L f L2 f2 kc ks lv pc (.int y :: .int x :: st) := by
  subst hpc hv
  exact fun H locs ls hP hD hS hl => lv_imul F.1 F.2.1 hdg (K H locs ls hP hD hS hl)
theorem nx_iand (F : nt_F G D cI cS cP cc own nL) (pc' : Nat) (hpc : pc + 1 = pc') {x y v : Int32} (hdg : decode cc pc = .ok (.iand, 1)) (hv : x &&& y = v)
    (K : nt_X l R D nL G L f L2 f2 kc ks lv pc' (.int v :: st)) : nt_X l R D nL G L f L2 f2 kc ks lv pc (.int y :: .int x :: st) := by
  subst hpc hv
  exact fun H locs ls hP hD hS hl => lv_iand F.1 F.2.1 hdg (K H locs ls hP hD hS hl)
theorem nx_ixor (F : nt_F G D cI cS cP cc own nL) (pc' : Nat) (hpc : pc + 1 = pc') {x y v : Int32} (hdg : decode cc pc = .ok (.ixor, 1)) (hv : x ^^^ y = v)
    (K : nt_X l R D nL G L f L2 f2 kc ks lv pc' (.int v :: st)) : nt_X l R D nL G L f L2 f2 kc ks lv pc (.int y :: .int x :: st) := by
  subst hpc hv
  exact fun H locs ls hP hD hS hl => lv_ixor F.1 F.2.1 hdg (K H locs ls hP hD hS hl)
theorem nx_irem (F : nt_F G D cI cS cP cc own nL) (pc' : Nat) (hpc : pc + 1 = pc') {x y v : Int32} (hdg : decode cc pc = .ok (.irem, 1)) (hne : ¬ y = 0) (hv : x - x / y * y = v)
    (K : nt_X l R D nL G L f L2 f2 kc ks lv pc' (.int v :: st)) : nt_X l R D nL G L f L2 f2 kc ks lv pc (.int y :: .int x :: st) := by
  subst hpc hv
  exact fun H locs ls hP hD hS hl => lv_irem F.1 F.2.1 hdg hne (K H locs ls hP hD hS hl)
theorem nx_ishr (F : nt_F G D cI cS cP cc own nL) (pc' : Nat) (hpc : pc + 1 = pc') {x y v : Int32} (hdg : decode cc pc = .ok (.ishr, 1)) (hv : x >>> (y &&& 31) = v)
    (K : nt_X l R D nL G L f L2 f2 kc ks lv pc' (.int v :: st)) : nt_X l R D nL G L f L2 f2 kc ks lv pc (.int y :: .int x :: st) := by
  subst hpc hv
  exact fun H locs ls hP hD hS hl => lv_ishr F.1 F.2.1 hdg (K H locs ls hP hD hS hl)
theorem nx_iushr (F : nt_F G D cI cS cP cc own nL) (pc' : Nat) (hpc : pc + 1 = pc') {x y v : Int32} (hdg : decode cc pc = .ok (.iushr, 1)) (hv : (x.toUInt32 >>> (y.toUInt32 &&& Int32.toUInt32 31)).toInt32 = v)
    (K : nt_X l R D nL G L f L2 f2 kc ks lv pc' (.int v :: st)) : nt_X l R D nL G L f L2 f2 kc ks lv pc (.int y :: .int x :: st) := by
  subst hpc
  exact fun H locs ls hP hD hS hl => lv_iushr F.1 F.2.1 hdg hv (K H locs ls hP hD hS hl)
theorem nx_i2s (F : nt_F G D cI cS cP cc own nL) (pc' : Nat) (hpc : pc + 1 = pc') {x v : Int32} (hdg : decode cc pc = .ok (.i2s, 1)) (hv : nt_s16 x = v)
    (K : nt_X l R D nL G L f L2 f2 kc ks lv pc' (.int v :: st)) : nt_X l R D nL G L f L2 f2 kc ks lv pc (.int x :: st) := by
  subst hpc
  exact fun H locs ls hP hD hS hl => lv_i2s F.1 F.2.1 hdg hv (K H locs ls hP hD hS hl)
theorem nx_dup (F : nt_F G D cI cS cP cc own nL) (pc' : Nat) (hpc : pc + 1 = pc') {v : Value} (hdg : decode cc pc = .ok (.dup, 1)) (hv : v.category = 1)
    (K : nt_X l R D nL G L f L2 f2 kc ks lv pc' (v :: v :: st)) : nt_X l R D nL G L f L2 f2 kc ks lv pc (v :: st) := by
  subst hpc
  exact fun H locs ls hP hD hS hl => lv_dup F.1 F.2.1 hdg hv (K H locs ls hP hD hS hl)
theorem nx_dup2 (F : nt_F G D cI cS cP cc own nL) (pc' : Nat) (hpc : pc + 1 = pc') {v w : Value} (hdg : decode cc pc = .ok (.dup2, 1)) (hv : v.category = 1) (hw : w.category = 1)
    (K : nt_X l R D nL G L f L2 f2 kc ks lv pc' (v :: w :: v :: w :: st)) : nt_X l R D nL G L f L2 f2 kc ks lv pc (v :: w :: st) := by
  subst hpc
  exact fun H locs ls hP hD hS hl => lv_dup2_11 F.1 F.2.1 hdg hv hw (K H locs ls hP hD hS hl)
theorem nx_goto (F : nt_F G D cI cS cP cc own nL) (tgt : Nat) {off : Int} (hdg : decode cc pc = .ok (.goto off, 3)) (ht : (pc : Int) + off = (tgt : Int))
    (K : nt_X l R D nL G L f L2 f2 kc ks lv tgt st) : nt_X l R D nL G L f L2 f2 kc ks lv pc st :=
  fun H locs ls hP hD hS hl => lv_goto F.1 F.2.1 hdg ht (K H locs ls hP hD hS hl)
theorem nx_ge (F : nt_F G D cI cS cP cc own nL) (pc' tgt : Nat) (hpc : pc + 3 = pc') {a b : Nat} {off : Int} (hdg : decode cc pc = .ok (.if_icmp .ge off, 3)) (ht : (pc : Int) + off = (tgt : Int)) (ha : a < 2147483648) (hb : b < 2147483648)
    (kt : b ≤ a → nt_X l R D nL G L f L2 f2 kc ks lv tgt st) (kf : a < b → nt_X l R D nL G L f L2 f2 kc ks lv pc' st) : nt_X l R D nL G L f L2 f2 kc ks lv pc (.int (nI b) :: .int (nI a) :: st) := by
  subst hpc
  exact fun H locs ls hP hD hS hl => lv_icmp_ge F.1 F.2.1 hdg ht (fun h => kt ((nI_leI hb ha).mp h) H locs ls hP hD hS hl) (fun h => kf (Nat.lt_of_not_le (fun q => h ((nI_leI hb ha).mpr q))) H locs ls hP hD hS hl)
theorem nx_gt (F : nt_F G D cI cS cP cc own nL) (pc' tgt : Nat) (hpc : pc + 3 = pc') {a b : Nat} {off : Int} (hdg : decode cc pc = .ok (.if_icmp .gt off, 3)) (ht : (pc : Int) + off = (tgt : Int)) (ha : a < 2147483648) (hb : b < 2147483648)
    (kt : b < a → nt_X l R D nL G L f L2 f2 kc ks lv tgt st) (kf : a ≤ b → nt_X l R D nL G L f L2 f2 kc ks lv pc' st) : nt_X l R D nL G L f L2 f2 kc ks lv pc (.int (nI b) :: .int (nI a) :: st) := by
  subst hpc
  exact fun H locs ls hP hD hS hl => lv_icmp_gt F.1 F.2.1 hdg ht (fun h => kt ((nI_ltI hb ha).mp h) H locs ls hP hD hS hl) (fun h => kf (Nat.le_of_not_lt (fun q => h ((nI_ltI hb ha).mpr q))) H locs ls hP hD hS hl)
theorem nx_ne (F : nt_F G D cI cS cP cc own nL) (pc' tgt : Nat) (hpc : pc + 3 = pc') {a b : Nat} {off : Int} (hdg : decode cc pc = .ok (.if_icmp .ne off, 3)) (ht : (pc : Int) + off = (tgt : Int)) (ha : a < 2147483648) (hb : b < 2147483648)
    (kt : a ≠ b → nt_X l R D nL G L f L2 f2 kc ks lv tgt st) (kf : a = b → nt_X l R D nL G L f L2 f2 kc ks lv pc' st) : nt_X l R D nL G L f L2 f2 kc ks lv pc (.int (nI b) :: .int (nI a) :: st) := by
  subst hpc
  exact fun H locs ls hP hD hS hl => lv_icmp_ne F.1 F.2.1 hdg ht (fun h => kt (fun q => h (by rw [q])) H locs ls hP hD hS hl) (fun h => kf ((nI_eq ha hb).mp h) H locs ls hP hD hS hl)
/-- two equal ints -/
theorem nx_eqq (F : nt_F G D cI cS cP cc own nL) (tgt : Nat) {v : Int32} {off : Int} (hdg : decode cc pc = .ok (.if_icmp .eq off, 3)) (ht : (pc : Int) + off = (tgt : Int))
    (kt : nt_X l R D nL G L f L2 f2 kc ks lv tgt st) : nt_X l R D nL G L f L2 f2 kc ks lv pc (.int v :: .int v :: st) :=
  fun H locs ls hP hD hS hl => lv_icmp_eq F.1 F.2.1 hdg ht (fun _ => kt H locs ls hP hD hS hl) (fun h => absurd rfl h)
theorem nx_ifne (F : nt_F G D cI cS cP cc own nL) (pc' tgt : Nat) (hpc : pc + 3 = pc') {a : Nat} {off : Int} (hdg : decode cc pc = .ok (.ifCond .ne off, 3)) (ht : (pc : Int) + off = (tgt : Int)) (ha : a < 2147483648)
    (kt : a ≠ 0 → nt_X l R D nL G L f L2 f2 kc ks lv tgt st) (kf : a = 0 → nt_X l R D nL G L f L2 f2 kc ks lv pc' st) : nt_X l R D nL G L f L2 f2 kc ks lv pc (.int (nI a) :: st) := by
  subst hpc
  exact fun H locs ls hP hD hS hl => lv_if_ne F.1 F.2.1 hdg ht (fun h => kt (fun q => h (by rw [q, nI_0])) H locs ls hP hD hS hl) (fun h => kf ((nI_eq ha (by decide)).mp (h.trans nI_0.symm)) H locs ls hP hD hS hl)
/-! cells: read (in either pool), written (in the first pool) -/
/-- the cell a holds w, in one of the two pools -/
def nt_in (L : List Nat) (f : Nat → va_E) (L2 : List Nat) (f2 : Nat → va_E) (a : Nat) (w : va_E) : Prop := (a ∈ L ∧ f a = w) ∨ (a ∈ L2 ∧ f2 a = w)
theorem nt_in1 {a : Nat} {w : va_E} (h : a ∈ L) (hw : f a = w) : nt_in L f L2 f2 a w := Or.inl ⟨h, hw⟩
theorem nt_in2 {a : Nat} {w : va_E} (h : a ∈ L2) (hw : f2 a = w) : nt_in L f L2 f2 a w := Or.inr ⟨h, hw⟩
theorem nt_in.at {a : Nat} {w : va_E} (h : nt_in L f L2 f2 a w) : ∃ k : Nat, (va_pl L f ++ va_pl L2 f2)[k]? = some (a, w) := by
  rcases h with ⟨h, rfl⟩ | ⟨h, rfl⟩
  · exact nt_mem1 h
  · exact nt_mem2 h
theorem nx_get (F : nt_F G D cI cS cP cc own nL) (pc' : Nat) (hpc : pc + 3 = pc') {ref C : String} {T : u_T} {N ci index a : Nat} {fs : List Value} {v : Value} (hdg : decode cc pc = .ok (.getfield index, 3)) (ha : nt_in L f L2 f2 a (.inr (ci, fs))) (hin : ∀ w ∈ u_ws C T N, w ∈ lw_all) (hc : vwCl[ci]? = some (C, T, N)) (k : Nat) (hk : k < N) (hlink : Cond.fieldLink own index ref (T k).2.1 (T k).2.2.1 ∈ lw_all) (hsame : (T k).1 = ref) (hv : fs[k]? = some v)
    (K : nt_X l R D nL G L f L2 f2 kc ks lv pc' (v :: st)) : nt_X l R D nL G L f L2 f2 kc ks lv pc (.ref a :: st) := by
  subst hpc
  intro H locs ls hP hD hS hl
  obtain ⟨q0, hq⟩ := ha.at
  exact va_get F.1 F.2.1 F.2.2.2.2.1 hin F.2.2.2.1 F.2.2.2.2.2.1.1 hP q0 hq hc k hk (F.2.2.2.2.1 _ hlink) (fun x h => by rw [← hsame]; exact h) hv hdg (K H locs ls hP hD hS hl)
theorem nx_ald (F : nt_F G D cI cS cP cc own nL) (pc' : Nat) (hpc : pc + 1 = pc') {a k n : Nat} {g : Nat → Int32} {v : Int32} (hdg : decode cc pc = .ok (.iaload, 1)) (ha : nt_in L f L2 f2 a (.inl (cI, n, .inl g))) (hk : k < n) (hn : n < 2147483648) (hv : g k = v)
    (K : nt_X l R D nL G L f L2 f2 kc ks lv pc' (.int v :: st)) : nt_X l R D nL G L f L2 f2 kc ks lv pc (.int (nI k) :: .ref a :: st) := by
  subst hpc hv
  intro H locs ls hP hD hS hl
  obtain ⟨q0, hq⟩ := ha.at
  refine va_iald F.1 F.2.1 F.2.2.2.2.2.1.1 hP q0 0 hq rfl (vp_in_nI hk hn) hdg ?_
  rw [nI_clamp (show k < 2 ^ 31 by omega)]
  exact K H locs ls hP hD hS hl
theorem nx_sld (F : nt_F G D cI cS cP cc own nL) (pc' : Nat) (hpc : pc + 1 = pc') {a k n : Nat} {g : Nat → Int32} {v : Int32} (hdg : decode cc pc = .ok (.saload, 1)) (ha : nt_in L f L2 f2 a (.inl (cS, n, .inl g))) (hk : k < n) (hn : n < 2147483648) (hv : g k = v)
    (K : nt_X l R D nL G L f L2 f2 kc ks lv pc' (.int v :: st)) : nt_X l R D nL G L f L2 f2 kc ks lv pc (.int (nI k) :: .ref a :: st) := by
  subst hpc hv
  intro H locs ls hP hD hS hl
  obtain ⟨q0, hq⟩ := ha.at
  refine va_sald F.1 F.2.1 F.2.2.2.2.2.1.1 hP q0 1 hq rfl (vp_in_nI hk hn) hdg ?_
  rw [nI_clamp (show k < 2 ^ 31 by omega)]
  exact K H locs ls hP hD hS hl
theorem nx_qld (F : nt_F G D cI cS cP cc own nL) (pc' : Nat) (hpc : pc + 1 = pc') {a k n y : Nat} {g : Nat → Option Nat} (hdg : decode cc pc = .ok (.aaload, 1)) (ha : nt_in L f L2 f2 a (.inl (cP, n, .inr (.inr (.inr (.inr g)))))) (hk : k < n) (hn : n < 2147483648) (hv : g k = some y)
    (K : nt_X l R D nL G L f L2 f2 kc ks lv pc' (.ref y :: st)) : nt_X l R D nL G L f L2 f2 kc ks lv pc (.int (nI k) :: .ref a :: st) := by
  subst hpc
  intro H locs ls hP hD hS hl
  obtain ⟨q0, hq⟩ := ha.at
  refine va_aldq F.1 F.2.1 F.2.2.2.2.2.1.1 hP q0 2 hq rfl (vp_in_nI hk hn) hdg ?_
  rw [nI_clamp (show k < 2 ^ 31 by omega), hv]
  exact K H locs ls hP hD hS hl
theorem nx_alen (F : nt_F G D cI cS cP cc own nL) (pc' : Nat) (hpc : pc + 1 = pc') {a n : Nat} {g : Nat → Int32} (hdg : decode cc pc = .ok (.arraylength, 1)) (ha : nt_in L f L2 f2 a (.inl (cS, n, .inl g)))
    (K : nt_X l R D nL G L f L2 f2 kc ks lv pc' (.int (nI n) :: st)) : nt_X l R D nL G L f L2 f2 kc ks lv pc (.ref a :: st) := by
  subst hpc
  intro H locs ls hP hD hS hl
  obtain ⟨q0, hq⟩ := ha.at
  exact va_alen (v := nI n) F.1 F.2.1 F.2.2.2.2.2.1.1 hP q0 1 hq rfl rfl hdg (K H locs ls hP hD hS hl)
theorem nx_ast (F : nt_F G D cI cS cP cc own nL) (pc' : Nat) (hpc : pc + 1 = pc') {a k n : Nat} {g : Nat → Int32} {v : Int32} (hdg : decode cc pc = .ok (.iastore, 1)) (ha : a ∈ L) (hf : f a = .inl (cI, n, .inl g)) (hk : k < n) (hn : n < 2147483648) (f' : Nat → va_E) (hf' : va_up f a (.inl (cI, n, .inl (upd g k v))) = f')
    (K : nt_X l R D nL G L f' L2 f2 kc ks lv pc' st) : nt_X l R D nL G L f L2 f2 kc ks lv pc (.int v :: .int (nI k) :: .ref a :: st) := by
  subst hpc hf'
  intro H locs ls hP hD hS hl
  obtain ⟨q0, hq⟩ := nt_mem1 (f := f) (L2 := L2) (f2 := f2) ha
  have hq2 : (va_pl L f ++ va_pl L2 f2)[q0]? = some (a, .inl (cI, n, .inl g)) := by rw [hq, hf]
  refine va_iast F.1 F.2.1 F.2.2.2.2.2.1.1 hP hD hS q0 0 hq2 rfl (vp_in_nI hk hn) hdg (fun H1 locs1 hP1 hD1 hS1 => ?_)
  rw [nI_clamp (show k < 2 ^ 31 by omega), nt_set1 hD ha hq] at hP1 hD1
  exact K H1 locs1 ls hP1 hD1 hS1 hl
theorem nx_sst (F : nt_F G D cI cS cP cc own nL) (pc' : Nat) (hpc : pc + 1 = pc') {a k n : Nat} {g : Nat → Int32} {v : Int32} (hdg : decode cc pc = .ok (.sastore, 1)) (ha : a ∈ L) (hf : f a = .inl (cS, n, .inl g)) (hk : k < n) (hn : n < 2147483648) (f' : Nat → va_E) (hf' : va_up f a (.inl (cS, n, .inl (upd g k (nt_s16 v)))) = f')
    (K : nt_X l R D nL G L f' L2 f2 kc ks lv pc' st) : nt_X l R D nL G L f L2 f2 kc ks lv pc (.int v :: .int (nI k) :: .ref a :: st) := by
  subst hpc hf'
  intro H locs ls hP hD hS hl
  obtain ⟨q0, hq⟩ := nt_mem1 (f := f) (L2 := L2) (f2 := f2) ha
  have hq2 : (va_pl L f ++ va_pl L2 f2)[q0]? = some (a, .inl (cS, n, .inl g)) := by rw [hq, hf]
  refine va_sast F.1 F.2.1 F.2.2.2.2.2.1.1 hP hD hS q0 1 hq2 rfl (vp_in_nI hk hn) hdg (fun H1 locs1 hP1 hD1 hS1 => ?_)
  rw [nI_clamp (show k < 2 ^ 31 by omega), vp_nar_short, nt_set1 hD ha hq] at hP1 hD1
  exact K H1 locs1 ls hP1 hD1 hS1 hl
/-- a polynomial goes into a row of polynomials -/
theorem nx_qst (F : nt_F G D cI cS cP cc own nL) (pc' : Nat) (hpc : pc + 1 = pc') {a k n y : Nat} {g : Nat → Option Nat} {fs : List Value} (hdg : decode cc pc = .ok (.aastore, 1)) (ha : a ∈ L) (hf : f a = .inl (cP, n, .inr (.inr (.inr (.inr g))))) (hy : y ∈ L) (hfy : f y = .inr (1, fs)) (hk : k < n) (hn : n < 2147483648) (f' : Nat → va_E) (hf' : va_up f a (.inl (cP, n, .inr (.inr (.inr (.inr (va_up g k (some y))))))) = f')
    (K : nt_X l R D nL G L f' L2 f2 kc ks lv pc' st) : nt_X l R D nL G L f L2 f2 kc ks lv pc (.ref y :: .int (nI k) :: .ref a :: st) := by
  subst hpc hf'
  intro H locs ls hP hD hS hl
  obtain ⟨q0, hq⟩ := nt_mem1 (f := f) (L2 := L2) (f2 := f2) ha
  obtain ⟨qy, hqy⟩ := nt_mem1 (f := f) (L2 := L2) (f2 := f2) hy
  have hqy2 : (va_pl L f ++ va_pl L2 f2)[qy]? = some (y, .inr (1, fs)) := by rw [hqy, hfy]
  have hq2 : (va_pl L f ++ va_pl L2 f2)[q0]? = some (a, .inl (cP, n, .inr (.inr (.inr (.inr g))))) := by rw [hq, hf]
  have hr : va_Any "Polynomial" (nt_sO G) H y := va_rAny (ci := 1) (r := (RX2, TX2, 2)) F.2.2.2.2.2.1.1 hP hqy2 rfl (fun comp c0 h1 h2 => by
    obtain ⟨c1, t1, e1, e2, e3⟩ := Cond.castable_spec (va_Nw.use (A := #[]) rfl F.2.2.2.2.2.1.2.2)
    have h2' : (nt_sO G).vm.findClass "HPSPolynomial" = some c0 := h2
    cases e1.symm.trans h2'
    cases e2.symm.trans h1
    exact e3)
  refine va_astqM F.1 F.2.1 F.2.2.2.2.2.1.1 hP hD hS q0 2 (E := "Polynomial") hq2 rfl hr (vp_in_nI hk hn) hdg (fun H1 locs1 hP1 hD1 hS1 => ?_)
  rw [nI_clamp (show k < 2 ^ 31 by omega), nt_set1 hD ha hq] at hP1 hD1
  exact K H1 locs1 ls hP1 hD1 hS1 hl
theorem nx_put (F : nt_F G D cI cS cP cc own nL) (pc' : Nat) (hpc : pc + 3 = pc') {ref C : String} {T : u_T} {N ci index a : Nat} {fs : List Value} {v : Value} {ty : FieldType} (hdg : decode cc pc = .ok (.putfield index, 3)) (ha : a ∈ L) (hf : f a = .inr (ci, fs)) (hin : ∀ w ∈ u_ws C T N, w ∈ lw_all) (ty0 : Nat → FieldType) (hty : ∀ k, k < N → parseFieldDescriptor (T k).2.2.1 = some (ty0 k)) (hnm : ∀ a, a < N → ∀ b, b < N → a ≠ b → (T a).2.1 ≠ (T b).2.1) (hc : vwCl[ci]? = some (C, T, N)) (k : Nat) (hk : k < N) (hlink : Cond.fieldLink own index ref (T k).2.1 (T k).2.2.1 ∈ lw_all) (hsame : (T k).1 = ref) (hfin : (T k).2.2.2 = false) (hd : parseFieldDescriptor (T k).2.2.1 = some ty) (hn : narrow ty v = v) (hfit : fits ty v = true) (hl2 : k < fs.length) (f' : Nat → va_E) (hf' : va_up f a (.inr (ci, fs.set k v)) = f')
    (K : nt_X l R D nL G L f' L2 f2 kc ks lv pc' st) : nt_X l R D nL G L f L2 f2 kc ks lv pc (v :: .ref a :: st) := by
  subst hpc hf'
  intro H locs ls hP hD hS hl
  obtain ⟨q0, hq⟩ := nt_mem1 (f := f) (L2 := L2) (f2 := f2) ha
  have hq2 : (va_pl L f ++ va_pl L2 f2)[q0]? = some (a, .inr (ci, fs)) := by rw [hq, hf]
  refine va_put F.1 F.2.1 F.2.2.2.2.1 hin ty0 hty hnm F.2.2.2.1 F.2.2.2.2.2.1.1 hP hD hS q0 hq2 hc k hk (F.2.2.2.2.1 _ hlink) (fun x h => by rw [← hsame]; exact h) hfin hd hn hfit hl2 hdg (fun H1 locs1 hP1 hD1 hS1 => ?_)
  rw [nt_set1 hD ha hq] at hP1 hD1
  exact K H1 locs1 ls hP1 hD1 hS1 hl
theorem nx_putF (F : nt_F G D cI cS cP cc own nL) (hini : (nt_tO G).name = "<init>") (pc' : Nat) (hpc : pc + 3 = pc') {ref C : String} {T : u_T} {N ci index a : Nat} {fs : List Value} {v : Value} {ty : FieldType} (hdg : decode cc pc = .ok (.putfield index, 3)) (ha : a ∈ L) (hf : f a = .inr (ci, fs)) (hin : ∀ w ∈ u_ws C T N, w ∈ lw_all) (ty0 : Nat → FieldType) (hty : ∀ k, k < N → parseFieldDescriptor (T k).2.2.1 = some (ty0 k)) (hnm : ∀ a, a < N → ∀ b, b < N → a ≠ b → (T a).2.1 ≠ (T b).2.1) (hc : vwCl[ci]? = some (C, T, N)) (k : Nat) (hk : k < N) (hlink : Cond.fieldLink own index ref (T k).2.1 (T k).2.2.1 ∈ lw_all) (hsame : (T k).1 = ref) (hfin : (T k).2.2.2 = true) (hdecl : (T k).1 = own) (hd : parseFieldDescriptor (T k).2.2.1 = some ty) (hn : narrow ty v = v) (hfit : fits ty v = true) (hl2 : k < fs.length) (f' : Nat → va_E) (hf' : va_up f a (.inr (ci, fs.set k v)) = f')
    (K : nt_X l R D nL G L f' L2 f2 kc ks lv pc' st) : nt_X l R D nL G L f L2 f2 kc ks lv pc (v :: .ref a :: st) := by
  subst hpc hf'
  intro H locs ls hP hD hS hl
  obtain ⟨q0, hq⟩ := nt_mem1 (f := f) (L2 := L2) (f2 := f2) ha
  have hq2 : (va_pl L f ++ va_pl L2 f2)[q0]? = some (a, .inr (ci, fs)) := by rw [hq, hf]
  refine va_putF F.1 F.2.1 F.2.2.2.2.1 hin ty0 hty hnm F.2.2.2.1 F.2.2.2.2.2.1.1 hP hD hS q0 hq2 hc k hk (F.2.2.2.2.1 _ hlink) (fun x h => by rw [← hsame]; exact h) hfin hini hdecl hd hn hfit hl2 hdg (fun H1 locs1 hP1 hD1 hS1 => ?_)
  rw [nt_set1 hD ha hq] at hP1 hD1
  exact K H1 locs1 ls hP1 hD1 hS1 hl
/-- Object.<init> -/
theorem nx_obj (F : nt_F G D cI cS cP cc own nL) (pc' : Nat) (hpc : pc + 3 = pc') {a idx : Nat} (hdg : decode cc pc = .ok (.invokespecial idx, 3)) (h1 : Cond.methodLink own idx ({ cls := "java/lang/Object", name := "<init>", desc := "()V" } : MethodName) ∈ lw_all) (hfr : 1 ≤ R.frames) (hlo : (st.map fun v => v.category).sum + 12 ≤ R.locals)
    (K : nt_X l R D nL G L f L2 f2 kc ks lv pc' st) : nt_X l R D nL G L f L2 f2 kc ks lv pc (.ref a :: st) := by
  subst hpc
  intro H locs ls hP hD hS hl
  exact W.objInit F.1 F.2.1 F.2.2.2.1 (F.2.2.2.2.1 _ h1) (F.2.2.2.2.1 _ q15) (F.2.2.2.2.1 _ q16) rfl (hl.1.trans F.2.2.1.symm) rfl hdg hfr (by show 2 * 0 + _ + 12 ≤ R.locals; omega) (K H locs ls hP hD hS hl)
/-! new cells -/
theorem nx_new1 (F : nt_F G D cI cS cP cc own nL) (pc' : Nat) (hpc : pc + 3 = pc') {C : String} {T : u_T} {N ci index : Nat} (hdg : decode cc pc = .ok (.new index, 3)) (hcl : Cond.classLink own index C ∈ lw_all) (hinst : Cond.instantiable C N ∈ lw_all) (hini : Cond.initialized C ∈ lw_all) (hin : ∀ w ∈ u_ws C T N, w ∈ lw_all) (ty0 : Nat → FieldType) (hty : ∀ k, k < N → parseFieldDescriptor (T k).2.2.1 = some (ty0 k)) (hc : vwCl[ci]? = some (C, T, N)) (fs : List Value) (hfs : ∀ j, j < N → defaultValue (ty0 j) = vp_V fs j) (hcs : kc + 1 ≤ R.cells ∧ ks + N ≤ R.slots)
    (K : ∀ q : Nat, q ∉ L → nt_X l R D nL G (L ++ [q]) (va_up f q (.inr (ci, fs))) [] f2 (kc + 1) (ks + N) lv pc' (.ref q :: st)) : nt_X l R D nL G L f [] f2 kc ks lv pc st := by
  subst hpc
  intro H locs ls hP hD hS hl
  refine va_new F.1 F.2.1 F.2.2.2.2.1 hin ty0 hty F.2.2.2.1 (F.2.2.2.2.1 _ hcl) (F.2.2.2.2.1 _ hinst) (F.2.2.2.2.1 _ hini) F.2.2.2.2.2.1.1 hP hD hS F.2.2.2.2.2.2 hc hfs hcs.1 hcs.2 hdg (fun q H1 hP1 hD1 hS1 => ?_)
  obtain ⟨hq, he⟩ := nt_push1 hD1
  rw [he] at hP1 hD1
  exact K q hq H1 locs ls hP1 hD1 hS1 hl
theorem nx_new2 (F : nt_F G D cI cS cP cc own nL) (pc' : Nat) (hpc : pc + 3 = pc') {C : String} {T : u_T} {N ci index : Nat} (hdg : decode cc pc = .ok (.new index, 3)) (hcl : Cond.classLink own index C ∈ lw_all) (hinst : Cond.instantiable C N ∈ lw_all) (hini : Cond.initialized C ∈ lw_all) (hin : ∀ w ∈ u_ws C T N, w ∈ lw_all) (ty0 : Nat → FieldType) (hty : ∀ k, k < N → parseFieldDescriptor (T k).2.2.1 = some (ty0 k)) (hc : vwCl[ci]? = some (C, T, N)) (fs : List Value) (hfs : ∀ j, j < N → defaultValue (ty0 j) = vp_V fs j) (hcs : kc + 1 ≤ R.cells ∧ ks + N ≤ R.slots)
    (K : ∀ q : Nat, q ∉ L2 → nt_X l R D nL G L f (L2 ++ [q]) (va_up f2 q (.inr (ci, fs))) (kc + 1) (ks + N) lv pc' (.ref q :: st)) : nt_X l R D nL G L f L2 f2 kc ks lv pc st := by
  subst hpc
  intro H locs ls hP hD hS hl
  refine va_new F.1 F.2.1 F.2.2.2.2.1 hin ty0 hty F.2.2.2.1 (F.2.2.2.2.1 _ hcl) (F.2.2.2.2.1 _ hinst) (F.2.2.2.2.1 _ hini) F.2.2.2.2.2.1.1 hP hD hS F.2.2.2.2.2.2 hc hfs hcs.1 hcs.2 hdg (fun q H1 hP1 hD1 hS1 => ?_)
  obtain ⟨hq, he⟩ := nt_push2 hD1
  rw [he] at hP1 hD1
  exact K q hq H1 locs ls hP1 hD1 hS1 hl
/-- a new array of shorts, in the first pool -/
theorem nx_newS (F : nt_F G D cI cS cP cc own nL) (pc' : Nat) (hpc : pc + 2 = pc') {n : Nat} (hdg : decode cc pc = .ok (.newarray .short, 2)) (hn : n < 100000) (hcs : kc + 1 ≤ R.cells ∧ ks + n ≤ R.slots)
    (K : ∀ q : Nat, q ∉ L → nt_X l R D nL G (L ++ [q]) (va_up f q (.inl (cS, n, .inl (fun _ => 0)))) [] f2 (kc + 1) (ks + n) lv pc' (.ref q :: st)) : nt_X l R D nL G L f [] f2 kc ks lv pc (.int (nI n) :: st) := by
  subst hpc
  intro H locs ls hP hD hS hl
  refine va_newa (atype := .short) F.1 F.2.1 (F.2.2.2.2.1 _ q72) rfl F.2.2.2.2.2.1.1 hP hD hS F.2.2.2.2.2.2 (N' := n) (a0 := (n, .inl (fun _ => 0))) (fun cA => rfl) (nI_pos (by omega)) (nI_clamp (by omega)) (by show n * 2 ≤ 536870912; omega) hcs.1 hcs.2 hdg (fun q cA H1 hK1 hP1 hD1 hS1 => ?_)
  have hcA : cA = cS := nt_cls (hK1.2 3 (cA, .short) rfl).2 (F.2.2.2.2.2.1.1.2 1 (cS, .short) rfl).2
  subst hcA
  obtain ⟨hq, he⟩ := nt_push1 hD1
  rw [he] at hP1 hD1
  exact K q hq H1 locs ls hP1 hD1 hS1 hl
/-- a new array of ints, in the first pool -/
theorem nx_newI1 (F : nt_F G D cI cS cP cc own nL) (pc' : Nat) (hpc : pc + 2 = pc') {n : Nat} (hdg : decode cc pc = .ok (.newarray .int, 2)) (hn : n < 100000) (hcs : kc + 1 ≤ R.cells ∧ ks + n ≤ R.slots)
    (K : ∀ q : Nat, q ∉ L → nt_X l R D nL G (L ++ [q]) (va_up f q (.inl (cI, n, .inl (fun _ => 0)))) [] f2 (kc + 1) (ks + n) lv pc' (.ref q :: st)) : nt_X l R D nL G L f [] f2 kc ks lv pc (.int (nI n) :: st) := by
  subst hpc
  intro H locs ls hP hD hS hl
  refine va_newa (atype := .int) F.1 F.2.1 (F.2.2.2.2.1 _ q111) rfl F.2.2.2.2.2.1.1 hP hD hS F.2.2.2.2.2.2 (N' := n) (a0 := (n, .inl (fun _ => 0))) (fun cA => rfl) (nI_pos (by omega)) (nI_clamp (by omega)) (by show n * 4 ≤ 536870912; omega) hcs.1 hcs.2 hdg (fun q cA H1 hK1 hP1 hD1 hS1 => ?_)
  have hcA : cA = cI := nt_cls (hK1.2 3 (cA, .int) rfl).2 (F.2.2.2.2.2.1.1.2 0 (cI, .int) rfl).2
  subst hcA
  obtain ⟨hq, he⟩ := nt_push1 hD1
  rw [he] at hP1 hD1
  exact K q hq H1 locs ls hP1 hD1 hS1 hl
/-- a new array of ints, in the second pool -/
theorem nx_newI2 (F : nt_F G D cI cS cP cc own nL) (pc' : Nat) (hpc : pc + 2 = pc') {n : Nat} (hdg : decode cc pc = .ok (.newarray .int, 2)) (hn : n < 100000) (hcs : kc + 1 ≤ R.cells ∧ ks + n ≤ R.slots)
    (K : ∀ q : Nat, q ∉ L2 → nt_X l R D nL G L f (L2 ++ [q]) (va_up f2 q (.inl (cI, n, .inl (fun _ => 0)))) (kc + 1) (ks + n) lv pc' (.ref q :: st)) : nt_X l R D nL G L f L2 f2 kc ks lv pc (.int (nI n) :: st) := by
  subst hpc
  intro H locs ls hP hD hS hl
  refine va_newa (atype := .int) F.1 F.2.1 (F.2.2.2.2.1 _ q111) rfl F.2.2.2.2.2.1.1 hP hD hS F.2.2.2.2.2.2 (N' := n) (a0 := (n, .inl (fun _ => 0))) (fun cA => rfl) (nI_pos (by omega)) (nI_clamp (by omega)) (by show n * 4 ≤ 536870912; omega) hcs.1 hcs.2 hdg (fun q cA H1 hK1 hP1 hD1 hS1 => ?_)
  have hcA : cA = cI := nt_cls (hK1.2 3 (cA, .int) rfl).2 (F.2.2.2.2.2.1.1.2 0 (cI, .int) rfl).2
  subst hcA
  obtain ⟨hq, he⟩ := nt_push2 hD1
  rw [he] at hP1 hD1
  exact K q hq H1 locs ls hP1 hD1 hS1 hl
/-- a new row of polynomials, in the first pool -/
theorem nx_newP (F : nt_F G D cI cS cP cc own nL) (pc' : Nat) (hpc : pc + 3 = pc') {n index : Nat} (hdg : decode cc pc = .ok (.anewarray index, 3)) (hcl : Cond.classLink own index "Polynomial" ∈ lw_all) (hn : n < 100000) (hcs : kc + 1 ≤ R.cells ∧ ks + n ≤ R.slots)
    (K : ∀ q : Nat, q ∉ L → nt_X l R D nL G (L ++ [q]) (va_up f q (.inl (cP, n, .inr (.inr (.inr (.inr (fun _ => none))))))) [] f2 (kc + 1) (ks + n) lv pc' (.ref q :: st)) : nt_X l R D nL G L f [] f2 kc ks lv pc (.int (nI n) :: st) := by
  subst hpc
  intro H locs ls hP hD hS hl
  refine va_newq F.1 F.2.1 F.2.2.2.1 (F.2.2.2.2.1 _ hcl) F.2.2.2.2.2.1.2.1 F.2.2.2.2.2.1.1 hP hD hS F.2.2.2.2.2.2 (N' := n) (nI_pos (by omega)) (nI_clamp (by omega)) (by omega) hcs.1 hcs.2 hdg (fun q cA H1 hK1 hP1 hD1 hS1 => ?_)
  have hcA : cA = cP := nt_cls (hK1.2 3 (cA, .object "Polynomial") rfl).2 (F.2.2.2.2.2.1.1.2 2 (cP, .object "Polynomial") rfl).2
  subst hcA
  obtain ⟨hq, he⟩ := nt_push1 hD1
  rw [he] at hP1 hD1
  exact K q hq H1 locs ls hP1 hD1 hS1 hl
/-! contracts and calls -/
def nt_Pc (D : va_G) (cI cS cP : ClassId) (av : List Value) (L : List Nat) (f : Nat → va_E) (sz : Nat) : Array Value → State → Prop := va_Pc av (fun U => U.heap.size = sz ∧ va_P D vwCl (va_pl L f) U.heap ∧ nt_K D cI cS cP U ∧ va_D (fun _ => True) (va_pl L f))
def nt_B (D : va_G) (L : List Nat) (f : Nat → va_E) (sz : Nat) (u : List Nat × (Nat → va_E)) (t : State) : Prop := va_P D vwCl (va_pl u.1 u.2) t.heap ∧ va_D (va_A (va_pl L f) sz) (va_pl u.1 u.2)
def nt_Qv (D : va_G) (L : List Nat) (f : Nat → va_E) (sz : Nat) (post : List Nat → (Nat → va_E) → Prop) : Array Value → State → Outcome → State → Prop := va_Qv (fun u : List Nat × (Nat → va_E) => post u.1 u.2) (nt_B D L f sz) (va_A (va_pl L f) sz)
def nt_Qi (D : va_G) (L : List Nat) (f : Nat → va_E) (sz : Nat) (post : Int32 → List Nat → (Nat → va_E) → Prop) : Array Value → State → Outcome → State → Prop := va_Qi (fun r (u : List Nat × (Nat → va_E)) => post r u.1 u.2) (nt_B D L f sz) (va_A (va_pl L f) sz)
def nt_Qr (D : va_G) (L : List Nat) (f : Nat → va_E) (sz : Nat) (post : Nat → List Nat → (Nat → va_E) → Prop) : Array Value → State → Outcome → State → Prop := va_Qr (fun _ : List Nat × (Nat → va_E) => True) (fun u ra t => post ra u.1 u.2 ∧ nt_B D L f sz u t) (va_A (va_pl L f) sz)
/-- a method without answer: it takes the pool L f, and leaves a pool with post -/
def nt_Mv (l : Launch) (y : MethodName) (ws : List Cond) (rm : Room) (D : va_G) (cI cS cP : ClassId) (av : List Value) (L : List Nat) (f : Nat → va_E) (post : List Nat → (Nat → va_E) → Prop) (mc ms : Nat) : Prop :=
  ∀ sz : Nat, Met l y ws rm (nt_Pc D cI cS cP av L f sz) (nt_Qv D L f sz post) mc ms (va_A (va_pl L f) sz)
def nt_Mi (l : Launch) (y : MethodName) (ws : List Cond) (rm : Room) (D : va_G) (cI cS cP : ClassId) (av : List Value) (L : List Nat) (f : Nat → va_E) (post : Int32 → List Nat → (Nat → va_E) → Prop) (mc ms : Nat) : Prop :=
  ∀ sz : Nat, Met l y ws rm (nt_Pc D cI cS cP av L f sz) (nt_Qi D L f sz post) mc ms (va_A (va_pl L f) sz)
def nt_Mr (l : Launch) (y : MethodName) (ws : List Cond) (rm : Room) (D : va_G) (cI cS cP : ClassId) (av : List Value) (L : List Nat) (f : Nat → va_E) (post : Nat → List Nat → (Nat → va_E) → Prop) (mc ms : Nat) : Prop :=
  ∀ sz : Nat, Met l y ws rm (nt_Pc D cI cS cP av L f sz) (nt_Qr D L f sz post) mc ms (va_A (va_pl L f) sz)
theorem nt_pre1 {s : State} {w2 : va_W} {A : Nat → Prop} {H : Heap} (hK : nt_K D cI cS cP s) (hP : va_P D vwCl (va_pl L f ++ w2) H) (hD : va_D A (va_pl L f ++ w2)) (av : List Value) : PreS s H (nt_Pc D cI cS cP av L f H.size) av :=
  ⟨fun a U g mk q => by obtain ⟨q0, q1, qP, qK, qD⟩ := q; exact ⟨q0, q1, qP, nt_K.call g mk a qK, qD⟩, fun U hU hW => ⟨rfl, by rw [hU], by rw [hU]; exact nt_P1 hP, nt_K.moved hW hK, (nt_D1 hD).weaken (fun _ _ _ _ => trivial)⟩⟩
theorem nt_pre2 {s : State} {w1 : va_W} {A : Nat → Prop} {H : Heap} (hK : nt_K D cI cS cP s) (hP : va_P D vwCl (w1 ++ va_pl L2 f2) H) (hD : va_D A (w1 ++ va_pl L2 f2)) (av : List Value) : PreS s H (nt_Pc D cI cS cP av L2 f2 H.size) av :=
  ⟨fun a U g mk q => by obtain ⟨q0, q1, qP, qK, qD⟩ := q; exact ⟨q0, q1, qP, nt_K.call g mk a qK, qD⟩, fun U hU hW => ⟨rfl, by rw [hU], by rw [hU]; exact nt_P2 hP, nt_K.moved hW hK, (nt_D2 hD).weaken (fun _ _ _ _ => trivial)⟩⟩
/-- the receiver, an object of a known kind -/
theorem nt_rcv {s : State} {H : Heap} {a ci : Nat} {q : vw_C} {fs : List Value} (hK : nt_K D cI cS cP s) (hP : va_P D vwCl (va_pl L f ++ va_pl L2 f2) H) (hc : vwCl[ci]? = some q) (ha : nt_in L f L2 f2 a (.inr (ci, fs))) : ∃ cell : Cell, H[a]? = some cell ∧ cell.vm.isStatics = false ∧ s.vm.findClass q.1 = some cell.cls := by
  obtain ⟨k, hk⟩ := ha.at
  exact va_recv hK.1 hP hc hk
theorem nx_c1v (F : nt_F G D cI cS cP cc own nL) {st0 : List Value} {mc ms : Nat} {post : List Nat → (Nat → va_E) → Prop} {H : Heap} {locs : List Loc} {ls : Array Slot} {a : Array Value} (hP : va_P D vwCl (va_pl L f ++ va_pl L2 f2) H) (hD : va_D (nt_AO G) (va_pl L f ++ va_pl L2 f2)) (hS : va_S (nt_AO G) (nt_sO G).heap H locs) (hl : lv_has ls nL lv)
    (hr : va_Run G.1 l G.2.1 R (nt_sO G) (nt_mO G) (nt_aO G) (nt_bO G) (nt_tO G) (nt_cO G) H locs kc ks mc ms (F0 (nt_mO G) pc ls st0) st (nt_Qv D L f H.size post a) (va_A (va_pl L f) H.size))
    (K : ∀ (L' : List Nat) (f' : Nat → va_E), post L' f' → nt_X l R D nL G L' f' L2 f2 (kc + mc) (ks + ms) lv (pc + 3) st) : W G.1 l G.2.1 R (nt_sO G) (nt_mO G) (nt_aO G) (nt_bO G) (nt_tO G) (nt_cO G) H locs kc ks (nt_QO G) (F0 (nt_mO G) pc ls st0) := by
  have hF := nt_hF1 hD hS F.2.2.2.2.2.2
  refine va_callv hr hS (fun q _ h => hF q h) hF (fun u t H1 locs1 ht hvm hw hB hz hk hS1 => ?_)
  obtain ⟨hP1, hD1⟩ := hB
  rw [ht] at hP1
  obtain ⟨hP2, hD2⟩ := nt_join1 hP hD hk hF hP1 hD1
  exact K u.1 u.2 hw H1 locs1 ls hP2 hD2 hS1 hl
theorem nx_c1i (F : nt_F G D cI cS cP cc own nL) {st0 : List Value} {mc ms : Nat} {post : Int32 → List Nat → (Nat → va_E) → Prop} {H : Heap} {locs : List Loc} {ls : Array Slot} {a : Array Value} (hP : va_P D vwCl (va_pl L f ++ va_pl L2 f2) H) (hD : va_D (nt_AO G) (va_pl L f ++ va_pl L2 f2)) (hS : va_S (nt_AO G) (nt_sO G).heap H locs) (hl : lv_has ls nL lv)
    (hr : va_Run G.1 l G.2.1 R (nt_sO G) (nt_mO G) (nt_aO G) (nt_bO G) (nt_tO G) (nt_cO G) H locs kc ks mc ms (F0 (nt_mO G) pc ls st0) st (nt_Qi D L f H.size post a) (va_A (va_pl L f) H.size))
    (K : ∀ (r : Int32) (L' : List Nat) (f' : Nat → va_E), post r L' f' → nt_X l R D nL G L' f' L2 f2 (kc + mc) (ks + ms) lv (pc + 3) (.int r :: st)) : W G.1 l G.2.1 R (nt_sO G) (nt_mO G) (nt_aO G) (nt_bO G) (nt_tO G) (nt_cO G) H locs kc ks (nt_QO G) (F0 (nt_mO G) pc ls st0) := by
  have hF := nt_hF1 hD hS F.2.2.2.2.2.2
  refine va_calli hr hS (fun q _ h => hF q h) hF (fun r u t H1 locs1 ht hvm hw hB hz hk hS1 => ?_)
  obtain ⟨hP1, hD1⟩ := hB
  rw [ht] at hP1
  obtain ⟨hP2, hD2⟩ := nt_join1 hP hD hk hF hP1 hD1
  exact K r u.1 u.2 hw H1 locs1 ls hP2 hD2 hS1 hl
theorem nx_c1r (F : nt_F G D cI cS cP cc own nL) {st0 : List Value} {mc ms : Nat} {post : Nat → List Nat → (Nat → va_E) → Prop} {H : Heap} {locs : List Loc} {ls : Array Slot} {a : Array Value} (hP : va_P D vwCl (va_pl L f ++ va_pl L2 f2) H) (hD : va_D (nt_AO G) (va_pl L f ++ va_pl L2 f2)) (hS : va_S (nt_AO G) (nt_sO G).heap H locs) (hl : lv_has ls nL lv)
    (hr : va_Run G.1 l G.2.1 R (nt_sO G) (nt_mO G) (nt_aO G) (nt_bO G) (nt_tO G) (nt_cO G) H locs kc ks mc ms (F0 (nt_mO G) pc ls st0) st (nt_Qr D L f H.size post a) (va_A (va_pl L f) H.size))
    (K : ∀ (r : Nat) (L' : List Nat) (f' : Nat → va_E), post r L' f' → nt_X l R D nL G L' f' L2 f2 (kc + mc) (ks + ms) lv (pc + 3) (.ref r :: st)) : W G.1 l G.2.1 R (nt_sO G) (nt_mO G) (nt_aO G) (nt_bO G) (nt_tO G) (nt_cO G) H locs kc ks (nt_QO G) (F0 (nt_mO G) pc ls st0) := by
  have hF := nt_hF1 hD hS F.2.2.2.2.2.2
  refine va_callr hr hS (fun q _ h => hF q h) hF (fun u r t H1 locs1 ht hvm hw hB hz hk hS1 => ?_)
  obtain ⟨hw, hP1, hD1⟩ := hB
  rw [ht] at hP1
  obtain ⟨hP2, hD2⟩ := nt_join1 hP hD hk hF hP1 hD1
  exact K r u.1 u.2 hw H1 locs1 ls hP2 hD2 hS1 hl
theorem nx_c2v (F : nt_F G D cI cS cP cc own nL) {st0 : List Value} {mc ms : Nat} {post : List Nat → (Nat → va_E) → Prop} {H : Heap} {locs : List Loc} {ls : Array Slot} {a : Array Value} (hP : va_P D vwCl (va_pl L f ++ va_pl L2 f2) H) (hD : va_D (nt_AO G) (va_pl L f ++ va_pl L2 f2)) (hS : va_S (nt_AO G) (nt_sO G).heap H locs) (hl : lv_has ls nL lv)
    (hr : va_Run G.1 l G.2.1 R (nt_sO G) (nt_mO G) (nt_aO G) (nt_bO G) (nt_tO G) (nt_cO G) H locs kc ks mc ms (F0 (nt_mO G) pc ls st0) st (nt_Qv D L2 f2 H.size post a) (va_A (va_pl L2 f2) H.size))
    (K : ∀ (L' : List Nat) (f' : Nat → va_E), post L' f' → nt_X l R D nL G L f L' f' (kc + mc) (ks + ms) lv (pc + 3) st) : W G.1 l G.2.1 R (nt_sO G) (nt_mO G) (nt_aO G) (nt_bO G) (nt_tO G) (nt_cO G) H locs kc ks (nt_QO G) (F0 (nt_mO G) pc ls st0) := by
  have hF := nt_hF2 hD hS F.2.2.2.2.2.2
  refine va_callv hr hS (fun q _ h => hF q h) hF (fun u t H1 locs1 ht hvm hw hB hz hk hS1 => ?_)
  obtain ⟨hP1, hD1⟩ := hB
  rw [ht] at hP1
  obtain ⟨hP2, hD2⟩ := nt_join2 hP hD hk hF hP1 hD1
  exact K u.1 u.2 hw H1 locs1 ls hP2 hD2 hS1 hl
theorem nx_c2i (F : nt_F G D cI cS cP cc own nL) {st0 : List Value} {mc ms : Nat} {post : Int32 → List Nat → (Nat → va_E) → Prop} {H : Heap} {locs : List Loc} {ls : Array Slot} {a : Array Value} (hP : va_P D vwCl (va_pl L f ++ va_pl L2 f2) H) (hD : va_D (nt_AO G) (va_pl L f ++ va_pl L2 f2)) (hS : va_S (nt_AO G) (nt_sO G).heap H locs) (hl : lv_has ls nL lv)
    (hr : va_Run G.1 l G.2.1 R (nt_sO G) (nt_mO G) (nt_aO G) (nt_bO G) (nt_tO G) (nt_cO G) H locs kc ks mc ms (F0 (nt_mO G) pc ls st0) st (nt_Qi D L2 f2 H.size post a) (va_A (va_pl L2 f2) H.size))
    (K : ∀ (r : Int32) (L' : List Nat) (f' : Nat → va_E), post r L' f' → nt_X l R D nL G L f L' f' (kc + mc) (ks + ms) lv (pc + 3) (.int r :: st)) : W G.1 l G.2.1 R (nt_sO G) (nt_mO G) (nt_aO G) (nt_bO G) (nt_tO G) (nt_cO G) H locs kc ks (nt_QO G) (F0 (nt_mO G) pc ls st0) := by
  have hF := nt_hF2 hD hS F.2.2.2.2.2.2
  refine va_calli hr hS (fun q _ h => hF q h) hF (fun r u t H1 locs1 ht hvm hw hB hz hk hS1 => ?_)
  obtain ⟨hP1, hD1⟩ := hB
  rw [ht] at hP1
  obtain ⟨hP2, hD2⟩ := nt_join2 hP hD hk hF hP1 hD1
  exact K r u.1 u.2 hw H1 locs1 ls hP2 hD2 hS1 hl
theorem nx_c2r (F : nt_F G D cI cS cP cc own nL) {st0 : List Value} {mc ms : Nat} {post : Nat → List Nat → (Nat → va_E) → Prop} {H : Heap} {locs : List Loc} {ls : Array Slot} {a : Array Value} (hP : va_P D vwCl (va_pl L f ++ va_pl L2 f2) H) (hD : va_D (nt_AO G) (va_pl L f ++ va_pl L2 f2)) (hS : va_S (nt_AO G) (nt_sO G).heap H locs) (hl : lv_has ls nL lv)
    (hr : va_Run G.1 l G.2.1 R (nt_sO G) (nt_mO G) (nt_aO G) (nt_bO G) (nt_tO G) (nt_cO G) H locs kc ks mc ms (F0 (nt_mO G) pc ls st0) st (nt_Qr D L2 f2 H.size post a) (va_A (va_pl L2 f2) H.size))
    (K : ∀ (r : Nat) (L' : List Nat) (f' : Nat → va_E), post r L' f' → nt_X l R D nL G L f L' f' (kc + mc) (ks + ms) lv (pc + 3) (.ref r :: st)) : W G.1 l G.2.1 R (nt_sO G) (nt_mO G) (nt_aO G) (nt_bO G) (nt_tO G) (nt_cO G) H locs kc ks (nt_QO G) (F0 (nt_mO G) pc ls st0) := by
  have hF := nt_hF2 hD hS F.2.2.2.2.2.2
  refine va_callr hr hS (fun q _ h => hF q h) hF (fun u r t H1 locs1 ht hvm hw hB hz hk hS1 => ?_)
  obtain ⟨hw, hP1, hD1⟩ := hB
  rw [ht] at hP1
  obtain ⟨hP2, hD2⟩ := nt_join2 hP hD hk hF hP1 hD1
  exact K r u.1 u.2 hw H1 locs1 ls hP2 hD2 hS1 hl
theorem nx_vS1 (F : nt_F G D cI cS cP cc own nL) (pc' : Nat) (hpc : pc + 3 = pc') {y : MethodName} {b : ByteArray} {ml index n mc ms : Nat} {ret : Option FieldType} (As : List Value) {st0 : List Value} {post : List Nat → (Nat → va_E) → Prop} (hdg : decode cc pc = .ok (.invokestatic index, 3)) (h1 : Cond.methodLink own index y ∈ lw_all) (h2 : Cond.static y ∈ lw_all) (h3 : Cond.initialized y.cls ∈ lw_all) (h4 : Cond.code y b ml ret ∈ lw_all) (hd : y.cls ≠ "java/lang/invoke/MethodHandle" ∧ y.cls ≠ "java/lang/invoke/VarHandle" ∧ (parseMethodDescriptor y.desc).map (fun d => d.parameters.length) = some n) (rm : Room) (hrc : rm.cells = mc) (hrs : rm.slots = ms) (hR : rm.frames + 1 ≤ R.frames ∧ 8 + (ml + 11) + rm.locals ≤ R.locals) (hcs : kc + mc ≤ R.cells ∧ ks + ms ≤ R.slots) 
    (hM : nt_Mv l y (ws_ y b ml ret) rm D cI cS cP As L f post mc ms) (hn : As.length = n) (hst : st0 = As.reverse ++ st) (hW : (st.map fun v => v.category).sum ≤ 8)
    (K : ∀ (L' : List Nat) (f' : Nat → va_E), post L' f' → nt_X l R D nL G L' f' L2 f2 (kc + mc) (ks + ms) lv pc' st) : nt_X l R D nL G L f L2 f2 kc ks lv pc st0 := by
  subst hpc
  intro H locs ls hP hD hS hl
  exact nx_c1v F hP hD hS hl (va_runS ⟨F.1, F.2.1, F.2.2.1, F.2.2.2.1, F.2.2.2.2.1⟩ (hM H.size) (va_cwS n F.2.2.2.2.1 (lw_S h1 h2 h3 h4) rfl hrc hrs hd hR) (nt_pre1 F.2.2.2.2.2.1 hP hD As) rfl hn hl.1 hst (lv_room hW) hdg hcs) K
theorem nx_vS2 (F : nt_F G D cI cS cP cc own nL) (pc' : Nat) (hpc : pc + 3 = pc') {y : MethodName} {b : ByteArray} {ml index n mc ms : Nat} {ret : Option FieldType} (As : List Value) {st0 : List Value} {post : List Nat → (Nat → va_E) → Prop} (hdg : decode cc pc = .ok (.invokestatic index, 3)) (h1 : Cond.methodLink own index y ∈ lw_all) (h2 : Cond.static y ∈ lw_all) (h3 : Cond.initialized y.cls ∈ lw_all) (h4 : Cond.code y b ml ret ∈ lw_all) (hd : y.cls ≠ "java/lang/invoke/MethodHandle" ∧ y.cls ≠ "java/lang/invoke/VarHandle" ∧ (parseMethodDescriptor y.desc).map (fun d => d.parameters.length) = some n) (rm : Room) (hrc : rm.cells = mc) (hrs : rm.slots = ms) (hR : rm.frames + 1 ≤ R.frames ∧ 8 + (ml + 11) + rm.locals ≤ R.locals) (hcs : kc + mc ≤ R.cells ∧ ks + ms ≤ R.slots) 
    (hM : nt_Mv l y (ws_ y b ml ret) rm D cI cS cP As L2 f2 post mc ms) (hn : As.length = n) (hst : st0 = As.reverse ++ st) (hW : (st.map fun v => v.category).sum ≤ 8)
    (K : ∀ (L' : List Nat) (f' : Nat → va_E), post L' f' → nt_X l R D nL G L f L' f' (kc + mc) (ks + ms) lv pc' st) : nt_X l R D nL G L f L2 f2 kc ks lv pc st0 := by
  subst hpc
  intro H locs ls hP hD hS hl
  exact nx_c2v F hP hD hS hl (va_runS ⟨F.1, F.2.1, F.2.2.1, F.2.2.2.1, F.2.2.2.2.1⟩ (hM H.size) (va_cwS n F.2.2.2.2.1 (lw_S h1 h2 h3 h4) rfl hrc hrs hd hR) (nt_pre2 F.2.2.2.2.2.1 hP hD As) rfl hn hl.1 hst (lv_room hW) hdg hcs) K
theorem nx_rS1 (F : nt_F G D cI cS cP cc own nL) (pc' : Nat) (hpc : pc + 3 = pc') {y : MethodName} {b : ByteArray} {ml index n mc ms : Nat} {ret : Option FieldType} (As : List Value) {st0 : List Value} {post : Nat → List Nat → (Nat → va_E) → Prop} (hdg : decode cc pc = .ok (.invokestatic index, 3)) (h1 : Cond.methodLink own index y ∈ lw_all) (h2 : Cond.static y ∈ lw_all) (h3 : Cond.initialized y.cls ∈ lw_all) (h4 : Cond.code y b ml ret ∈ lw_all) (hd : y.cls ≠ "java/lang/invoke/MethodHandle" ∧ y.cls ≠ "java/lang/invoke/VarHandle" ∧ (parseMethodDescriptor y.desc).map (fun d => d.parameters.length) = some n) (rm : Room) (hrc : rm.cells = mc) (hrs : rm.slots = ms) (hR : rm.frames + 1 ≤ R.frames ∧ 8 + (ml + 11) + rm.locals ≤ R.locals) (hcs : kc + mc ≤ R.cells ∧ ks + ms ≤ R.slots) 
    (hM : nt_Mr l y (ws_ y b ml ret) rm D cI cS cP As L f post mc ms) (hn : As.length = n) (hst : st0 = As.reverse ++ st) (hW : (st.map fun v => v.category).sum ≤ 8)
    (K : ∀ (r : Nat) (L' : List Nat) (f' : Nat → va_E), post r L' f' → nt_X l R D nL G L' f' L2 f2 (kc + mc) (ks + ms) lv pc' (.ref r :: st)) : nt_X l R D nL G L f L2 f2 kc ks lv pc st0 := by
  subst hpc
  intro H locs ls hP hD hS hl
  exact nx_c1r F hP hD hS hl (va_runS ⟨F.1, F.2.1, F.2.2.1, F.2.2.2.1, F.2.2.2.2.1⟩ (hM H.size) (va_cwS n F.2.2.2.2.1 (lw_S h1 h2 h3 h4) rfl hrc hrs hd hR) (nt_pre1 F.2.2.2.2.2.1 hP hD As) rfl hn hl.1 hst (lv_room hW) hdg hcs) K
theorem nx_vV1 (F : nt_F G D cI cS cP cc own nL) (pc' : Nat) (hpc : pc + 3 = pc') {y : MethodName} {b : ByteArray} {ml index n mc ms : Nat} {ret : Option FieldType} {C : String} {T : u_T} {N ci bo : Nat} {fs : List Value} (As : List Value) {st0 : List Value} {post : List Nat → (Nat → va_E) → Prop} (hdg : decode cc pc = .ok (.invokevirtual index, 3)) (h1 : Cond.methodLink own index y ∈ lw_all) (h2 : Cond.instanceMethod y ∈ lw_all) (h3 : Cond.selects C y y ∈ lw_all) (h4 : Cond.initialized C ∈ lw_all) (h5 : Cond.code y b ml ret ∈ lw_all) (hd : y.cls = C ∧ y.cls ≠ "java/lang/invoke/MethodHandle" ∧ y.cls ≠ "java/lang/invoke/VarHandle" ∧ (parseMethodDescriptor y.desc).map (fun d => d.parameters.length) = some n) (rm : Room) (hrc : rm.cells = mc) (hrs : rm.slots = ms) (hR : rm.frames + 1 ≤ R.frames ∧ 8 + (ml + 11) + rm.locals ≤ R.locals) (hcs : kc + mc ≤ R.cells ∧ ks + ms ≤ R.slots) (hb : nt_in L f L2 f2 bo (.inr (ci, fs))) (hc : vwCl[ci]? = some (C, T, N))
    (hM : nt_Mv l y (ws_ y b ml ret) rm D cI cS cP (.ref bo :: As) L f post mc ms) (hn : As.length = n) (hst : st0 = As.reverse ++ .ref bo :: st) (hW : (st.map fun v => v.category).sum ≤ 8)
    (K : ∀ (L' : List Nat) (f' : Nat → va_E), post L' f' → nt_X l R D nL G L' f' L2 f2 (kc + mc) (ks + ms) lv pc' st) : nt_X l R D nL G L f L2 f2 kc ks lv pc st0 := by
  subst hpc
  intro H locs ls hP hD hS hl
  exact nx_c1v F hP hD hS hl (va_runV ⟨F.1, F.2.1, F.2.2.1, F.2.2.2.1, F.2.2.2.2.1⟩ (hM H.size) (cwV n F.2.2.2.2.1 (lw_V h1 h2 h3 h4 h5) rfl hrc hrs hd hR) ⟨(nt_pre1 F.2.2.2.2.2.1 hP hD (.ref bo :: As)).1, nt_rcv F.2.2.2.2.2.1 hP hc hb, (nt_pre1 F.2.2.2.2.2.1 hP hD (.ref bo :: As)).2⟩ rfl hn hl.1 hst (lv_room hW) hdg hcs) K
theorem nx_vV2 (F : nt_F G D cI cS cP cc own nL) (pc' : Nat) (hpc : pc + 3 = pc') {y : MethodName} {b : ByteArray} {ml index n mc ms : Nat} {ret : Option FieldType} {C : String} {T : u_T} {N ci bo : Nat} {fs : List Value} (As : List Value) {st0 : List Value} {post : List Nat → (Nat → va_E) → Prop} (hdg : decode cc pc = .ok (.invokevirtual index, 3)) (h1 : Cond.methodLink own index y ∈ lw_all) (h2 : Cond.instanceMethod y ∈ lw_all) (h3 : Cond.selects C y y ∈ lw_all) (h4 : Cond.initialized C ∈ lw_all) (h5 : Cond.code y b ml ret ∈ lw_all) (hd : y.cls = C ∧ y.cls ≠ "java/lang/invoke/MethodHandle" ∧ y.cls ≠ "java/lang/invoke/VarHandle" ∧ (parseMethodDescriptor y.desc).map (fun d => d.parameters.length) = some n) (rm : Room) (hrc : rm.cells = mc) (hrs : rm.slots = ms) (hR : rm.frames + 1 ≤ R.frames ∧ 8 + (ml + 11) + rm.locals ≤ R.locals) (hcs : kc + mc ≤ R.cells ∧ ks + ms ≤ R.slots) (hb : nt_in L f L2 f2 bo (.inr (ci, fs))) (hc : vwCl[ci]? = some (C, T, N))
    (hM : nt_Mv l y (ws_ y b ml ret) rm D cI cS cP (.ref bo :: As) L2 f2 post mc ms) (hn : As.length = n) (hst : st0 = As.reverse ++ .ref bo :: st) (hW : (st.map fun v => v.category).sum ≤ 8)
    (K : ∀ (L' : List Nat) (f' : Nat → va_E), post L' f' → nt_X l R D nL G L f L' f' (kc + mc) (ks + ms) lv pc' st) : nt_X l R D nL G L f L2 f2 kc ks lv pc st0 := by
  subst hpc
  intro H locs ls hP hD hS hl
  exact nx_c2v F hP hD hS hl (va_runV ⟨F.1, F.2.1, F.2.2.1, F.2.2.2.1, F.2.2.2.2.1⟩ (hM H.size) (cwV n F.2.2.2.2.1 (lw_V h1 h2 h3 h4 h5) rfl hrc hrs hd hR) ⟨(nt_pre2 F.2.2.2.2.2.1 hP hD (.ref bo :: As)).1, nt_rcv F.2.2.2.2.2.1 hP hc hb, (nt_pre2 F.2.2.2.2.2.1 hP hD (.ref bo :: As)).2⟩ rfl hn hl.1 hst (lv_room hW) hdg hcs) K
theorem nx_iV1 (F : nt_F G D cI cS cP cc own nL) (pc' : Nat) (hpc : pc + 3 = pc') {y : MethodName} {b : ByteArray} {ml index n mc ms : Nat} {ret : Option FieldType} {C : String} {T : u_T} {N ci bo : Nat} {fs : List Value} (As : List Value) {st0 : List Value} {post : Int32 → List Nat → (Nat → va_E) → Prop} (hdg : decode cc pc = .ok (.invokevirtual index, 3)) (h1 : Cond.methodLink own index y ∈ lw_all) (h2 : Cond.instanceMethod y ∈ lw_all) (h3 : Cond.selects C y y ∈ lw_all) (h4 : Cond.initialized C ∈ lw_all) (h5 : Cond.code y b ml ret ∈ lw_all) (hd : y.cls = C ∧ y.cls ≠ "java/lang/invoke/MethodHandle" ∧ y.cls ≠ "java/lang/invoke/VarHandle" ∧ (parseMethodDescriptor y.desc).map (fun d => d.parameters.length) = some n) (rm : Room) (hrc : rm.cells = mc) (hrs : rm.slots = ms) (hR : rm.frames + 1 ≤ R.frames ∧ 8 + (ml + 11) + rm.locals ≤ R.locals) (hcs : kc + mc ≤ R.cells ∧ ks + ms ≤ R.slots) (hb : nt_in L f L2 f2 bo (.inr (ci, fs))) (hc : vwCl[ci]? = some (C, T, N))
    (hM : nt_Mi l y (ws_ y b ml ret) rm D cI cS cP (.ref bo :: As) L f post mc ms) (hn : As.length = n) (hst : st0 = As.reverse ++ .ref bo :: st) (hW : (st.map fun v => v.category).sum ≤ 8)
    (K : ∀ (r : Int32) (L' : List Nat) (f' : Nat → va_E), post r L' f' → nt_X l R D nL G L' f' L2 f2 (kc + mc) (ks + ms) lv pc' (.int r :: st)) : nt_X l R D nL G L f L2 f2 kc ks lv pc st0 := by
  subst hpc
  intro H locs ls hP hD hS hl
  exact nx_c1i F hP hD hS hl (va_runV ⟨F.1, F.2.1, F.2.2.1, F.2.2.2.1, F.2.2.2.2.1⟩ (hM H.size) (cwV n F.2.2.2.2.1 (lw_V h1 h2 h3 h4 h5) rfl hrc hrs hd hR) ⟨(nt_pre1 F.2.2.2.2.2.1 hP hD (.ref bo :: As)).1, nt_rcv F.2.2.2.2.2.1 hP hc hb, (nt_pre1 F.2.2.2.2.2.1 hP hD (.ref bo :: As)).2⟩ rfl hn hl.1 hst (lv_room hW) hdg hcs) K
theorem nx_iV2 (F : nt_F G D cI cS cP cc own nL) (pc' : Nat) (hpc : pc + 3 = pc') {y : MethodName} {b : ByteArray} {ml index n mc ms : Nat} {ret : Option FieldType} {C : String} {T : u_T} {N ci bo : Nat} {fs : List Value} (As : List Value) {st0 : List Value} {post : Int32 → List Nat → (Nat → va_E) → Prop} (hdg : decode cc pc = .ok (.invokevirtual index, 3)) (h1 : Cond.methodLink own index y ∈ lw_all) (h2 : Cond.instanceMethod y ∈ lw_all) (h3 : Cond.selects C y y ∈ lw_all) (h4 : Cond.initialized C ∈ lw_all) (h5 : Cond.code y b ml ret ∈ lw_all) (hd : y.cls = C ∧ y.cls ≠ "java/lang/invoke/MethodHandle" ∧ y.cls ≠ "java/lang/invoke/VarHandle" ∧ (parseMethodDescriptor y.desc).map (fun d => d.parameters.length) = some n) (rm : Room) (hrc : rm.cells = mc) (hrs : rm.slots = ms) (hR : rm.frames + 1 ≤ R.frames ∧ 8 + (ml + 11) + rm.locals ≤ R.locals) (hcs : kc + mc ≤ R.cells ∧ ks + ms ≤ R.slots) (hb : nt_in L f L2 f2 bo (.inr (ci, fs))) (hc : vwCl[ci]? = some (C, T, N))
    (hM : nt_Mi l y (ws_ y b ml ret) rm D cI cS cP (.ref bo :: As) L2 f2 post mc ms) (hn : As.length = n) (hst : st0 = As.reverse ++ .ref bo :: st) (hW : (st.map fun v => v.category).sum ≤ 8)
    (K : ∀ (r : Int32) (L' : List Nat) (f' : Nat → va_E), post r L' f' → nt_X l R D nL G L f L' f' (kc + mc) (ks + ms) lv pc' (.int r :: st)) : nt_X l R D nL G L f L2 f2 kc ks lv pc st0 := by
  subst hpc
  intro H locs ls hP hD hS hl
  exact nx_c2i F hP hD hS hl (va_runV ⟨F.1, F.2.1, F.2.2.1, F.2.2.2.1, F.2.2.2.2.1⟩ (hM H.size) (cwV n F.2.2.2.2.1 (lw_V h1 h2 h3 h4 h5) rfl hrc hrs hd hR) ⟨(nt_pre2 F.2.2.2.2.2.1 hP hD (.ref bo :: As)).1, nt_rcv F.2.2.2.2.2.1 hP hc hb, (nt_pre2 F.2.2.2.2.2.1 hP hD (.ref bo :: As)).2⟩ rfl hn hl.1 hst (lv_room hW) hdg hcs) K
theorem nx_vU1 (F : nt_F G D cI cS cP cc own nL) (pc' : Nat) (hpc : pc + 3 = pc') {y : MethodName} {b : ByteArray} {ml index n mc ms : Nat} {ret : Option FieldType} {C : String} {T : u_T} {N ci bo : Nat} {fs : List Value} (As : List Value) {st0 : List Value} {post : List Nat → (Nat → va_E) → Prop} (hdg : decode cc pc = .ok (.invokevirtual index, 3)) (h1 : Cond.methodLink own index y ∈ lw_all) (h2 : Cond.sameMethod y.cls y.cls y.name y.desc ∈ lw_all) (h3 : Cond.selects C y y ∈ lw_all) (h4 : Cond.instanceMethod y ∈ lw_all) (h5 : Cond.initialized y.cls ∈ lw_all) (h6 : Cond.code y b ml ret ∈ lw_all) (hd : y.cls ≠ "java/lang/invoke/MethodHandle" ∧ y.cls ≠ "java/lang/invoke/VarHandle" ∧ (parseMethodDescriptor y.desc).map (fun d => d.parameters.length) = some n) (rm : Room) (hrc : rm.cells = mc) (hrs : rm.slots = ms) (hR : rm.frames + 1 ≤ R.frames ∧ 8 + (ml + 11) + rm.locals ≤ R.locals) (hcs : kc + mc ≤ R.cells ∧ ks + ms ≤ R.slots) (hb : nt_in L f L2 f2 bo (.inr (ci, fs))) (hc : vwCl[ci]? = some (C, T, N))
    (hM : nt_Mv l y (ws_ y b ml ret) rm D cI cS cP (.ref bo :: As) L f post mc ms) (hn : As.length = n) (hst : st0 = As.reverse ++ .ref bo :: st) (hW : (st.map fun v => v.category).sum ≤ 8)
    (K : ∀ (L' : List Nat) (f' : Nat → va_E), post L' f' → nt_X l R D nL G L' f' L2 f2 (kc + mc) (ks + ms) lv pc' st) : nt_X l R D nL G L f L2 f2 kc ks lv pc st0 := by
  subst hpc
  intro H locs ls hP hD hS hl
  exact nx_c1v F hP hD hS hl (va_runU ⟨F.1, F.2.1, F.2.2.1, F.2.2.2.1, F.2.2.2.2.1⟩ (hM H.size) (va_cwU (owner := y.cls) n F.2.2.2.2.1 (lw_app (by intro w hw; simp only [List.mem_cons, List.not_mem_nil, or_false] at hw; rcases hw with e | e | e | e | e <;> (rw [e]; assumption)) (lw_meth h6)) rfl hrc hrs rfl hd hR) ⟨(nt_pre1 F.2.2.2.2.2.1 hP hD (.ref bo :: As)).1, nt_rcv F.2.2.2.2.2.1 hP hc hb, (nt_pre1 F.2.2.2.2.2.1 hP hD (.ref bo :: As)).2⟩ rfl hn hl.1 hst (lv_room hW) hdg hcs) K
theorem nx_iU1 (F : nt_F G D cI cS cP cc own nL) (pc' : Nat) (hpc : pc + 3 = pc') {y : MethodName} {b : ByteArray} {ml index n mc ms : Nat} {ret : Option FieldType} {C : String} {T : u_T} {N ci bo : Nat} {fs : List Value} (As : List Value) {st0 : List Value} {post : Int32 → List Nat → (Nat → va_E) → Prop} (hdg : decode cc pc = .ok (.invokevirtual index, 3)) (h1 : Cond.methodLink own index y ∈ lw_all) (h2 : Cond.sameMethod y.cls y.cls y.name y.desc ∈ lw_all) (h3 : Cond.selects C y y ∈ lw_all) (h4 : Cond.instanceMethod y ∈ lw_all) (h5 : Cond.initialized y.cls ∈ lw_all) (h6 : Cond.code y b ml ret ∈ lw_all) (hd : y.cls ≠ "java/lang/invoke/MethodHandle" ∧ y.cls ≠ "java/lang/invoke/VarHandle" ∧ (parseMethodDescriptor y.desc).map (fun d => d.parameters.length) = some n) (rm : Room) (hrc : rm.cells = mc) (hrs : rm.slots = ms) (hR : rm.frames + 1 ≤ R.frames ∧ 8 + (ml + 11) + rm.locals ≤ R.locals) (hcs : kc + mc ≤ R.cells ∧ ks + ms ≤ R.slots) (hb : nt_in L f L2 f2 bo (.inr (ci, fs))) (hc : vwCl[ci]? = some (C, T, N))
    (hM : nt_Mi l y (ws_ y b ml ret) rm D cI cS cP (.ref bo :: As) L f post mc ms) (hn : As.length = n) (hst : st0 = As.reverse ++ .ref bo :: st) (hW : (st.map fun v => v.category).sum ≤ 8)
    (K : ∀ (r : Int32) (L' : List Nat) (f' : Nat → va_E), post r L' f' → nt_X l R D nL G L' f' L2 f2 (kc + mc) (ks + ms) lv pc' (.int r :: st)) : nt_X l R D nL G L f L2 f2 kc ks lv pc st0 := by
  subst hpc
  intro H locs ls hP hD hS hl
  exact nx_c1i F hP hD hS hl (va_runU ⟨F.1, F.2.1, F.2.2.1, F.2.2.2.1, F.2.2.2.2.1⟩ (hM H.size) (va_cwU (owner := y.cls) n F.2.2.2.2.1 (lw_app (by intro w hw; simp only [List.mem_cons, List.not_mem_nil, or_false] at hw; rcases hw with e | e | e | e | e <;> (rw [e]; assumption)) (lw_meth h6)) rfl hrc hrs rfl hd hR) ⟨(nt_pre1 F.2.2.2.2.2.1 hP hD (.ref bo :: As)).1, nt_rcv F.2.2.2.2.2.1 hP hc hb, (nt_pre1 F.2.2.2.2.2.1 hP hD (.ref bo :: As)).2⟩ rfl hn hl.1 hst (lv_room hW) hdg hcs) K
theorem nx_vI1 (F : nt_F G D cI cS cP cc own nL) (pc' : Nat) (hpc : pc + 3 = pc') {y : MethodName} {b : ByteArray} {ml index n mc ms : Nat} {bo : Nat} (As : List Value) {st0 : List Value} {post : List Nat → (Nat → va_E) → Prop} (hdg : decode cc pc = .ok (.invokespecial index, 3)) (h1 : Cond.methodLink own index y ∈ lw_all) (h2 : Cond.instanceMethod y ∈ lw_all) (h3 : Cond.initialized y.cls ∈ lw_all) (h4 : Cond.code y b ml none ∈ lw_all) (hy1 : y.name = "<init>") (hd : y.cls ≠ "java/lang/invoke/MethodHandle" ∧ y.cls ≠ "java/lang/invoke/VarHandle" ∧ (parseMethodDescriptor y.desc).map (fun d => d.parameters.length) = some n) (rm : Room) (hrc : rm.cells = mc) (hrs : rm.slots = ms) (hR : rm.frames + 1 ≤ R.frames ∧ 8 + (ml + 11) + rm.locals ≤ R.locals) (hcs : kc + mc ≤ R.cells ∧ ks + ms ≤ R.slots) 
    (hM : nt_Mv l y (ws_ y b ml none) rm D cI cS cP (.ref bo :: As) L f post mc ms) (hn : As.length = n) (hst : st0 = As.reverse ++ .ref bo :: st) (hW : (st.map fun v => v.category).sum ≤ 8)
    (K : ∀ (L' : List Nat) (f' : Nat → va_E), post L' f' → nt_X l R D nL G L' f' L2 f2 (kc + mc) (ks + ms) lv pc' st) : nt_X l R D nL G L f L2 f2 kc ks lv pc st0 := by
  subst hpc
  intro H locs ls hP hD hS hl
  exact nx_c1v F hP hD hS hl (va_runI ⟨F.1, F.2.1, F.2.2.1, F.2.2.2.1, F.2.2.2.2.1⟩ (hM H.size) (cwI n F.2.2.2.2.1 (lw_meth h4) rfl hrc hrs (F.2.2.2.2.1 _ h3) (F.2.2.2.2.1 _ h1) (F.2.2.2.2.1 _ h2) hy1 hd hR) (nt_pre1 F.2.2.2.2.2.1 hP hD (.ref bo :: As)) rfl hn hl.1 hst (lv_room hW) hdg hcs) K
theorem nx_vI2 (F : nt_F G D cI cS cP cc own nL) (pc' : Nat) (hpc : pc + 3 = pc') {y : MethodName} {b : ByteArray} {ml index n mc ms : Nat} {bo : Nat} (As : List Value) {st0 : List Value} {post : List Nat → (Nat → va_E) → Prop} (hdg : decode cc pc = .ok (.invokespecial index, 3)) (h1 : Cond.methodLink own index y ∈ lw_all) (h2 : Cond.instanceMethod y ∈ lw_all) (h3 : Cond.initialized y.cls ∈ lw_all) (h4 : Cond.code y b ml none ∈ lw_all) (hy1 : y.name = "<init>") (hd : y.cls ≠ "java/lang/invoke/MethodHandle" ∧ y.cls ≠ "java/lang/invoke/VarHandle" ∧ (parseMethodDescriptor y.desc).map (fun d => d.parameters.length) = some n) (rm : Room) (hrc : rm.cells = mc) (hrs : rm.slots = ms) (hR : rm.frames + 1 ≤ R.frames ∧ 8 + (ml + 11) + rm.locals ≤ R.locals) (hcs : kc + mc ≤ R.cells ∧ ks + ms ≤ R.slots) 
    (hM : nt_Mv l y (ws_ y b ml none) rm D cI cS cP (.ref bo :: As) L2 f2 post mc ms) (hn : As.length = n) (hst : st0 = As.reverse ++ .ref bo :: st) (hW : (st.map fun v => v.category).sum ≤ 8)
    (K : ∀ (L' : List Nat) (f' : Nat → va_E), post L' f' → nt_X l R D nL G L f L' f' (kc + mc) (ks + ms) lv pc' st) : nt_X l R D nL G L f L2 f2 kc ks lv pc st0 := by
  subst hpc
  intro H locs ls hP hD hS hl
  exact nx_c2v F hP hD hS hl (va_runI ⟨F.1, F.2.1, F.2.2.1, F.2.2.2.1, F.2.2.2.2.1⟩ (hM H.size) (cwI n F.2.2.2.2.1 (lw_meth h4) rfl hrc hrs (F.2.2.2.2.1 _ h3) (F.2.2.2.2.1 _ h1) (F.2.2.2.2.1 _ h2) hy1 hd hR) (nt_pre2 F.2.2.2.2.2.1 hP hD (.ref bo :: As)) rfl hn hl.1 hst (lv_room hW) hdg hcs) K
/-- a static method of numbers alone: its pool is empty -/
theorem nx_iS (F : nt_F G D cI cS cP cc own nL) (pc' : Nat) (hpc : pc + 3 = pc') {y : MethodName} {b : ByteArray} {ml index n : Nat} {ret : Option FieldType} (As : List Value) {st0 : List Value} {f0 : Nat → va_E} {post : Int32 → List Nat → (Nat → va_E) → Prop} (hdg : decode cc pc = .ok (.invokestatic index, 3)) (h1 : Cond.methodLink own index y ∈ lw_all) (h2 : Cond.static y ∈ lw_all) (h3 : Cond.initialized y.cls ∈ lw_all) (h4 : Cond.code y b ml ret ∈ lw_all) (hd : y.cls ≠ "java/lang/invoke/MethodHandle" ∧ y.cls ≠ "java/lang/invoke/VarHandle" ∧ (parseMethodDescriptor y.desc).map (fun d => d.parameters.length) = some n) (rm : Room) (hrc : rm.cells = 0) (hrs : rm.slots = 0) (hR : rm.frames + 1 ≤ R.frames ∧ 8 + (ml + 11) + rm.locals ≤ R.locals) (hcs : kc + 0 ≤ R.cells ∧ ks + 0 ≤ R.slots)
    (hM : nt_Mi l y (ws_ y b ml ret) rm D cI cS cP As [] f0 post 0 0) (hn : As.length = n) (hst : st0 = As.reverse ++ st) (hW : (st.map fun v => v.category).sum ≤ 8)
    (K : ∀ (r : Int32) (L' : List Nat) (f' : Nat → va_E), post r L' f' → nt_X l R D nL G L f L2 f2 kc ks lv pc' (.int r :: st)) : nt_X l R D nL G L f L2 f2 kc ks lv pc st0 := by
  subst hpc
  intro H locs ls hP hD hS hl
  have hP0 : va_P D vwCl (va_pl [] f0 ++ (va_pl L f ++ va_pl L2 f2)) H := hP
  have hD0 : va_D (nt_AO G) (va_pl [] f0 ++ (va_pl L f ++ va_pl L2 f2)) := hD
  have hF := nt_hF1 hD0 hS F.2.2.2.2.2.2
  refine va_calli (post := fun r (u : List Nat × (Nat → va_E)) => post r u.1 u.2) (B := nt_B D [] f0 H.size) (A1 := va_A (va_pl [] f0) H.size) (va_runS ⟨F.1, F.2.1, F.2.2.1, F.2.2.2.1, F.2.2.2.2.1⟩ (hM H.size) (va_cwS n F.2.2.2.2.1 (lw_S h1 h2 h3 h4) rfl hrc hrs hd hR) (nt_pre1 F.2.2.2.2.2.1 hP0 hD0 As) rfl hn hl.1 hst (lv_room hW) hdg hcs) hS (fun q _ h => hF q h) hF (fun r u t H1 locs1 ht hvm hw hB hz hk hS1 => ?_)
  obtain ⟨hP1, hD1⟩ := hB
  rw [ht] at hP1
  obtain ⟨hP2, hD2⟩ := nt_join1 hP0 hD0 hk hF hP1 hD1
  exact K r u.1 u.2 hw H1 locs1 ls (nt_P2 hP2) (nt_D2 hD2) hS1 hl
/-! a method's start: the context is a variable from here on, its end a hypothesis -/
theorem nt_enter {y : MethodName} {rm : Room} {ml : Nat} {ret : Option FieldType} {mc ms : Nat} (av : List Value) {Qc : Nat → Array Value → State → Outcome → State → Prop} (hy : plainName y.cls = true) (hown : y.cls = own) (lv : List (Nat × Value)) (hlv : lv_args 0 av = lv) (hlen : (lg_sl av).length ≤ ml)
    (body : ∀ (G : nt_G), nt_F G D cI cS cP cc own ml → (nt_tO G).name = y.name → (nt_tO G).sig.returnType = ret → (nt_tO G).locks = false → nt_AO G = va_A (va_pl L f) (nt_sO G).heap.size → nt_QO G = MQ (nt_bO G) (Qc (nt_sO G).heap.size) (nt_aO G) (nt_sO G) mc ms (va_A (va_pl L f) (nt_sO G).heap.size) → nt_X l rm D ml G L f [] f 0 0 lv 0 []) :
    ∀ sz : Nat, Met l y (ws_ y cc ml ret) rm (nt_Pc D cI cS cP av L f sz) (Qc sz) mc ms (va_A (va_pl L f) sz) := by
  intro sz
  refine Met.ofW (cc := cc) (maxL := ml) (ret := ret) hy rfl ?_
  intro p e s m args below meth c s₁ B hml hv
  obtain ⟨rfl, hsz, hP, hK, hD0⟩ := hv
  have hts := atoms_spec (ws := ws_ y cc ml ret) B.pre
  have hts : ∀ w ∈ lw_all, w.before _ s = true := fun w h => hts w (List.mem_cons_of_mem _ h)
  have hfc : s.vm.findClass own = some m.cls := hown ▸ findClass_of_methodNamed B.named
  have hin : meth.name = y.name := (name_of_methodNamed B.named B.method).1
  subst hsz
  have hD := hD0.self (sz := s.heap.size)
  have hl := lv_entry av (n := ml) hlen
  rw [hlv] at hl
  rw [lg_entry_eq]
  have hX := body (p, e, s, m, av.toArray, below, meth, c, MQ below (Qc s.heap.size) av.toArray s mc ms (va_A (va_pl L f) s.heap.size), va_A (va_pl L f) s.heap.size) ⟨B.exec, B.bytes, hml, hfc, hts, hK, fun q h => Or.inr h⟩ hin B.returns B.notSynchronized rfl rfl
  exact hX s.heap [] _ (by show va_P D vwCl (va_pl L f ++ []) s.heap; rw [List.append_nil]; exact hP) (by show va_D (va_A (va_pl L f) s.heap.size) (va_pl L f ++ []); rw [List.append_nil]; exact hD) va_S.rf hl
theorem nt_enterV {y : MethodName} {rm : Room} {ml : Nat} {mc ms : Nat} (av : List Value) {post : List Nat → (Nat → va_E) → Prop} (hy : plainName y.cls = true) (hown : y.cls = own) (lv : List (Nat × Value)) (hlv : lv_args 0 av = lv) (hlen : (lg_sl av).length ≤ ml)
    (body : ∀ (G : nt_G), nt_F G D cI cS cP cc own ml → (nt_tO G).name = y.name → (∀ {L' : List Nat} {f' : Nat → va_E} {L2 : List Nat} {f2 : Nat → va_E} {kc ks : Nat} {lv : List (Nat × Value)} {pc : Nat}, decode cc pc = .ok (.return_, 1) → kc ≤ mc → ks ≤ ms → post L' f' → nt_X l rm D ml G L' f' L2 f2 kc ks lv pc []) → nt_X l rm D ml G L f [] f 0 0 lv 0 []) :
    nt_Mv l y (ws_ y cc ml none) rm D cI cS cP av L f post mc ms :=
  nt_enter av (Qc := fun sz => nt_Qv D L f sz post) hy hown lv hlv hlen (fun G F hn hr hlk hA hQ => body G F hn (fun {L' f' L2 f2 kc ks lv pc} hdg h1 h2 hp => by
    intro H locs ls hP hD hS hl
    rw [hQ]
    rw [hA] at hD hS
    refine W.widen h1 h2 (W.vret F.1 F.2.1 hr (fun t ht hW => ⟨⟨(L', f'), rfl, hp, by rw [ht]; exact nt_P1 hP, nt_D1 hD⟩, hS.F ht⟩) hS.2.2 hdg hlk)))
theorem nt_enterI {y : MethodName} {rm : Room} {ml : Nat} {mc ms : Nat} {rt : FieldType} (av : List Value) {post : Int32 → List Nat → (Nat → va_E) → Prop} (hy : plainName y.cls = true) (hown : y.cls = own) (lv : List (Nat × Value)) (hlv : lv_args 0 av = lv) (hlen : (lg_sl av).length ≤ ml)
    (body : ∀ (G : nt_G), nt_F G D cI cS cP cc own ml → (nt_tO G).name = y.name → (∀ {v : Int32} {L' : List Nat} {f' : Nat → va_E} {L2 : List Nat} {f2 : Nat → va_E} {kc ks : Nat} {lv : List (Nat × Value)} {pc : Nat}, decode cc pc = .ok (.ireturn, 1) → narrow rt (.int v) = .int v → kc ≤ mc → ks ≤ ms → post v L' f' → nt_X l rm D ml G L' f' L2 f2 kc ks lv pc [.int v]) → nt_X l rm D ml G L f [] f 0 0 lv 0 []) :
    nt_Mi l y (ws_ y cc ml (some rt)) rm D cI cS cP av L f post mc ms :=
  nt_enter av (Qc := fun sz => nt_Qi D L f sz post) hy hown lv hlv hlen (fun G F hn hr hlk hA hQ => body G F hn (fun {v L' f' L2 f2 kc ks lv pc} hdg hnw h1 h2 hp => by
    intro H locs ls hP hD hS hl
    rw [hQ]
    rw [hA] at hD hS
    refine W.widen h1 h2 (W.zret F.1 F.2.1 hr hnw (fun t ht hW => ⟨⟨v, (L', f'), rfl, hp, by rw [ht]; exact nt_P1 hP, nt_D1 hD⟩, hS.F ht⟩) hS.2.2 hdg hlk)))
theorem nt_enterR {y : MethodName} {rm : Room} {ml : Nat} {mc ms : Nat} {C : String} (av : List Value) {post : Nat → List Nat → (Nat → va_E) → Prop} (hy : plainName y.cls = true) (hown : y.cls = own) (lv : List (Nat × Value)) (hlv : lv_args 0 av = lv) (hlen : (lg_sl av).length ≤ ml)
    (body : ∀ (G : nt_G), nt_F G D cI cS cP cc own ml → (nt_tO G).name = y.name → (∀ {v : Nat} {L' : List Nat} {f' : Nat → va_E} {L2 : List Nat} {f2 : Nat → va_E} {kc ks : Nat} {lv : List (Nat × Value)} {pc : Nat}, decode cc pc = .ok (.areturn, 1) → kc ≤ mc → ks ≤ ms → post v L' f' → nt_X l rm D ml G L' f' L2 f2 kc ks lv pc [.ref v]) → nt_X l rm D ml G L f [] f 0 0 lv 0 []) :
    nt_Mr l y (ws_ y cc ml (some (.object C))) rm D cI cS cP av L f post mc ms :=
  nt_enter av (Qc := fun sz => nt_Qr D L f sz post) hy hown lv hlv hlen (fun G F hn hr hlk hA hQ => body G F hn (fun {v L' f' L2 f2 kc ks lv pc} hdg h1 h2 hp => by
    intro H locs ls hP hD hS hl
    rw [hQ]
    rw [hA] at hD hS
    refine W.widen h1 h2 (W.aret F.1 F.2.1 hr (Or.inl ⟨_, rfl⟩) (Or.inr ⟨_, rfl⟩) (fun t ht hW => ⟨⟨(L', f'), v, rfl, trivial, hp, by rw [ht]; exact nt_P1 hP, nt_D1 hD⟩, hS.F ht⟩) hS.2.2 hdg hlk)))
/-! facts out of the world -/
theorem nx_apart (F : nt_F G D cI cS cP cc own nL) (K : (∀ a b : Nat, a ∈ L → b ∈ L2 → a ≠ b) → nt_X l R D nL G L f L2 f2 kc ks lv pc st) : nt_X l R D nL G L f L2 f2 kc ks lv pc st :=
  fun H locs ls hP hD hS hl => K (fun a b ha hb => nt_ne12 hD ha hb) H locs ls hP hD hS hl
/-- loops: from the place behind the last turn back to the first -/
theorem nt_up (P : Nat → Prop) (N : Nat) (hN : P N) (hs : ∀ i, i < N → P (i + 1) → P i) : P 0 := by
  have h : ∀ k, k ≤ N → P (N - k) := by
    intro k
    induction k with
    | zero => intro _; exact hN
    | succ k ih =>
      intro hk
      have h1 := ih (by omega)
      rw [show N - k = N - (k + 1) + 1 by omega] at h1
      exact hs _ (by omega) h1
  have h0 := h N (Nat.le_refl N)
  rw [Nat.sub_self] at h0
  exact h0
end NX
/-! pools of int arrays as a memory -/
def nt_im (cI : ClassId) (ln : Nat → Nat) (M : nt_M) : Nat → va_E := fun q => .inl (cI, ln q, .inl (M q))
theorem nt_arr {cA : ClassId} {n n' : Nat} {g g' : Nat → Int32} (h : n = n') (hg : ∀ j, g j = g' j) : (.inl (cA, n, .inl g) : va_E) = .inl (cA, n', .inl g') := by
  rw [h, funext hg]
theorem nt_im_up (cI : ClassId) (ln : Nat → Nat) (M : nt_M) (a k : Nat) (v : Int32) : va_up (nt_im cI ln M) a (.inl (cI, ln a, .inl (upd (M a) k v))) = nt_im cI ln (nt_st M a k v) := by
  funext q
  by_cases h : q = a
  · rw [h, va_up_self]
    refine nt_arr rfl (fun j => ?_)
    unfold upd nt_st
    by_cases g : j = k
    · rw [if_pos g, if_pos ⟨rfl, g⟩]
    · rw [if_neg g, if_neg (fun z => g z.2)]
  · rw [va_up_ne _ _ h]
    refine nt_arr rfl (fun j => ?_)
    unfold nt_st
    rw [if_neg (fun z => h z.1)]
end
section
/-! ===== small rows over the layer ===== -/
theorem nt_addN {a b n : Nat} (h : a + b = n) : nI a + nI b = nI n := by rw [nI_add, h]
theorem nt_subN {a b n : Nat} (h : n + b = a) : nI a - nI b = nI n := by rw [pk_sub (show b ≤ a by omega), show a - b = n by omega]
theorem nt_mulN {a b n : Nat} (h : a * b = n) : nI a * nI b = nI n := by rw [pk_mul, h]
theorem nt_nI {a b : Nat} (h : a = b) : nI a = nI b := by rw [h]
section NXR
variable {l : Launch} {R : Room} {D : va_G} {nL : Nat} {G : nt_G} {L L2 : List Nat} {f f2 : Nat → va_E} {kc ks : Nat} {lv : List (Nat × Value)} {pc : Nat} {st : List Value}
variable {cI cS cP : ClassId} {cc : ByteArray} {own : String} {ln : Nat → Nat} {M : nt_M}
/-- the first pool under another name -/
theorem nx_f (f' : Nat → va_E) (h : f' = f) (K : nt_X l R D nL G L f' L2 f2 kc ks lv pc st) : nt_X l R D nL G L f L2 f2 kc ks lv pc st := by
  subst h
  exact K
theorem nx_f2 (f' : Nat → va_E) (h : f' = f2) (K : nt_X l R D nL G L f L2 f' kc ks lv pc st) : nt_X l R D nL G L f L2 f2 kc ks lv pc st := by
  subst h
  exact K
theorem nx_mld (F : nt_F G D cI cS cP cc own nL) (pc' : Nat) (hpc : pc + 1 = pc') {a k : Nat} {v : Int32} (hdg : decode cc pc = .ok (.iaload, 1)) (ha : a ∈ L) (hk : k < ln a) (hn : ln a < 100000) (hv : M a k = v)
    (K : nt_X l R D nL G L (nt_im cI ln M) L2 f2 kc ks lv pc' (.int v :: st)) : nt_X l R D nL G L (nt_im cI ln M) L2 f2 kc ks lv pc (.int (nI k) :: .ref a :: st) :=
  nx_ald F pc' hpc hdg (nt_in1 ha rfl) hk (by omega) hv K
theorem nx_mst (F : nt_F G D cI cS cP cc own nL) (pc' : Nat) (hpc : pc + 1 = pc') {a k : Nat} {v : Int32} (hdg : decode cc pc = .ok (.iastore, 1)) (ha : a ∈ L) (hk : k < ln a) (hn : ln a < 100000) (M' : nt_M) (hM : nt_st M a k v = M')
    (K : nt_X l R D nL G L (nt_im cI ln M') L2 f2 kc ks lv pc' st) : nt_X l R D nL G L (nt_im cI ln M) L2 f2 kc ks lv pc (.int v :: .int (nI k) :: .ref a :: st) :=
  nx_ast F pc' hpc hdg ha rfl hk (by omega) (nt_im cI ln M') (by rw [nt_im_up, hM]) K
theorem nx_mld2 (F : nt_F G D cI cS cP cc own nL) (pc' : Nat) (hpc : pc + 1 = pc') {a k : Nat} {v : Int32} (hdg : decode cc pc = .ok (.iaload, 1)) (ha : a ∈ L2) (hk : k < ln a) (hn : ln a < 100000) (hv : M a k = v)
    (K : nt_X l R D nL G L f L2 (nt_im cI ln M) kc ks lv pc' (.int v :: st)) : nt_X l R D nL G L f L2 (nt_im cI ln M) kc ks lv pc (.int (nI k) :: .ref a :: st) :=
  nx_ald F pc' hpc hdg (nt_in2 ha rfl) hk (by omega) hv K
theorem nx_mst2 (F : nt_F G D cI cS cP cc own nL) (pc' : Nat) (hpc : pc + 1 = pc') {a k : Nat} {v : Int32} (hdg : decode cc pc = .ok (.iastore, 1)) (ha : a ∈ L2) (hk : k < ln a) (hn : ln a < 100000) (M' : nt_M) (hM : nt_st M a k v = M')
    (K : nt_X l R D nL G L f L2 (nt_im cI ln M') kc ks lv pc' st) : nt_X l R D nL G L f L2 (nt_im cI ln M) kc ks lv pc (.int v :: .int (nI k) :: .ref a :: st) := by
  subst hpc
  intro H locs ls hP hD hS hl
  obtain ⟨q0, hq⟩ := nt_mem2 (L := L) (f := f) (f2 := nt_im cI ln M) ha
  have hq2 : (va_pl L f ++ va_pl L2 (nt_im cI ln M))[q0]? = some (a, .inl (cI, ln a, .inl (M a))) := hq
  refine va_iast F.1 F.2.1 F.2.2.2.2.2.1.1 hP hD hS q0 0 hq2 rfl (vp_in_nI hk (by omega)) hdg (fun H1 locs1 hP1 hD1 hS1 => ?_)
  rw [nI_clamp (show k < 2 ^ 31 by omega), nt_set2 hD ha hq, nt_im_up, hM] at hP1 hD1
  exact K H1 locs1 ls hP1 hD1 hS1 hl
end NXR
/-! a second pool may forget what it says of other addresses -/
theorem nx_pool2 {l : Launch} {R : Room} {D : va_G} {nL : Nat} {G : nt_G} {L L2 : List Nat} {f f2 : Nat → va_E} {kc ks : Nat} {lv : List (Nat × Value)} {pc : Nat} {st : List Value} (f2' : Nat → va_E) (h : ∀ q, q ∈ L2 → f2 q = f2' q) (K : nt_X l R D nL G L f L2 f2' kc ks lv pc st) : nt_X l R D nL G L f L2 f2 kc ks lv pc st := by
  have e : va_pl L2 f2 = va_pl L2 f2' := List.map_congr_left (fun b hb => by rw [h b hb])
  intro H locs ls hP hD hS hl
  rw [e] at hP hD
  exact K H locs ls hP hD hS hl
theorem nt_up_id {f : Nat → va_E} {a : Nat} {e : va_E} (h : f a = e) : va_up f a e = f := by
  funext q
  by_cases g : q = a
  · rw [g, va_up_self, h]
  · rw [va_up_ne _ _ g]
theorem nt_w_at0 {n j : Nat} {new old : Nat → Int32} (h : j < n) : nt_w 0 n new old j = new j := by
  have e := nt_w_at (off := 0) (new := new) (old := old) h
  rw [Nat.zero_add] at e
  exact e
theorem nt_wr_s0 (M : nt_M) (a n : Nat) (new : Nat → Int32) {v : Int32} (hv : v = new n) : nt_st (nt_wr M a 0 n new) a n v = nt_wr M a 0 (n + 1) new := by
  have e := nt_wr_s M a 0 n new hv
  rw [Nat.zero_add] at e
  exact e
theorem nt_wr_at0 {M : nt_M} {a n : Nat} {new : Nat → Int32} {j : Nat} (h : j < n) : nt_wr M a 0 n new a j = new j := by
  have e := nt_wr_at (M := M) (a := a) (off := 0) (new := new) h
  rw [Nat.zero_add] at e
  exact e
end
section
/-! ===== kMul (printed by gen/kmul.py) ===== -/
/-- kMul's contract at depth d: at most 48 * 2 ^ d places -/
def nt_kC (l : Launch) (D : va_G) (cI cS cP : ClassId) (d : Nat) : Prop :=
  ∀ {L : List Nat} {ln : Nat → Nat} {M : nt_M} {r rOff ul a aOff b bOff len t tOff : Nat} (hr : r ∈ L) (ha : a ∈ L) (hb : b ∈ L) (ht : t ∈ L) (hln : ∀ q, q ∈ L → ln q < 100000) (br : rOff + ul ≤ ln r) (ba : aOff + len ≤ ln a) (bb : bOff + len ≤ ln b) (bt : tOff + 9 * len ≤ ln t) (hul : ul + 1 = 2 * len)
    (d1 : nt_dis r rOff ul t tOff (9 * len)) (d2 : nt_dis a aOff len t tOff (9 * len)) (d3 : nt_dis b bOff len t tOff (9 * len)) (d4 : nt_dis r rOff ul a aOff len) (d5 : nt_dis r rOff ul b bOff len) (_ : len ≤ 48 * 2 ^ d),
    nt_Mv l yX1_kMul (ws_ yX1_kMul cX1_kMul 19 none) ({ frames := d, cells := 0, slots := 0, locals := 38 * d } : Room) D cI cS cP [.ref r, .int (nI rOff), .ref a, .int (nI aOff), .ref b, .int (nI bOff), .int (nI len), .ref t, .int (nI tOff)] L (nt_im cI ln M) (fun L' f' => L' = L ∧ ∃ M' : nt_M, f' = nt_im cI ln M' ∧ nt_KS r rOff ul a aOff b bOff len t tOff M M') 0 0
set_option maxHeartbeats 4000000 in
set_option maxRecDepth 100000 in
/-- kMul, at most 48 places: the product by its definition -/
theorem km_base {l : Launch} {R : Room} {D : va_G} {G : nt_G} {L : List Nat} {f2 : Nat → va_E} {cI cS cP : ClassId} {ln : Nat → Nat} {M : nt_M} {r rOff ul a aOff b bOff len t tOff : Nat} (F : nt_F G D cI cS cP cX1_kMul RX1 19)
    (hr : r ∈ L) (ha : a ∈ L) (hb : b ∈ L) (ht : t ∈ L) (hln : ∀ q, q ∈ L → ln q < 100000) (br : rOff + ul ≤ ln r) (ba : aOff + len ≤ ln a) (bb : bOff + len ≤ ln b) (bt : tOff + 9 * len ≤ ln t) (hul : ul + 1 = 2 * len) (d4 : nt_dis r rOff ul a aOff len) (d5 : nt_dis r rOff ul b bOff len)
    (hret : ∀ {lv : List (Nat × Value)} {pc : Nat} (M' : nt_M), decode cX1_kMul pc = .ok (.return_, 1) → nt_KS r rOff ul a aOff b bOff len t tOff M M' → nt_X l R D 19 G L (nt_im cI ln M') [] f2 0 0 lv pc []) :
    nt_X l R D 19 G L (nt_im cI ln M) [] f2 0 0 [(0, .ref r), (1, .int (nI rOff)), (2, .ref a), (3, .int (nI aOff)), (4, .ref b), (5, .int (nI bOff)), (6, .int (nI len)), (7, .ref t), (8, .int (nI tOff))] 7 [] := by
  have lr := hln r hr
  have la := hln a ha
  have lb := hln b hb
  have lt := hln t ht
  refine nx_iconst F 8 rfl (v := nI 2) dX1_kMul_7 (by decide +kernel) ?_
  refine nx_iload F 10 rfl dX1_kMul_8 6 rfl ?_
  refine nx_imul F 11 rfl dX1_kMul_10 (nt_mulN (show 2 * len = 2 * len by omega)) ?_
  refine nx_iconst F 12 rfl (v := nI 1) dX1_kMul_11 (by decide +kernel) ?_
  refine nx_isub F 13 rfl dX1_kMul_12 (nt_subN (show ul + 1 = (2 * len) by omega)) ?_
  refine nx_istore F 15 rfl dX1_kMul_13 (by decide) [(9, .int (nI ul)), (0, .ref r), (1, .int (nI rOff)), (2, .ref a), (3, .int (nI aOff)), (4, .ref b), (5, .int (nI bOff)), (6, .int (nI len)), (7, .ref t), (8, .int (nI tOff))] rfl ?_
  refine nx_iconst F 16 rfl (v := nI 0) dX1_kMul_15 (by decide +kernel) ?_
  refine nx_istore F 18 rfl dX1_kMul_16 (by decide) [(10, .int (nI 0)), (9, .int (nI ul)), (0, .ref r), (1, .int (nI rOff)), (2, .ref a), (3, .int (nI aOff)), (4, .ref b), (5, .int (nI bOff)), (6, .int (nI len)), (7, .ref t), (8, .int (nI tOff))] rfl ?_
  refine nx_f (nt_im cI ln (nt_wr M r rOff 0 (fun _ => 0))) (by rw [nt_wr_0]) ?_
  refine nt_up (fun i => nt_X l R D 19 G L (nt_im cI ln (nt_wr M r rOff i (fun _ => 0))) [] f2 0 0 [(10, .int (nI i)), (9, .int (nI ul)), (0, .ref r), (1, .int (nI rOff)), (2, .ref a), (3, .int (nI aOff)), (4, .ref b), (5, .int (nI bOff)), (6, .int (nI len)), (7, .ref t), (8, .int (nI tOff))] 18 []) ul ?_ ?_
  · refine nx_iload F 20 rfl dX1_kMul_18 0 rfl ?_
    refine nx_iload F 22 rfl dX1_kMul_20 1 rfl ?_
    refine nx_ge F 25 38 rfl dX1_kMul_22 (by decide) (by omega) (by omega) (fun _ => ?_) (fun hh => absurd hh (by omega))
    refine nx_iconst F 39 rfl (v := nI 0) dX1_kMul_38 (by decide +kernel) ?_
    refine nx_istore F 41 rfl dX1_kMul_39 (by decide) [(10, .int (nI 0)), (9, .int (nI ul)), (0, .ref r), (1, .int (nI rOff)), (2, .ref a), (3, .int (nI aOff)), (4, .ref b), (5, .int (nI bOff)), (6, .int (nI len)), (7, .ref t), (8, .int (nI tOff))] rfl ?_
    refine nx_lv [0, 2, 3, 4, 5, 6, 7, 8, 9, 10] [(10, .int (nI 0)), (0, .ref r), (1, .int (nI rOff)), (2, .ref a), (3, .int (nI aOff)), (4, .ref b), (5, .int (nI bOff)), (6, .int (nI len)), (7, .ref t), (8, .int (nI tOff))] rfl ?_
    refine nx_f (nt_im cI ln (nt_wr M r rOff ul (nt_ac (fun u => M a (aOff + u)) (nt_sl (M b) bOff len) 0 0))) (by rw [nt_ac_0]) ?_
    refine nt_up (fun i => nt_X l R D 19 G L (nt_im cI ln (nt_wr M r rOff ul (nt_ac (fun u => M a (aOff + u)) (nt_sl (M b) bOff len) i 0))) [] f2 0 0 [(10, .int (nI i)), (0, .ref r), (1, .int (nI rOff)), (2, .ref a), (3, .int (nI aOff)), (4, .ref b), (5, .int (nI bOff)), (6, .int (nI len)), (7, .ref t), (8, .int (nI tOff))] 41 []) len ?_ ?_
    · refine nx_iload F 43 rfl dX1_kMul_41 0 rfl ?_
      refine nx_iload F 45 rfl dX1_kMul_43 7 rfl ?_
      refine nx_ge F 48 105 rfl dX1_kMul_45 (by decide) (by omega) (by omega) (fun _ => ?_) (fun hh => absurd hh (by omega))
      exact hret _ dX1_kMul_105 nt_KS_base
    · intro i qi ihi
      refine nx_iload F 43 rfl dX1_kMul_41 0 rfl ?_
      refine nx_iload F 45 rfl dX1_kMul_43 7 rfl ?_
      refine nx_ge F 48 105 rfl dX1_kMul_45 (by decide) (by omega) (by omega) (fun hh => absurd hh (by omega)) (fun _ => ?_)
      refine nx_aload_n F 49 rfl dX1_kMul_48 3 rfl ?_
      refine nx_iload_n F 50 rfl dX1_kMul_49 4 rfl ?_
      refine nx_iload F 52 rfl dX1_kMul_50 0 rfl ?_
      refine nx_iadd F 53 rfl dX1_kMul_52 (nt_addN (show aOff + i = aOff + i by omega)) ?_
      refine nx_mld F 54 rfl dX1_kMul_53 (v := M a (aOff + i)) ha (show aOff + i < ln a by omega) (hln a ha) (nt_wr_out (by have hd := d4; unfold nt_dis at hd; omega)) ?_
      refine nx_istore F 56 rfl dX1_kMul_54 (by decide) [(11, .int (M a (aOff + i))), (10, .int (nI i)), (0, .ref r), (1, .int (nI rOff)), (2, .ref a), (3, .int (nI aOff)), (4, .ref b), (5, .int (nI bOff)), (6, .int (nI len)), (7, .ref t), (8, .int (nI tOff))] rfl ?_
      refine nx_iload_n F 57 rfl dX1_kMul_56 3 rfl ?_
      refine nx_iload F 59 rfl dX1_kMul_57 1 rfl ?_
      refine nx_iadd F 60 rfl dX1_kMul_59 (nt_addN (show rOff + i = rOff + i by omega)) ?_
      refine nx_istore F 62 rfl dX1_kMul_60 (by decide) [(12, .int (nI (rOff + i))), (11, .int (M a (aOff + i))), (10, .int (nI i)), (0, .ref r), (1, .int (nI rOff)), (2, .ref a), (3, .int (nI aOff)), (4, .ref b), (5, .int (nI bOff)), (6, .int (nI len)), (7, .ref t), (8, .int (nI tOff))] rfl ?_
      refine nx_iconst F 63 rfl (v := nI 0) dX1_kMul_62 (by decide +kernel) ?_
      refine nx_istore F 65 rfl dX1_kMul_63 (by decide) [(13, .int (nI 0)), (12, .int (nI (rOff + i))), (11, .int (M a (aOff + i))), (10, .int (nI i)), (0, .ref r), (1, .int (nI rOff)), (2, .ref a), (3, .int (nI aOff)), (4, .ref b), (5, .int (nI bOff)), (6, .int (nI len)), (7, .ref t), (8, .int (nI tOff))] rfl ?_
      refine nx_f (nt_im cI ln (nt_wr M r rOff ul (nt_ac (fun u => M a (aOff + u)) (nt_sl (M b) bOff len) i 0))) rfl ?_
      refine nt_up (fun j => nt_X l R D 19 G L (nt_im cI ln (nt_wr M r rOff ul (nt_ac (fun u => M a (aOff + u)) (nt_sl (M b) bOff len) i j))) [] f2 0 0 [(13, .int (nI j)), (12, .int (nI (rOff + i))), (11, .int (M a (aOff + i))), (10, .int (nI i)), (0, .ref r), (1, .int (nI rOff)), (2, .ref a), (3, .int (nI aOff)), (4, .ref b), (5, .int (nI bOff)), (6, .int (nI len)), (7, .ref t), (8, .int (nI tOff))] 65 []) len ?_ ?_
      · refine nx_iload F 67 rfl dX1_kMul_65 0 rfl ?_
        refine nx_iload F 69 rfl dX1_kMul_67 10 rfl ?_
        refine nx_ge F 72 99 rfl dX1_kMul_69 (by decide) (by omega) (by omega) (fun _ => ?_) (fun hh => absurd hh (by omega))
        refine nx_f (nt_im cI ln (nt_wr M r rOff ul (nt_ac (fun u => M a (aOff + u)) (nt_sl (M b) bOff len) (i + 1) 0))) (by rw [nt_ac_i _ _ i len (fun u hu => nt_sl_ge hu)]) ?_
        refine nx_iinc F 102 rfl dX1_kMul_99 3 rfl (nI_1 _) (by decide) [(10, .int (nI (i + 1))), (13, .int (nI len)), (12, .int (nI (rOff + i))), (11, .int (M a (aOff + i))), (0, .ref r), (1, .int (nI rOff)), (2, .ref a), (3, .int (nI aOff)), (4, .ref b), (5, .int (nI bOff)), (6, .int (nI len)), (7, .ref t), (8, .int (nI tOff))] rfl ?_
        refine nx_goto F 41 dX1_kMul_102 (by decide) ?_
        refine nx_lv [0, 4, 5, 6, 7, 8, 9, 10, 11, 12] [(10, .int (nI (i + 1))), (0, .ref r), (1, .int (nI rOff)), (2, .ref a), (3, .int (nI aOff)), (4, .ref b), (5, .int (nI bOff)), (6, .int (nI len)), (7, .ref t), (8, .int (nI tOff))] rfl ?_
        exact ihi
      · intro j qj ihj
        refine nx_iload F 67 rfl dX1_kMul_65 0 rfl ?_
        refine nx_iload F 69 rfl dX1_kMul_67 10 rfl ?_
        refine nx_ge F 72 99 rfl dX1_kMul_69 (by decide) (by omega) (by omega) (fun hh => absurd hh (by omega)) (fun _ => ?_)
        refine nx_aload_n F 73 rfl dX1_kMul_72 4 rfl ?_
        refine nx_iload F 75 rfl dX1_kMul_73 1 rfl ?_
        refine nx_iload F 77 rfl dX1_kMul_75 0 rfl ?_
        refine nx_iadd F 78 rfl dX1_kMul_77 (nt_addN (show (rOff + i) + j = rOff + (i + j) by omega)) ?_
        refine nx_dup2 F 79 rfl dX1_kMul_78 rfl rfl ?_
        refine nx_mld F 80 rfl dX1_kMul_79 (v := nt_ac (fun u => M a (aOff + u)) (nt_sl (M b) bOff len) i j (i + j)) hr (show rOff + (i + j) < ln r by omega) (hln r hr) (nt_wr_at (by omega)) ?_
        refine nx_iload F 82 rfl dX1_kMul_80 2 rfl ?_
        refine nx_aload F 84 rfl dX1_kMul_82 8 rfl ?_
        refine nx_iload F 86 rfl dX1_kMul_84 9 rfl ?_
        refine nx_iload F 88 rfl dX1_kMul_86 0 rfl ?_
        refine nx_iadd F 89 rfl dX1_kMul_88 (nt_addN (show bOff + j = bOff + j by omega)) ?_
        refine nx_mld F 90 rfl dX1_kMul_89 (v := M b (bOff + j)) hb (show bOff + j < ln b by omega) (hln b hb) (nt_wr_out (by have hd := d5; unfold nt_dis at hd; omega)) ?_
        refine nx_imul F 91 rfl dX1_kMul_90 rfl ?_
        refine nx_iadd F 92 rfl dX1_kMul_91 rfl ?_
        refine nx_mst F 93 rfl dX1_kMul_92 hr (show rOff + (i + j) < ln r by omega) (hln r hr) (nt_wr M r rOff ul (nt_ac (fun u => M a (aOff + u)) (nt_sl (M b) bOff len) i (j + 1))) (nt_wr_u M r rOff _ (i + j) (by omega) ((nt_ac_j _ _ i j).trans (by rw [nt_sl_lt qj])) (fun k hk => nt_ac_j2 _ _ i j k hk)) ?_
        refine nx_iinc F 96 rfl dX1_kMul_93 0 rfl (nI_1 _) (by decide) [(13, .int (nI (j + 1))), (12, .int (nI (rOff + i))), (11, .int (M a (aOff + i))), (10, .int (nI i)), (0, .ref r), (1, .int (nI rOff)), (2, .ref a), (3, .int (nI aOff)), (4, .ref b), (5, .int (nI bOff)), (6, .int (nI len)), (7, .ref t), (8, .int (nI tOff))] rfl ?_
        refine nx_goto F 65 dX1_kMul_96 (by decide) ?_
        exact ihj
  · intro i qi ihi
    refine nx_iload F 20 rfl dX1_kMul_18 0 rfl ?_
    refine nx_iload F 22 rfl dX1_kMul_20 1 rfl ?_
    refine nx_ge F 25 38 rfl dX1_kMul_22 (by decide) (by omega) (by omega) (fun hh => absurd hh (by omega)) (fun _ => ?_)
    refine nx_aload_n F 26 rfl dX1_kMul_25 2 rfl ?_
    refine nx_iload_n F 27 rfl dX1_kMul_26 3 rfl ?_
    refine nx_iload F 29 rfl dX1_kMul_27 0 rfl ?_
    refine nx_iadd F 30 rfl dX1_kMul_29 (nt_addN (show rOff + i = rOff + i by omega)) ?_
    refine nx_iconst F 31 rfl (v := nI 0) dX1_kMul_30 (by decide +kernel) ?_
    refine nx_mst F 32 rfl dX1_kMul_31 hr (show rOff + i < ln r by omega) (hln r hr) (nt_wr M r rOff (i + 1) (fun _ => 0)) (nt_wr_s M r rOff i _ nI_0) ?_
    refine nx_iinc F 35 rfl dX1_kMul_32 0 rfl (nI_1 _) (by decide) [(10, .int (nI (i + 1))), (9, .int (nI ul)), (0, .ref r), (1, .int (nI rOff)), (2, .ref a), (3, .int (nI aOff)), (4, .ref b), (5, .int (nI bOff)), (6, .int (nI len)), (7, .ref t), (8, .int (nI tOff))] rfl ?_
    refine nx_goto F 18 dX1_kMul_35 (by decide) ?_
    exact ihi
end
section
/-! ===== kMul, the recursive case (printed by gen/kmul.py) ===== -/
set_option maxHeartbeats 8000000 in
set_option maxRecDepth 100000 in
/-- kMul, more than 48 places: three products of half the size -/
theorem km_step {l : Launch} {D : va_G} {G : nt_G} {L : List Nat} {f2 : Nat → va_E} {cI cS cP : ClassId} {d : Nat} (ih : nt_kC l D cI cS cP d) {ln : Nat → Nat} {M : nt_M} {r rOff ul a aOff b bOff len t tOff : Nat} (F : nt_F G D cI cS cP cX1_kMul RX1 19)
    (hr : r ∈ L) (ha : a ∈ L) (hb : b ∈ L) (ht : t ∈ L) (hln : ∀ q, q ∈ L → ln q < 100000) (br : rOff + ul ≤ ln r) (ba : aOff + len ≤ ln a) (bb : bOff + len ≤ ln b) (bt : tOff + 9 * len ≤ ln t) (hul : ul + 1 = 2 * len)
    (d1 : nt_dis r rOff ul t tOff (9 * len)) (d2 : nt_dis a aOff len t tOff (9 * len)) (d3 : nt_dis b bOff len t tOff (9 * len)) (d4 : nt_dis r rOff ul a aOff len) (d5 : nt_dis r rOff ul b bOff len) (h49 : 48 < len) (hd : len ≤ 48 * 2 ^ (d + 1))
    (hret : ∀ {lv : List (Nat × Value)} {pc : Nat} (M' : nt_M), decode cX1_kMul pc = .ok (.return_, 1) → nt_KS r rOff ul a aOff b bOff len t tOff M M' → nt_X l ({ frames := d + 1, cells := 0, slots := 0, locals := 38 * (d + 1) } : Room) D 19 G L (nt_im cI ln M') [] f2 0 0 lv pc []) :
    nt_X l ({ frames := d + 1, cells := 0, slots := 0, locals := 38 * (d + 1) } : Room) D 19 G L (nt_im cI ln M) [] f2 0 0 [(0, .ref r), (1, .int (nI rOff)), (2, .ref a), (3, .int (nI aOff)), (4, .ref b), (5, .int (nI bOff)), (6, .int (nI len)), (7, .ref t), (8, .int (nI tOff))] 106 [] := by
  have lr := hln r hr
  have la := hln a ha
  have lb := hln b hb
  have lt := hln t ht
  rw [Nat.pow_succ] at hd
  obtain ⟨R, hR⟩ : ∃ R : Room, R = ({ frames := d + 1, cells := 0, slots := 0, locals := 38 * (d + 1) } : Room) := ⟨_, rfl⟩
  rw [← hR] at hret ⊢
  refine nx_iload F 108 rfl dX1_kMul_106 6 rfl ?_
  refine nx_iconst F 109 rfl (v := nI 1) dX1_kMul_108 (by decide +kernel) ?_
  refine nx_iadd F 110 rfl dX1_kMul_109 (nt_addN (show len + 1 = len + 1 by omega)) ?_
  refine nx_iconst F 111 rfl (v := nI 1) dX1_kMul_110 (by decide +kernel) ?_
  refine nx_ishr F 112 rfl dX1_kMul_111 (pk_shrN (n := len + 1) (by omega) _ 1 (by decide +kernel)) ?_
  obtain ⟨m, hm⟩ : ∃ z : Nat, z = (len + 1) / 2 := ⟨_, rfl⟩
  refine nx_topi (v' := nI m) (nt_nI (by omega)) ?_
  have m1 : len ≤ 2 * m := by omega
  have m2 : 2 * m ≤ len + 1 := by omega
  clear hm
  obtain ⟨hi, l0⟩ : ∃ z : Nat, m + z = len := ⟨len - m, by omega⟩
  obtain ⟨u0, hu0⟩ : ∃ z : Nat, z + 1 = 2 * m := ⟨2 * m - 1, by omega⟩
  obtain ⟨u2, hu2⟩ : ∃ z : Nat, z + 1 = 2 * hi := ⟨2 * hi - 1, by omega⟩
  have hdm : m ≤ 48 * 2 ^ d := by omega
  have hdh : hi ≤ 48 * 2 ^ d := by omega
  have l1 : hi ≤ m := by omega
  have l2 : m ≤ hi + 1 := by omega
  have l3 : 24 ≤ hi := by omega
  clear hd m1 m2
  refine nx_istore F 114 rfl dX1_kMul_112 (by decide) [(9, .int (nI m)), (0, .ref r), (1, .int (nI rOff)), (2, .ref a), (3, .int (nI aOff)), (4, .ref b), (5, .int (nI bOff)), (6, .int (nI len)), (7, .ref t), (8, .int (nI tOff))] rfl ?_
  refine nx_iload F 116 rfl dX1_kMul_114 7 rfl ?_
  refine nx_iload F 118 rfl dX1_kMul_116 0 rfl ?_
  refine nx_isub F 119 rfl dX1_kMul_118 (nt_subN (show hi + m = len by omega)) ?_
  refine nx_istore F 121 rfl dX1_kMul_119 (by decide) [(10, .int (nI hi)), (9, .int (nI m)), (0, .ref r), (1, .int (nI rOff)), (2, .ref a), (3, .int (nI aOff)), (4, .ref b), (5, .int (nI bOff)), (6, .int (nI len)), (7, .ref t), (8, .int (nI tOff))] rfl ?_
  refine nx_iload F 123 rfl dX1_kMul_121 10 rfl ?_
  refine nx_istore F 125 rfl dX1_kMul_123 (by decide) [(11, .int (nI tOff)), (10, .int (nI hi)), (9, .int (nI m)), (0, .ref r), (1, .int (nI rOff)), (2, .ref a), (3, .int (nI aOff)), (4, .ref b), (5, .int (nI bOff)), (6, .int (nI len)), (7, .ref t), (8, .int (nI tOff))] rfl ?_
  refine nx_iload F 127 rfl dX1_kMul_125 0 rfl ?_
  refine nx_iload F 129 rfl dX1_kMul_127 2 rfl ?_
  refine nx_iadd F 130 rfl dX1_kMul_129 (nt_addN (show tOff + m = tOff + m by omega)) ?_
  obtain ⟨sb, hsb⟩ : ∃ z : Nat, z = tOff + m := ⟨_, rfl⟩
  refine nx_topi (v' := nI sb) (nt_nI (by omega)) ?_
  refine nx_istore F 132 rfl dX1_kMul_130 (by decide) [(12, .int (nI sb)), (11, .int (nI tOff)), (10, .int (nI hi)), (9, .int (nI m)), (0, .ref r), (1, .int (nI rOff)), (2, .ref a), (3, .int (nI aOff)), (4, .ref b), (5, .int (nI bOff)), (6, .int (nI len)), (7, .ref t), (8, .int (nI tOff))] rfl ?_
  refine nx_iload F 134 rfl dX1_kMul_132 0 rfl ?_
  refine nx_iload F 136 rfl dX1_kMul_134 3 rfl ?_
  refine nx_iadd F 137 rfl dX1_kMul_136 (nt_addN (show sb + m = sb + m by omega)) ?_
  obtain ⟨z0, hz0⟩ : ∃ z : Nat, z = sb + m := ⟨_, rfl⟩
  refine nx_topi (v' := nI z0) (nt_nI (by omega)) ?_
  refine nx_istore F 139 rfl dX1_kMul_137 (by decide) [(13, .int (nI z0)), (12, .int (nI sb)), (11, .int (nI tOff)), (10, .int (nI hi)), (9, .int (nI m)), (0, .ref r), (1, .int (nI rOff)), (2, .ref a), (3, .int (nI aOff)), (4, .ref b), (5, .int (nI bOff)), (6, .int (nI len)), (7, .ref t), (8, .int (nI tOff))] rfl ?_
  refine nx_iload F 141 rfl dX1_kMul_139 0 rfl ?_
  refine nx_iconst F 142 rfl (v := nI 2) dX1_kMul_141 (by decide +kernel) ?_
  refine nx_iload F 144 rfl dX1_kMul_142 4 rfl ?_
  refine nx_imul F 145 rfl dX1_kMul_144 (nt_mulN (show 2 * m = 2 * m by omega)) ?_
  refine nx_iconst F 146 rfl (v := nI 1) dX1_kMul_145 (by decide +kernel) ?_
  refine nx_isub F 147 rfl dX1_kMul_146 (nt_subN (show u0 + 1 = (2 * m) by omega)) ?_
  refine nx_iadd F 148 rfl dX1_kMul_147 (nt_addN (show z0 + u0 = z0 + u0 by omega)) ?_
  obtain ⟨z2, hz2⟩ : ∃ z : Nat, z = z0 + u0 := ⟨_, rfl⟩
  refine nx_topi (v' := nI z2) (nt_nI (by omega)) ?_
  refine nx_istore F 150 rfl dX1_kMul_148 (by decide) [(14, .int (nI z2)), (13, .int (nI z0)), (12, .int (nI sb)), (11, .int (nI tOff)), (10, .int (nI hi)), (9, .int (nI m)), (0, .ref r), (1, .int (nI rOff)), (2, .ref a), (3, .int (nI aOff)), (4, .ref b), (5, .int (nI bOff)), (6, .int (nI len)), (7, .ref t), (8, .int (nI tOff))] rfl ?_
  refine nx_iload F 152 rfl dX1_kMul_150 0 rfl ?_
  refine nx_iconst F 153 rfl (v := nI 2) dX1_kMul_152 (by decide +kernel) ?_
  refine nx_iload F 155 rfl dX1_kMul_153 4 rfl ?_
  refine nx_imul F 156 rfl dX1_kMul_155 (nt_mulN (show 2 * hi = 2 * hi by omega)) ?_
  refine nx_iconst F 157 rfl (v := nI 1) dX1_kMul_156 (by decide +kernel) ?_
  refine nx_isub F 158 rfl dX1_kMul_157 (nt_subN (show u2 + 1 = (2 * hi) by omega)) ?_
  refine nx_iadd F 159 rfl dX1_kMul_158 (nt_addN (show z2 + u2 = z2 + u2 by omega)) ?_
  obtain ⟨z1, hz1⟩ : ∃ z : Nat, z = z2 + u2 := ⟨_, rfl⟩
  refine nx_topi (v' := nI z1) (nt_nI (by omega)) ?_
  refine nx_istore F 161 rfl dX1_kMul_159 (by decide) [(15, .int (nI z1)), (14, .int (nI z2)), (13, .int (nI z0)), (12, .int (nI sb)), (11, .int (nI tOff)), (10, .int (nI hi)), (9, .int (nI m)), (0, .ref r), (1, .int (nI rOff)), (2, .ref a), (3, .int (nI aOff)), (4, .ref b), (5, .int (nI bOff)), (6, .int (nI len)), (7, .ref t), (8, .int (nI tOff))] rfl ?_
  refine nx_iload F 163 rfl dX1_kMul_161 0 rfl ?_
  refine nx_iconst F 164 rfl (v := nI 2) dX1_kMul_163 (by decide +kernel) ?_
  refine nx_iload F 166 rfl dX1_kMul_164 6 rfl ?_
  refine nx_imul F 167 rfl dX1_kMul_166 (nt_mulN (show 2 * m = 2 * m by omega)) ?_
  refine nx_iconst F 168 rfl (v := nI 1) dX1_kMul_167 (by decide +kernel) ?_
  refine nx_isub F 169 rfl dX1_kMul_168 (nt_subN (show u0 + 1 = (2 * m) by omega)) ?_
  refine nx_iadd F 170 rfl dX1_kMul_169 (nt_addN (show z1 + u0 = z1 + u0 by omega)) ?_
  obtain ⟨nx, hnx⟩ : ∃ z : Nat, z = z1 + u0 := ⟨_, rfl⟩
  refine nx_topi (v' := nI nx) (nt_nI (by omega)) ?_
  refine nx_istore F 172 rfl dX1_kMul_170 (by decide) [(16, .int (nI nx)), (15, .int (nI z1)), (14, .int (nI z2)), (13, .int (nI z0)), (12, .int (nI sb)), (11, .int (nI tOff)), (10, .int (nI hi)), (9, .int (nI m)), (0, .ref r), (1, .int (nI rOff)), (2, .ref a), (3, .int (nI aOff)), (4, .ref b), (5, .int (nI bOff)), (6, .int (nI len)), (7, .ref t), (8, .int (nI tOff))] rfl ?_
  have hnx9 : nx + 9 * m ≤ tOff + 9 * len := by omega
  have hl : nt_lay len ul m u0 hi u2 tOff sb z0 z2 z1 nx := ⟨l0, l1, l2, l3, hu0, hu2, hul, hsb, hz0, hz2, hz1, hnx, hnx9⟩
  refine nx_iconst F 173 rfl (v := nI 0) dX1_kMul_172 (by decide +kernel) ?_
  refine nx_istore F 175 rfl dX1_kMul_173 (by decide) [(17, .int (nI 0)), (16, .int (nI nx)), (15, .int (nI z1)), (14, .int (nI z2)), (13, .int (nI z0)), (12, .int (nI sb)), (11, .int (nI tOff)), (10, .int (nI hi)), (9, .int (nI m)), (0, .ref r), (1, .int (nI rOff)), (2, .ref a), (3, .int (nI aOff)), (4, .ref b), (5, .int (nI bOff)), (6, .int (nI len)), (7, .ref t), (8, .int (nI tOff))] rfl ?_
  refine nx_f (nt_im cI ln (nt_wr (nt_wr M t tOff 0 (fun u => M a (aOff + u))) t sb 0 (fun u => M b (bOff + u)))) (by rw [nt_wr_0, nt_wr_0]) ?_
  refine nt_up (fun i => nt_X l R D 19 G L (nt_im cI ln (nt_wr (nt_wr M t tOff i (fun u => M a (aOff + u))) t sb i (fun u => M b (bOff + u)))) [] f2 0 0 [(17, .int (nI i)), (16, .int (nI nx)), (15, .int (nI z1)), (14, .int (nI z2)), (13, .int (nI z0)), (12, .int (nI sb)), (11, .int (nI tOff)), (10, .int (nI hi)), (9, .int (nI m)), (0, .ref r), (1, .int (nI rOff)), (2, .ref a), (3, .int (nI aOff)), (4, .ref b), (5, .int (nI bOff)), (6, .int (nI len)), (7, .ref t), (8, .int (nI tOff))] 175 []) m ?_ ?_
  · refine nx_iload F 177 rfl dX1_kMul_175 0 rfl ?_
    refine nx_iload F 179 rfl dX1_kMul_177 8 rfl ?_
    refine nx_ge F 182 218 rfl dX1_kMul_179 (by decide) (by omega) (by omega) (fun _ => ?_) (fun hh => absurd hh (by omega))
    refine nx_iconst F 219 rfl (v := nI 0) dX1_kMul_218 (by decide +kernel) ?_
    refine nx_istore F 221 rfl dX1_kMul_219 (by decide) [(17, .int (nI 0)), (16, .int (nI nx)), (15, .int (nI z1)), (14, .int (nI z2)), (13, .int (nI z0)), (12, .int (nI sb)), (11, .int (nI tOff)), (10, .int (nI hi)), (9, .int (nI m)), (0, .ref r), (1, .int (nI rOff)), (2, .ref a), (3, .int (nI aOff)), (4, .ref b), (5, .int (nI bOff)), (6, .int (nI len)), (7, .ref t), (8, .int (nI tOff))] rfl ?_
    refine nx_f (nt_im cI ln (nt_wr (nt_wr (nt_wr (nt_wr M t tOff m (fun u => M a (aOff + u))) t sb m (fun u => M b (bOff + u))) t tOff 0 (fun u => M a (aOff + u) + M a (aOff + m + u))) t sb 0 (fun u => M b (bOff + u) + M b (bOff + m + u)))) (by rw [nt_wr_0 _ _ sb, nt_wr_0 _ _ tOff]) ?_
    refine nt_up (fun i => nt_X l R D 19 G L (nt_im cI ln (nt_wr (nt_wr (nt_wr (nt_wr M t tOff m (fun u => M a (aOff + u))) t sb m (fun u => M b (bOff + u))) t tOff i (fun u => M a (aOff + u) + M a (aOff + m + u))) t sb i (fun u => M b (bOff + u) + M b (bOff + m + u)))) [] f2 0 0 [(17, .int (nI i)), (16, .int (nI nx)), (15, .int (nI z1)), (14, .int (nI z2)), (13, .int (nI z0)), (12, .int (nI sb)), (11, .int (nI tOff)), (10, .int (nI hi)), (9, .int (nI m)), (0, .ref r), (1, .int (nI rOff)), (2, .ref a), (3, .int (nI aOff)), (4, .ref b), (5, .int (nI bOff)), (6, .int (nI len)), (7, .ref t), (8, .int (nI tOff))] 221 []) hi ?_ ?_
    · refine nx_iload F 223 rfl dX1_kMul_221 0 rfl ?_
      refine nx_iload F 225 rfl dX1_kMul_223 7 rfl ?_
      refine nx_ge F 228 276 rfl dX1_kMul_225 (by decide) (by omega) (by omega) (fun _ => ?_) (fun hh => absurd hh (by omega))
      obtain ⟨M2, hM2⟩ : ∃ z : nt_M, z = nt_wr (nt_wr (nt_wr (nt_wr M t tOff m (fun u => M a (aOff + u))) t sb m (fun u => M b (bOff + u))) t tOff hi (fun u => M a (aOff + u) + M a (aOff + m + u))) t sb hi (fun u => M b (bOff + u) + M b (bOff + m + u)) := ⟨_, rfl⟩
      refine nx_f (nt_im cI ln M2) (by rw [hM2]) ?_
      refine nx_aload F 278 rfl dX1_kMul_276 16 rfl ?_
      refine nx_iload F 280 rfl dX1_kMul_278 4 rfl ?_
      refine nx_aload_n F 281 rfl dX1_kMul_280 11 rfl ?_
      refine nx_iload_n F 282 rfl dX1_kMul_281 12 rfl ?_
      refine nx_aload F 284 rfl dX1_kMul_282 13 rfl ?_
      refine nx_iload F 286 rfl dX1_kMul_284 14 rfl ?_
      refine nx_iload F 288 rfl dX1_kMul_286 8 rfl ?_
      refine nx_aload F 290 rfl dX1_kMul_288 16 rfl ?_
      refine nx_iload F 292 rfl dX1_kMul_290 1 rfl ?_
      refine nx_vS1 (st := []) (n := 9) F 295 rfl [.ref t, .int (nI z0), .ref a, .int (nI aOff), .ref b, .int (nI bOff), .int (nI m), .ref t, .int (nI nx)] dX1_kMul_292 q105 q106 q3 q107 (by decide +kernel) ({ frames := d, cells := 0, slots := 0, locals := 38 * d } : Room) rfl rfl (by rw [hR]; exact ⟨Nat.le_refl _, by show 8 + (19 + 11) + 38 * d ≤ 38 * (d + 1); omega⟩) (by rw [hR]; exact ⟨Nat.le_refl 0, Nat.le_refl 0⟩) (ih (r := t) (rOff := z0) (ul := u0) (a := a) (aOff := aOff) (b := b) (bOff := bOff) (len := m) (t := t) (tOff := nx) (M := M2) ht ha hb ht hln (by omega) (by omega) (by omega) (by omega) hu0 (Or.inr (by omega)) (by rcases d2 with h | h | h; exact Or.inl (h); exact Or.inr (by omega); exact Or.inr (by omega)) (by rcases d3 with h | h | h; exact Or.inl (h); exact Or.inr (by omega); exact Or.inr (by omega)) (by rcases d2 with h | h | h; exact Or.inl (Ne.symm h); exact Or.inr (by omega); exact Or.inr (by omega)) (by rcases d3 with h | h | h; exact Or.inl (Ne.symm h); exact Or.inr (by omega); exact Or.inr (by omega)) hdm) rfl rfl (Nat.le_of_ble_eq_true rfl) (fun L' f' hp => ?_)
      obtain ⟨hL1, M3, hf1, k1⟩ := hp
      rw [hL1, hf1]
      refine nx_wide (kc' := 0) (ks' := 0) (Nat.le_refl 0) (Nat.le_refl 0) ?_
      refine nx_aload F 297 rfl dX1_kMul_295 16 rfl ?_
      refine nx_iload F 299 rfl dX1_kMul_297 3 rfl ?_
      refine nx_aload_n F 300 rfl dX1_kMul_299 11 rfl ?_
      refine nx_iload_n F 301 rfl dX1_kMul_300 12 rfl ?_
      refine nx_iload F 303 rfl dX1_kMul_301 8 rfl ?_
      refine nx_iadd F 304 rfl dX1_kMul_303 (nt_addN (show aOff + m = aOff + m by omega)) ?_
      refine nx_aload F 306 rfl dX1_kMul_304 13 rfl ?_
      refine nx_iload F 308 rfl dX1_kMul_306 14 rfl ?_
      refine nx_iload F 310 rfl dX1_kMul_308 8 rfl ?_
      refine nx_iadd F 311 rfl dX1_kMul_310 (nt_addN (show bOff + m = bOff + m by omega)) ?_
      refine nx_iload F 313 rfl dX1_kMul_311 7 rfl ?_
      refine nx_aload F 315 rfl dX1_kMul_313 16 rfl ?_
      refine nx_iload F 317 rfl dX1_kMul_315 1 rfl ?_
      refine nx_vS1 (st := []) (n := 9) F 320 rfl [.ref t, .int (nI z2), .ref a, .int (nI (aOff + m)), .ref b, .int (nI (bOff + m)), .int (nI hi), .ref t, .int (nI nx)] dX1_kMul_317 q105 q106 q3 q107 (by decide +kernel) ({ frames := d, cells := 0, slots := 0, locals := 38 * d } : Room) rfl rfl (by rw [hR]; exact ⟨Nat.le_refl _, by show 8 + (19 + 11) + 38 * d ≤ 38 * (d + 1); omega⟩) (by rw [hR]; exact ⟨Nat.le_refl 0, Nat.le_refl 0⟩) (ih (r := t) (rOff := z2) (ul := u2) (a := a) (aOff := (aOff + m)) (b := b) (bOff := (bOff + m)) (len := hi) (t := t) (tOff := nx) (M := M3) ht ha hb ht hln (by omega) (by omega) (by omega) (by omega) hu2 (Or.inr (by omega)) (by rcases d2 with h | h | h; exact Or.inl (h); exact Or.inr (by omega); exact Or.inr (by omega)) (by rcases d3 with h | h | h; exact Or.inl (h); exact Or.inr (by omega); exact Or.inr (by omega)) (by rcases d2 with h | h | h; exact Or.inl (Ne.symm h); exact Or.inr (by omega); exact Or.inr (by omega)) (by rcases d3 with h | h | h; exact Or.inl (Ne.symm h); exact Or.inr (by omega); exact Or.inr (by omega)) hdh) rfl rfl (Nat.le_of_ble_eq_true rfl) (fun L' f' hp => ?_)
      obtain ⟨hL2, M4, hf2, k2⟩ := hp
      rw [hL2, hf2]
      refine nx_wide (kc' := 0) (ks' := 0) (Nat.le_refl 0) (Nat.le_refl 0) ?_
      refine nx_aload F 322 rfl dX1_kMul_320 16 rfl ?_
      refine nx_iload F 324 rfl dX1_kMul_322 2 rfl ?_
      refine nx_aload F 326 rfl dX1_kMul_324 16 rfl ?_
      refine nx_iload F 328 rfl dX1_kMul_326 6 rfl ?_
      refine nx_aload F 330 rfl dX1_kMul_328 16 rfl ?_
      refine nx_iload F 332 rfl dX1_kMul_330 5 rfl ?_
      refine nx_iload F 334 rfl dX1_kMul_332 8 rfl ?_
      refine nx_aload F 336 rfl dX1_kMul_334 16 rfl ?_
      refine nx_iload F 338 rfl dX1_kMul_336 1 rfl ?_
      refine nx_vS1 (st := []) (n := 9) F 341 rfl [.ref t, .int (nI z1), .ref t, .int (nI tOff), .ref t, .int (nI sb), .int (nI m), .ref t, .int (nI nx)] dX1_kMul_338 q105 q106 q3 q107 (by decide +kernel) ({ frames := d, cells := 0, slots := 0, locals := 38 * d } : Room) rfl rfl (by rw [hR]; exact ⟨Nat.le_refl _, by show 8 + (19 + 11) + 38 * d ≤ 38 * (d + 1); omega⟩) (by rw [hR]; exact ⟨Nat.le_refl 0, Nat.le_refl 0⟩) (ih (r := t) (rOff := z1) (ul := u0) (a := t) (aOff := tOff) (b := t) (bOff := sb) (len := m) (t := t) (tOff := nx) (M := M4) ht ht ht ht hln (by omega) (by omega) (by omega) (by omega) hu0 (Or.inr (by omega)) (Or.inr (by omega)) (Or.inr (by omega)) (Or.inr (by omega)) (Or.inr (by omega)) hdm) rfl rfl (Nat.le_of_ble_eq_true rfl) (fun L' f' hp => ?_)
      obtain ⟨hL3, M5, hf3, k3⟩ := hp
      rw [hL3, hf3]
      refine nx_wide (kc' := 0) (ks' := 0) (Nat.le_refl 0) (Nat.le_refl 0) ?_
      refine nx_iconst F 342 rfl (v := nI 0) dX1_kMul_341 (by decide +kernel) ?_
      refine nx_istore F 344 rfl dX1_kMul_342 (by decide) [(17, .int (nI 0)), (16, .int (nI nx)), (15, .int (nI z1)), (14, .int (nI z2)), (13, .int (nI z0)), (12, .int (nI sb)), (11, .int (nI tOff)), (10, .int (nI hi)), (9, .int (nI m)), (0, .ref r), (1, .int (nI rOff)), (2, .ref a), (3, .int (nI aOff)), (4, .ref b), (5, .int (nI bOff)), (6, .int (nI len)), (7, .ref t), (8, .int (nI tOff))] rfl ?_
      refine nx_lv [0, 9, 10, 11, 12, 13, 14, 15, 16, 17, 8, 7, 6, 5, 4, 3, 2, 1] [(17, .int (nI 0)), (0, .ref r), (1, .int (nI rOff)), (2, .ref a), (3, .int (nI aOff)), (4, .ref b), (5, .int (nI bOff)), (6, .int (nI len)), (7, .ref t), (8, .int (nI tOff)), (9, .int (nI m)), (10, .int (nI hi)), (11, .int (nI tOff)), (12, .int (nI sb)), (13, .int (nI z0)), (14, .int (nI z2)), (15, .int (nI z1)), (16, .int (nI nx))] rfl ?_
      refine nx_f (nt_im cI ln (nt_wr M5 t z1 0 (fun u => M5 t (z1 + u) - M5 t (z0 + u)))) (by rw [nt_wr_0]) ?_
      refine nt_up (fun i => nt_X l R D 19 G L (nt_im cI ln (nt_wr M5 t z1 i (fun u => M5 t (z1 + u) - M5 t (z0 + u)))) [] f2 0 0 [(17, .int (nI i)), (0, .ref r), (1, .int (nI rOff)), (2, .ref a), (3, .int (nI aOff)), (4, .ref b), (5, .int (nI bOff)), (6, .int (nI len)), (7, .ref t), (8, .int (nI tOff)), (9, .int (nI m)), (10, .int (nI hi)), (11, .int (nI tOff)), (12, .int (nI sb)), (13, .int (nI z0)), (14, .int (nI z2)), (15, .int (nI z1)), (16, .int (nI nx))] 344 []) u0 ?_ ?_
      · refine nx_iload F 346 rfl dX1_kMul_344 0 rfl ?_
        refine nx_iconst F 347 rfl (v := nI 2) dX1_kMul_346 (by decide +kernel) ?_
        refine nx_iload F 349 rfl dX1_kMul_347 10 rfl ?_
        refine nx_imul F 350 rfl dX1_kMul_349 (nt_mulN (show 2 * m = 2 * m by omega)) ?_
        refine nx_iconst F 351 rfl (v := nI 1) dX1_kMul_350 (by decide +kernel) ?_
        refine nx_isub F 352 rfl dX1_kMul_351 (nt_subN (show ((2 * m) - 1) + 1 = (2 * m) by omega)) ?_
        refine nx_ge F 355 380 rfl dX1_kMul_352 (by decide) (by omega) (by omega) (fun _ => ?_) (fun hh => absurd hh (by omega))
        obtain ⟨M6, hM6⟩ : ∃ z : nt_M, z = nt_wr M5 t z1 u0 (fun u => M5 t (z1 + u) - M5 t (z0 + u)) := ⟨_, rfl⟩
        refine nx_f (nt_im cI ln M6) (by rw [hM6]) ?_
        refine nx_iconst F 381 rfl (v := nI 0) dX1_kMul_380 (by decide +kernel) ?_
        refine nx_istore F 383 rfl dX1_kMul_381 (by decide) [(17, .int (nI 0)), (0, .ref r), (1, .int (nI rOff)), (2, .ref a), (3, .int (nI aOff)), (4, .ref b), (5, .int (nI bOff)), (6, .int (nI len)), (7, .ref t), (8, .int (nI tOff)), (9, .int (nI m)), (10, .int (nI hi)), (11, .int (nI tOff)), (12, .int (nI sb)), (13, .int (nI z0)), (14, .int (nI z2)), (15, .int (nI z1)), (16, .int (nI nx))] rfl ?_
        refine nx_f (nt_im cI ln (nt_wr M6 t z1 0 (fun u => M6 t (z1 + u) - M6 t (z2 + u)))) (by rw [nt_wr_0]) ?_
        refine nt_up (fun i => nt_X l R D 19 G L (nt_im cI ln (nt_wr M6 t z1 i (fun u => M6 t (z1 + u) - M6 t (z2 + u)))) [] f2 0 0 [(17, .int (nI i)), (0, .ref r), (1, .int (nI rOff)), (2, .ref a), (3, .int (nI aOff)), (4, .ref b), (5, .int (nI bOff)), (6, .int (nI len)), (7, .ref t), (8, .int (nI tOff)), (9, .int (nI m)), (10, .int (nI hi)), (11, .int (nI tOff)), (12, .int (nI sb)), (13, .int (nI z0)), (14, .int (nI z2)), (15, .int (nI z1)), (16, .int (nI nx))] 383 []) u2 ?_ ?_
        · refine nx_iload F 385 rfl dX1_kMul_383 0 rfl ?_
          refine nx_iconst F 386 rfl (v := nI 2) dX1_kMul_385 (by decide +kernel) ?_
          refine nx_iload F 388 rfl dX1_kMul_386 11 rfl ?_
          refine nx_imul F 389 rfl dX1_kMul_388 (nt_mulN (show 2 * hi = 2 * hi by omega)) ?_
          refine nx_iconst F 390 rfl (v := nI 1) dX1_kMul_389 (by decide +kernel) ?_
          refine nx_isub F 391 rfl dX1_kMul_390 (nt_subN (show ((2 * hi) - 1) + 1 = (2 * hi) by omega)) ?_
          refine nx_ge F 394 419 rfl dX1_kMul_391 (by decide) (by omega) (by omega) (fun _ => ?_) (fun hh => absurd hh (by omega))
          obtain ⟨M7, hM7⟩ : ∃ z : nt_M, z = nt_wr M6 t z1 u2 (fun u => M6 t (z1 + u) - M6 t (z2 + u)) := ⟨_, rfl⟩
          refine nx_f (nt_im cI ln M7) (by rw [hM7]) ?_
          refine nx_iconst F 420 rfl (v := nI 2) dX1_kMul_419 (by decide +kernel) ?_
          refine nx_iload F 422 rfl dX1_kMul_420 7 rfl ?_
          refine nx_imul F 423 rfl dX1_kMul_422 (nt_mulN (show 2 * len = 2 * len by omega)) ?_
          refine nx_iconst F 424 rfl (v := nI 1) dX1_kMul_423 (by decide +kernel) ?_
          refine nx_isub F 425 rfl dX1_kMul_424 (nt_subN (show ul + 1 = (2 * len) by omega)) ?_
          refine nx_istore F 427 rfl dX1_kMul_425 (by decide) [(17, .int (nI ul)), (0, .ref r), (1, .int (nI rOff)), (2, .ref a), (3, .int (nI aOff)), (4, .ref b), (5, .int (nI bOff)), (6, .int (nI len)), (7, .ref t), (8, .int (nI tOff)), (9, .int (nI m)), (10, .int (nI hi)), (11, .int (nI tOff)), (12, .int (nI sb)), (13, .int (nI z0)), (14, .int (nI z2)), (15, .int (nI z1)), (16, .int (nI nx))] rfl ?_
          refine nx_iconst F 428 rfl (v := nI 0) dX1_kMul_427 (by decide +kernel) ?_
          refine nx_istore F 430 rfl dX1_kMul_428 (by decide) [(18, .int (nI 0)), (17, .int (nI ul)), (0, .ref r), (1, .int (nI rOff)), (2, .ref a), (3, .int (nI aOff)), (4, .ref b), (5, .int (nI bOff)), (6, .int (nI len)), (7, .ref t), (8, .int (nI tOff)), (9, .int (nI m)), (10, .int (nI hi)), (11, .int (nI tOff)), (12, .int (nI sb)), (13, .int (nI z0)), (14, .int (nI z2)), (15, .int (nI z1)), (16, .int (nI nx))] rfl ?_
          refine nx_f (nt_im cI ln (nt_wr M7 r rOff 0 (fun _ => 0))) (by rw [nt_wr_0]) ?_
          refine nt_up (fun i => nt_X l R D 19 G L (nt_im cI ln (nt_wr M7 r rOff i (fun _ => 0))) [] f2 0 0 [(18, .int (nI i)), (17, .int (nI ul)), (0, .ref r), (1, .int (nI rOff)), (2, .ref a), (3, .int (nI aOff)), (4, .ref b), (5, .int (nI bOff)), (6, .int (nI len)), (7, .ref t), (8, .int (nI tOff)), (9, .int (nI m)), (10, .int (nI hi)), (11, .int (nI tOff)), (12, .int (nI sb)), (13, .int (nI z0)), (14, .int (nI z2)), (15, .int (nI z1)), (16, .int (nI nx))] 430 []) ul ?_ ?_
          · refine nx_iload F 432 rfl dX1_kMul_430 0 rfl ?_
            refine nx_iload F 434 rfl dX1_kMul_432 1 rfl ?_
            refine nx_ge F 437 450 rfl dX1_kMul_434 (by decide) (by omega) (by omega) (fun _ => ?_) (fun hh => absurd hh (by omega))
            obtain ⟨M8, hM8⟩ : ∃ z : nt_M, z = nt_wr M7 r rOff ul (fun _ => 0) := ⟨_, rfl⟩
            refine nx_f (nt_im cI ln M8) (by rw [hM8]) ?_
            refine nx_iconst F 451 rfl (v := nI 0) dX1_kMul_450 (by decide +kernel) ?_
            refine nx_istore F 453 rfl dX1_kMul_451 (by decide) [(18, .int (nI 0)), (17, .int (nI ul)), (0, .ref r), (1, .int (nI rOff)), (2, .ref a), (3, .int (nI aOff)), (4, .ref b), (5, .int (nI bOff)), (6, .int (nI len)), (7, .ref t), (8, .int (nI tOff)), (9, .int (nI m)), (10, .int (nI hi)), (11, .int (nI tOff)), (12, .int (nI sb)), (13, .int (nI z0)), (14, .int (nI z2)), (15, .int (nI z1)), (16, .int (nI nx))] rfl ?_
            refine nx_lv [0, 2, 3, 4, 5, 6, 7, 8, 9, 10, 11, 12, 13, 14, 15, 16, 17, 18] [(18, .int (nI 0)), (0, .ref r), (1, .int (nI rOff)), (2, .ref a), (3, .int (nI aOff)), (4, .ref b), (5, .int (nI bOff)), (6, .int (nI len)), (7, .ref t), (8, .int (nI tOff)), (9, .int (nI m)), (10, .int (nI hi)), (11, .int (nI tOff)), (12, .int (nI sb)), (13, .int (nI z0)), (14, .int (nI z2)), (15, .int (nI z1)), (16, .int (nI nx))] rfl ?_
            refine nx_f (nt_im cI ln (nt_wr M8 r rOff 0 (fun u => M8 r (rOff + u) + M8 t (z0 + u)))) (by rw [nt_wr_0]) ?_
            refine nt_up (fun i => nt_X l R D 19 G L (nt_im cI ln (nt_wr M8 r rOff i (fun u => M8 r (rOff + u) + M8 t (z0 + u)))) [] f2 0 0 [(18, .int (nI i)), (0, .ref r), (1, .int (nI rOff)), (2, .ref a), (3, .int (nI aOff)), (4, .ref b), (5, .int (nI bOff)), (6, .int (nI len)), (7, .ref t), (8, .int (nI tOff)), (9, .int (nI m)), (10, .int (nI hi)), (11, .int (nI tOff)), (12, .int (nI sb)), (13, .int (nI z0)), (14, .int (nI z2)), (15, .int (nI z1)), (16, .int (nI nx))] 453 []) u0 ?_ ?_
            · refine nx_iload F 455 rfl dX1_kMul_453 0 rfl ?_
              refine nx_iconst F 456 rfl (v := nI 2) dX1_kMul_455 (by decide +kernel) ?_
              refine nx_iload F 458 rfl dX1_kMul_456 10 rfl ?_
              refine nx_imul F 459 rfl dX1_kMul_458 (nt_mulN (show 2 * m = 2 * m by omega)) ?_
              refine nx_iconst F 460 rfl (v := nI 1) dX1_kMul_459 (by decide +kernel) ?_
              refine nx_isub F 461 rfl dX1_kMul_460 (nt_subN (show ((2 * m) - 1) + 1 = (2 * m) by omega)) ?_
              refine nx_ge F 464 487 rfl dX1_kMul_461 (by decide) (by omega) (by omega) (fun _ => ?_) (fun hh => absurd hh (by omega))
              obtain ⟨M9, hM9⟩ : ∃ z : nt_M, z = nt_wr M8 r rOff u0 (fun u => M8 r (rOff + u) + M8 t (z0 + u)) := ⟨_, rfl⟩
              refine nx_f (nt_im cI ln M9) (by rw [hM9]) ?_
              refine nx_iconst F 488 rfl (v := nI 0) dX1_kMul_487 (by decide +kernel) ?_
              refine nx_istore F 490 rfl dX1_kMul_488 (by decide) [(18, .int (nI 0)), (0, .ref r), (1, .int (nI rOff)), (2, .ref a), (3, .int (nI aOff)), (4, .ref b), (5, .int (nI bOff)), (6, .int (nI len)), (7, .ref t), (8, .int (nI tOff)), (9, .int (nI m)), (10, .int (nI hi)), (11, .int (nI tOff)), (12, .int (nI sb)), (13, .int (nI z0)), (14, .int (nI z2)), (15, .int (nI z1)), (16, .int (nI nx))] rfl ?_
              refine nx_f (nt_im cI ln (nt_wr M9 r (rOff + 2 * m) 0 (fun u => M9 r (rOff + 2 * m + u) + M9 t (z2 + u)))) (by rw [nt_wr_0]) ?_
              refine nt_up (fun i => nt_X l R D 19 G L (nt_im cI ln (nt_wr M9 r (rOff + 2 * m) i (fun u => M9 r (rOff + 2 * m + u) + M9 t (z2 + u)))) [] f2 0 0 [(18, .int (nI i)), (0, .ref r), (1, .int (nI rOff)), (2, .ref a), (3, .int (nI aOff)), (4, .ref b), (5, .int (nI bOff)), (6, .int (nI len)), (7, .ref t), (8, .int (nI tOff)), (9, .int (nI m)), (10, .int (nI hi)), (11, .int (nI tOff)), (12, .int (nI sb)), (13, .int (nI z0)), (14, .int (nI z2)), (15, .int (nI z1)), (16, .int (nI nx))] 490 []) u2 ?_ ?_
              · refine nx_iload F 492 rfl dX1_kMul_490 0 rfl ?_
                refine nx_iconst F 493 rfl (v := nI 2) dX1_kMul_492 (by decide +kernel) ?_
                refine nx_iload F 495 rfl dX1_kMul_493 11 rfl ?_
                refine nx_imul F 496 rfl dX1_kMul_495 (nt_mulN (show 2 * hi = 2 * hi by omega)) ?_
                refine nx_iconst F 497 rfl (v := nI 1) dX1_kMul_496 (by decide +kernel) ?_
                refine nx_isub F 498 rfl dX1_kMul_497 (nt_subN (show ((2 * hi) - 1) + 1 = (2 * hi) by omega)) ?_
                refine nx_ge F 501 529 rfl dX1_kMul_498 (by decide) (by omega) (by omega) (fun _ => ?_) (fun hh => absurd hh (by omega))
                obtain ⟨M10, hM10⟩ : ∃ z : nt_M, z = nt_wr M9 r (rOff + 2 * m) u2 (fun u => M9 r (rOff + 2 * m + u) + M9 t (z2 + u)) := ⟨_, rfl⟩
                refine nx_f (nt_im cI ln M10) (by rw [hM10]) ?_
                refine nx_iconst F 530 rfl (v := nI 0) dX1_kMul_529 (by decide +kernel) ?_
                refine nx_istore F 532 rfl dX1_kMul_530 (by decide) [(18, .int (nI 0)), (0, .ref r), (1, .int (nI rOff)), (2, .ref a), (3, .int (nI aOff)), (4, .ref b), (5, .int (nI bOff)), (6, .int (nI len)), (7, .ref t), (8, .int (nI tOff)), (9, .int (nI m)), (10, .int (nI hi)), (11, .int (nI tOff)), (12, .int (nI sb)), (13, .int (nI z0)), (14, .int (nI z2)), (15, .int (nI z1)), (16, .int (nI nx))] rfl ?_
                refine nx_f (nt_im cI ln (nt_wr M10 r (rOff + m) 0 (fun u => M10 r (rOff + m + u) + M10 t (z1 + u)))) (by rw [nt_wr_0]) ?_
                refine nt_up (fun i => nt_X l R D 19 G L (nt_im cI ln (nt_wr M10 r (rOff + m) i (fun u => M10 r (rOff + m + u) + M10 t (z1 + u)))) [] f2 0 0 [(18, .int (nI i)), (0, .ref r), (1, .int (nI rOff)), (2, .ref a), (3, .int (nI aOff)), (4, .ref b), (5, .int (nI bOff)), (6, .int (nI len)), (7, .ref t), (8, .int (nI tOff)), (9, .int (nI m)), (10, .int (nI hi)), (11, .int (nI tOff)), (12, .int (nI sb)), (13, .int (nI z0)), (14, .int (nI z2)), (15, .int (nI z1)), (16, .int (nI nx))] 532 []) u0 ?_ ?_
                · refine nx_iload F 534 rfl dX1_kMul_532 0 rfl ?_
                  refine nx_iconst F 535 rfl (v := nI 2) dX1_kMul_534 (by decide +kernel) ?_
                  refine nx_iload F 537 rfl dX1_kMul_535 10 rfl ?_
                  refine nx_imul F 538 rfl dX1_kMul_537 (nt_mulN (show 2 * m = 2 * m by omega)) ?_
                  refine nx_iconst F 539 rfl (v := nI 1) dX1_kMul_538 (by decide +kernel) ?_
                  refine nx_isub F 540 rfl dX1_kMul_539 (nt_subN (show ((2 * m) - 1) + 1 = (2 * m) by omega)) ?_
                  refine nx_ge F 543 569 rfl dX1_kMul_540 (by decide) (by omega) (by omega) (fun _ => ?_) (fun hh => absurd hh (by omega))
                  obtain ⟨M11, hM11⟩ : ∃ z : nt_M, z = nt_wr M10 r (rOff + m) u0 (fun u => M10 r (rOff + m + u) + M10 t (z1 + u)) := ⟨_, rfl⟩
                  refine nx_f (nt_im cI ln M11) (by rw [hM11]) ?_
                  exact hret _ dX1_kMul_569 (nt_KS_step hl d1 d2 d3 hM2 k1 k2 k3 hM6 hM7 hM8 hM9 hM10 hM11)
                · intro i qi ihi
                  refine nx_iload F 534 rfl dX1_kMul_532 0 rfl ?_
                  refine nx_iconst F 535 rfl (v := nI 2) dX1_kMul_534 (by decide +kernel) ?_
                  refine nx_iload F 537 rfl dX1_kMul_535 10 rfl ?_
                  refine nx_imul F 538 rfl dX1_kMul_537 (nt_mulN (show 2 * m = 2 * m by omega)) ?_
                  refine nx_iconst F 539 rfl (v := nI 1) dX1_kMul_538 (by decide +kernel) ?_
                  refine nx_isub F 540 rfl dX1_kMul_539 (nt_subN (show ((2 * m) - 1) + 1 = (2 * m) by omega)) ?_
                  refine nx_ge F 543 569 rfl dX1_kMul_540 (by decide) (by omega) (by omega) (fun hh => absurd hh (by omega)) (fun _ => ?_)
                  refine nx_aload_n F 544 rfl dX1_kMul_543 1 rfl ?_
                  refine nx_iload_n F 545 rfl dX1_kMul_544 2 rfl ?_
                  refine nx_iload F 547 rfl dX1_kMul_545 10 rfl ?_
                  refine nx_iadd F 548 rfl dX1_kMul_547 (nt_addN (show rOff + m = rOff + m by omega)) ?_
                  refine nx_iload F 550 rfl dX1_kMul_548 0 rfl ?_
                  refine nx_iadd F 551 rfl dX1_kMul_550 (nt_addN (show (rOff + m) + i = (rOff + m) + i by omega)) ?_
                  refine nx_dup2 F 552 rfl dX1_kMul_551 rfl rfl ?_
                  refine nx_mld F 553 rfl dX1_kMul_552 (v := M10 r (rOff + m + i)) hr (show (rOff + m) + i < ln r by omega) (hln r hr) (nt_wr_out (by omega)) ?_
                  refine nx_aload F 555 rfl dX1_kMul_553 8 rfl ?_
                  refine nx_iload F 557 rfl dX1_kMul_555 16 rfl ?_
                  refine nx_iload F 559 rfl dX1_kMul_557 0 rfl ?_
                  refine nx_iadd F 560 rfl dX1_kMul_559 (nt_addN (show z1 + i = z1 + i by omega)) ?_
                  refine nx_mld F 561 rfl dX1_kMul_560 (v := M10 t (z1 + i)) ht (show z1 + i < ln t by omega) (hln t ht) (nt_wr_out (by have hd := d1; unfold nt_dis at hd; omega)) ?_
                  refine nx_iadd F 562 rfl dX1_kMul_561 rfl ?_
                  refine nx_mst F 563 rfl dX1_kMul_562 hr (show (rOff + m) + i < ln r by omega) (hln r hr) (nt_wr M10 r (rOff + m) (i + 1) (fun u => M10 r (rOff + m + u) + M10 t (z1 + u))) (nt_wr_s _ _ _ _ _ rfl) ?_
                  refine nx_iinc F 566 rfl dX1_kMul_563 0 rfl (nI_1 _) (by decide) [(18, .int (nI (i + 1))), (0, .ref r), (1, .int (nI rOff)), (2, .ref a), (3, .int (nI aOff)), (4, .ref b), (5, .int (nI bOff)), (6, .int (nI len)), (7, .ref t), (8, .int (nI tOff)), (9, .int (nI m)), (10, .int (nI hi)), (11, .int (nI tOff)), (12, .int (nI sb)), (13, .int (nI z0)), (14, .int (nI z2)), (15, .int (nI z1)), (16, .int (nI nx))] rfl ?_
                  refine nx_goto F 532 dX1_kMul_566 (by decide) ?_
                  exact ihi
              · intro i qi ihi
                refine nx_iload F 492 rfl dX1_kMul_490 0 rfl ?_
                refine nx_iconst F 493 rfl (v := nI 2) dX1_kMul_492 (by decide +kernel) ?_
                refine nx_iload F 495 rfl dX1_kMul_493 11 rfl ?_
                refine nx_imul F 496 rfl dX1_kMul_495 (nt_mulN (show 2 * hi = 2 * hi by omega)) ?_
                refine nx_iconst F 497 rfl (v := nI 1) dX1_kMul_496 (by decide +kernel) ?_
                refine nx_isub F 498 rfl dX1_kMul_497 (nt_subN (show ((2 * hi) - 1) + 1 = (2 * hi) by omega)) ?_
                refine nx_ge F 501 529 rfl dX1_kMul_498 (by decide) (by omega) (by omega) (fun hh => absurd hh (by omega)) (fun _ => ?_)
                refine nx_aload_n F 502 rfl dX1_kMul_501 1 rfl ?_
                refine nx_iload_n F 503 rfl dX1_kMul_502 2 rfl ?_
                refine nx_iconst F 504 rfl (v := nI 2) dX1_kMul_503 (by decide +kernel) ?_
                refine nx_iload F 506 rfl dX1_kMul_504 10 rfl ?_
                refine nx_imul F 507 rfl dX1_kMul_506 (nt_mulN (show 2 * m = 2 * m by omega)) ?_
                refine nx_iadd F 508 rfl dX1_kMul_507 (nt_addN (show rOff + (2 * m) = rOff + (2 * m) by omega)) ?_
                refine nx_iload F 510 rfl dX1_kMul_508 0 rfl ?_
                refine nx_iadd F 511 rfl dX1_kMul_510 (nt_addN (show (rOff + (2 * m)) + i = (rOff + (2 * m)) + i by omega)) ?_
                refine nx_dup2 F 512 rfl dX1_kMul_511 rfl rfl ?_
                refine nx_mld F 513 rfl dX1_kMul_512 (v := M9 r (rOff + 2 * m + i)) hr (show (rOff + 2 * m) + i < ln r by omega) (hln r hr) (nt_wr_out (by omega)) ?_
                refine nx_aload F 515 rfl dX1_kMul_513 8 rfl ?_
                refine nx_iload F 517 rfl dX1_kMul_515 15 rfl ?_
                refine nx_iload F 519 rfl dX1_kMul_517 0 rfl ?_
                refine nx_iadd F 520 rfl dX1_kMul_519 (nt_addN (show z2 + i = z2 + i by omega)) ?_
                refine nx_mld F 521 rfl dX1_kMul_520 (v := M9 t (z2 + i)) ht (show z2 + i < ln t by omega) (hln t ht) (nt_wr_out (by have hd := d1; unfold nt_dis at hd; omega)) ?_
                refine nx_iadd F 522 rfl dX1_kMul_521 rfl ?_
                refine nx_mst F 523 rfl dX1_kMul_522 hr (show (rOff + 2 * m) + i < ln r by omega) (hln r hr) (nt_wr M9 r (rOff + 2 * m) (i + 1) (fun u => M9 r (rOff + 2 * m + u) + M9 t (z2 + u))) (nt_wr_s _ _ _ _ _ rfl) ?_
                refine nx_iinc F 526 rfl dX1_kMul_523 0 rfl (nI_1 _) (by decide) [(18, .int (nI (i + 1))), (0, .ref r), (1, .int (nI rOff)), (2, .ref a), (3, .int (nI aOff)), (4, .ref b), (5, .int (nI bOff)), (6, .int (nI len)), (7, .ref t), (8, .int (nI tOff)), (9, .int (nI m)), (10, .int (nI hi)), (11, .int (nI tOff)), (12, .int (nI sb)), (13, .int (nI z0)), (14, .int (nI z2)), (15, .int (nI z1)), (16, .int (nI nx))] rfl ?_
                refine nx_goto F 490 dX1_kMul_526 (by decide) ?_
                exact ihi
            · intro i qi ihi
              refine nx_iload F 455 rfl dX1_kMul_453 0 rfl ?_
              refine nx_iconst F 456 rfl (v := nI 2) dX1_kMul_455 (by decide +kernel) ?_
              refine nx_iload F 458 rfl dX1_kMul_456 10 rfl ?_
              refine nx_imul F 459 rfl dX1_kMul_458 (nt_mulN (show 2 * m = 2 * m by omega)) ?_
              refine nx_iconst F 460 rfl (v := nI 1) dX1_kMul_459 (by decide +kernel) ?_
              refine nx_isub F 461 rfl dX1_kMul_460 (nt_subN (show ((2 * m) - 1) + 1 = (2 * m) by omega)) ?_
              refine nx_ge F 464 487 rfl dX1_kMul_461 (by decide) (by omega) (by omega) (fun hh => absurd hh (by omega)) (fun _ => ?_)
              refine nx_aload_n F 465 rfl dX1_kMul_464 1 rfl ?_
              refine nx_iload_n F 466 rfl dX1_kMul_465 2 rfl ?_
              refine nx_iload F 468 rfl dX1_kMul_466 0 rfl ?_
              refine nx_iadd F 469 rfl dX1_kMul_468 (nt_addN (show rOff + i = rOff + i by omega)) ?_
              refine nx_dup2 F 470 rfl dX1_kMul_469 rfl rfl ?_
              refine nx_mld F 471 rfl dX1_kMul_470 (v := M8 r (rOff + i)) hr (show rOff + i < ln r by omega) (hln r hr) (nt_wr_out (by omega)) ?_
              refine nx_aload F 473 rfl dX1_kMul_471 8 rfl ?_
              refine nx_iload F 475 rfl dX1_kMul_473 14 rfl ?_
              refine nx_iload F 477 rfl dX1_kMul_475 0 rfl ?_
              refine nx_iadd F 478 rfl dX1_kMul_477 (nt_addN (show z0 + i = z0 + i by omega)) ?_
              refine nx_mld F 479 rfl dX1_kMul_478 (v := M8 t (z0 + i)) ht (show z0 + i < ln t by omega) (hln t ht) (nt_wr_out (by have hd := d1; unfold nt_dis at hd; omega)) ?_
              refine nx_iadd F 480 rfl dX1_kMul_479 rfl ?_
              refine nx_mst F 481 rfl dX1_kMul_480 hr (show rOff + i < ln r by omega) (hln r hr) (nt_wr M8 r rOff (i + 1) (fun u => M8 r (rOff + u) + M8 t (z0 + u))) (nt_wr_s _ _ _ _ _ rfl) ?_
              refine nx_iinc F 484 rfl dX1_kMul_481 0 rfl (nI_1 _) (by decide) [(18, .int (nI (i + 1))), (0, .ref r), (1, .int (nI rOff)), (2, .ref a), (3, .int (nI aOff)), (4, .ref b), (5, .int (nI bOff)), (6, .int (nI len)), (7, .ref t), (8, .int (nI tOff)), (9, .int (nI m)), (10, .int (nI hi)), (11, .int (nI tOff)), (12, .int (nI sb)), (13, .int (nI z0)), (14, .int (nI z2)), (15, .int (nI z1)), (16, .int (nI nx))] rfl ?_
              refine nx_goto F 453 dX1_kMul_484 (by decide) ?_
              exact ihi
          · intro i qi ihi
            refine nx_iload F 432 rfl dX1_kMul_430 0 rfl ?_
            refine nx_iload F 434 rfl dX1_kMul_432 1 rfl ?_
            refine nx_ge F 437 450 rfl dX1_kMul_434 (by decide) (by omega) (by omega) (fun hh => absurd hh (by omega)) (fun _ => ?_)
            refine nx_aload_n F 438 rfl dX1_kMul_437 2 rfl ?_
            refine nx_iload_n F 439 rfl dX1_kMul_438 3 rfl ?_
            refine nx_iload F 441 rfl dX1_kMul_439 0 rfl ?_
            refine nx_iadd F 442 rfl dX1_kMul_441 (nt_addN (show rOff + i = rOff + i by omega)) ?_
            refine nx_iconst F 443 rfl (v := nI 0) dX1_kMul_442 (by decide +kernel) ?_
            refine nx_mst F 444 rfl dX1_kMul_443 hr (show rOff + i < ln r by omega) (hln r hr) (nt_wr M7 r rOff (i + 1) (fun _ => 0)) (nt_wr_s _ _ _ _ _ nI_0) ?_
            refine nx_iinc F 447 rfl dX1_kMul_444 0 rfl (nI_1 _) (by decide) [(18, .int (nI (i + 1))), (17, .int (nI ul)), (0, .ref r), (1, .int (nI rOff)), (2, .ref a), (3, .int (nI aOff)), (4, .ref b), (5, .int (nI bOff)), (6, .int (nI len)), (7, .ref t), (8, .int (nI tOff)), (9, .int (nI m)), (10, .int (nI hi)), (11, .int (nI tOff)), (12, .int (nI sb)), (13, .int (nI z0)), (14, .int (nI z2)), (15, .int (nI z1)), (16, .int (nI nx))] rfl ?_
            refine nx_goto F 430 dX1_kMul_447 (by decide) ?_
            exact ihi
        · intro i qi ihi
          refine nx_iload F 385 rfl dX1_kMul_383 0 rfl ?_
          refine nx_iconst F 386 rfl (v := nI 2) dX1_kMul_385 (by decide +kernel) ?_
          refine nx_iload F 388 rfl dX1_kMul_386 11 rfl ?_
          refine nx_imul F 389 rfl dX1_kMul_388 (nt_mulN (show 2 * hi = 2 * hi by omega)) ?_
          refine nx_iconst F 390 rfl (v := nI 1) dX1_kMul_389 (by decide +kernel) ?_
          refine nx_isub F 391 rfl dX1_kMul_390 (nt_subN (show ((2 * hi) - 1) + 1 = (2 * hi) by omega)) ?_
          refine nx_ge F 394 419 rfl dX1_kMul_391 (by decide) (by omega) (by omega) (fun hh => absurd hh (by omega)) (fun _ => ?_)
          refine nx_aload F 396 rfl dX1_kMul_394 8 rfl ?_
          refine nx_iload F 398 rfl dX1_kMul_396 16 rfl ?_
          refine nx_iload F 400 rfl dX1_kMul_398 0 rfl ?_
          refine nx_iadd F 401 rfl dX1_kMul_400 (nt_addN (show z1 + i = z1 + i by omega)) ?_
          refine nx_dup2 F 402 rfl dX1_kMul_401 rfl rfl ?_
          refine nx_mld F 403 rfl dX1_kMul_402 (v := M6 t (z1 + i)) ht (show z1 + i < ln t by omega) (hln t ht) (nt_wr_out (by omega)) ?_
          refine nx_aload F 405 rfl dX1_kMul_403 8 rfl ?_
          refine nx_iload F 407 rfl dX1_kMul_405 15 rfl ?_
          refine nx_iload F 409 rfl dX1_kMul_407 0 rfl ?_
          refine nx_iadd F 410 rfl dX1_kMul_409 (nt_addN (show z2 + i = z2 + i by omega)) ?_
          refine nx_mld F 411 rfl dX1_kMul_410 (v := M6 t (z2 + i)) ht (show z2 + i < ln t by omega) (hln t ht) (nt_wr_out (by omega)) ?_
          refine nx_isub F 412 rfl dX1_kMul_411 rfl ?_
          refine nx_mst F 413 rfl dX1_kMul_412 ht (show z1 + i < ln t by omega) (hln t ht) (nt_wr M6 t z1 (i + 1) (fun u => M6 t (z1 + u) - M6 t (z2 + u))) (nt_wr_s _ _ _ _ _ rfl) ?_
          refine nx_iinc F 416 rfl dX1_kMul_413 0 rfl (nI_1 _) (by decide) [(17, .int (nI (i + 1))), (0, .ref r), (1, .int (nI rOff)), (2, .ref a), (3, .int (nI aOff)), (4, .ref b), (5, .int (nI bOff)), (6, .int (nI len)), (7, .ref t), (8, .int (nI tOff)), (9, .int (nI m)), (10, .int (nI hi)), (11, .int (nI tOff)), (12, .int (nI sb)), (13, .int (nI z0)), (14, .int (nI z2)), (15, .int (nI z1)), (16, .int (nI nx))] rfl ?_
          refine nx_goto F 383 dX1_kMul_416 (by decide) ?_
          exact ihi
      · intro i qi ihi
        refine nx_iload F 346 rfl dX1_kMul_344 0 rfl ?_
        refine nx_iconst F 347 rfl (v := nI 2) dX1_kMul_346 (by decide +kernel) ?_
        refine nx_iload F 349 rfl dX1_kMul_347 10 rfl ?_
        refine nx_imul F 350 rfl dX1_kMul_349 (nt_mulN (show 2 * m = 2 * m by omega)) ?_
        refine nx_iconst F 351 rfl (v := nI 1) dX1_kMul_350 (by decide +kernel) ?_
        refine nx_isub F 352 rfl dX1_kMul_351 (nt_subN (show ((2 * m) - 1) + 1 = (2 * m) by omega)) ?_
        refine nx_ge F 355 380 rfl dX1_kMul_352 (by decide) (by omega) (by omega) (fun hh => absurd hh (by omega)) (fun _ => ?_)
        refine nx_aload F 357 rfl dX1_kMul_355 8 rfl ?_
        refine nx_iload F 359 rfl dX1_kMul_357 16 rfl ?_
        refine nx_iload F 361 rfl dX1_kMul_359 0 rfl ?_
        refine nx_iadd F 362 rfl dX1_kMul_361 (nt_addN (show z1 + i = z1 + i by omega)) ?_
        refine nx_dup2 F 363 rfl dX1_kMul_362 rfl rfl ?_
        refine nx_mld F 364 rfl dX1_kMul_363 (v := M5 t (z1 + i)) ht (show z1 + i < ln t by omega) (hln t ht) (nt_wr_out (by omega)) ?_
        refine nx_aload F 366 rfl dX1_kMul_364 8 rfl ?_
        refine nx_iload F 368 rfl dX1_kMul_366 14 rfl ?_
        refine nx_iload F 370 rfl dX1_kMul_368 0 rfl ?_
        refine nx_iadd F 371 rfl dX1_kMul_370 (nt_addN (show z0 + i = z0 + i by omega)) ?_
        refine nx_mld F 372 rfl dX1_kMul_371 (v := M5 t (z0 + i)) ht (show z0 + i < ln t by omega) (hln t ht) (nt_wr_out (by omega)) ?_
        refine nx_isub F 373 rfl dX1_kMul_372 rfl ?_
        refine nx_mst F 374 rfl dX1_kMul_373 ht (show z1 + i < ln t by omega) (hln t ht) (nt_wr M5 t z1 (i + 1) (fun u => M5 t (z1 + u) - M5 t (z0 + u))) (nt_wr_s _ _ _ _ _ rfl) ?_
        refine nx_iinc F 377 rfl dX1_kMul_374 0 rfl (nI_1 _) (by decide) [(17, .int (nI (i + 1))), (0, .ref r), (1, .int (nI rOff)), (2, .ref a), (3, .int (nI aOff)), (4, .ref b), (5, .int (nI bOff)), (6, .int (nI len)), (7, .ref t), (8, .int (nI tOff)), (9, .int (nI m)), (10, .int (nI hi)), (11, .int (nI tOff)), (12, .int (nI sb)), (13, .int (nI z0)), (14, .int (nI z2)), (15, .int (nI z1)), (16, .int (nI nx))] rfl ?_
        refine nx_goto F 344 dX1_kMul_377 (by decide) ?_
        exact ihi
    · intro i qi ihi
      refine nx_iload F 223 rfl dX1_kMul_221 0 rfl ?_
      refine nx_iload F 225 rfl dX1_kMul_223 7 rfl ?_
      refine nx_ge F 228 276 rfl dX1_kMul_225 (by decide) (by omega) (by omega) (fun hh => absurd hh (by omega)) (fun _ => ?_)
      refine nx_aload F 230 rfl dX1_kMul_228 16 rfl ?_
      refine nx_iload F 232 rfl dX1_kMul_230 6 rfl ?_
      refine nx_iload F 234 rfl dX1_kMul_232 0 rfl ?_
      refine nx_iadd F 235 rfl dX1_kMul_234 (nt_addN (show tOff + i = tOff + i by omega)) ?_
      refine nx_dup2 F 236 rfl dX1_kMul_235 rfl rfl ?_
      refine nx_mld F 237 rfl dX1_kMul_236 (v := M a (aOff + i)) ht (show tOff + i < ln t by omega) (hln t ht) (by rw [nt_wr_out (by omega), nt_wr_out (by omega), nt_wr_out (by omega), nt_wr_at (by omega)]) ?_
      refine nx_aload_n F 238 rfl dX1_kMul_237 11 rfl ?_
      refine nx_iload_n F 239 rfl dX1_kMul_238 12 rfl ?_
      refine nx_iload F 241 rfl dX1_kMul_239 8 rfl ?_
      refine nx_iadd F 242 rfl dX1_kMul_241 (nt_addN (show aOff + m = aOff + m by omega)) ?_
      refine nx_iload F 244 rfl dX1_kMul_242 0 rfl ?_
      refine nx_iadd F 245 rfl dX1_kMul_244 (nt_addN (show (aOff + m) + i = (aOff + m) + i by omega)) ?_
      refine nx_mld F 246 rfl dX1_kMul_245 (v := M a (aOff + m + i)) ha (show (aOff + m) + i < ln a by omega) (hln a ha) (by rw [nt_wr_out (by have hd := d2; unfold nt_dis at hd; omega), nt_wr_out (by have hd := d2; unfold nt_dis at hd; omega), nt_wr_out (by have hd := d2; unfold nt_dis at hd; omega), nt_wr_out (by have hd := d2; unfold nt_dis at hd; omega)]) ?_
      refine nx_iadd F 247 rfl dX1_kMul_246 rfl ?_
      refine nx_mst F 248 rfl dX1_kMul_247 ht (show tOff + i < ln t by omega) (hln t ht) (nt_wr (nt_wr (nt_wr (nt_wr M t tOff m (fun u => M a (aOff + u))) t sb m (fun u => M b (bOff + u))) t tOff (i + 1) (fun u => M a (aOff + u) + M a (aOff + m + u))) t sb i (fun u => M b (bOff + u) + M b (bOff + m + u))) (by rw [nt_st_wr _ _ _ _ _ _ _ _ (by omega), nt_wr_s _ _ _ _ _ rfl]) ?_
      refine nx_aload F 250 rfl dX1_kMul_248 16 rfl ?_
      refine nx_iload F 252 rfl dX1_kMul_250 5 rfl ?_
      refine nx_iload F 254 rfl dX1_kMul_252 0 rfl ?_
      refine nx_iadd F 255 rfl dX1_kMul_254 (nt_addN (show sb + i = sb + i by omega)) ?_
      refine nx_dup2 F 256 rfl dX1_kMul_255 rfl rfl ?_
      refine nx_mld F 257 rfl dX1_kMul_256 (v := M b (bOff + i)) ht (show sb + i < ln t by omega) (hln t ht) (by rw [nt_wr_out (by omega), nt_wr_out (by omega), nt_wr_at (by omega)]) ?_
      refine nx_aload F 259 rfl dX1_kMul_257 13 rfl ?_
      refine nx_iload F 261 rfl dX1_kMul_259 14 rfl ?_
      refine nx_iload F 263 rfl dX1_kMul_261 8 rfl ?_
      refine nx_iadd F 264 rfl dX1_kMul_263 (nt_addN (show bOff + m = bOff + m by omega)) ?_
      refine nx_iload F 266 rfl dX1_kMul_264 0 rfl ?_
      refine nx_iadd F 267 rfl dX1_kMul_266 (nt_addN (show (bOff + m) + i = (bOff + m) + i by omega)) ?_
      refine nx_mld F 268 rfl dX1_kMul_267 (v := M b (bOff + m + i)) hb (show (bOff + m) + i < ln b by omega) (hln b hb) (by rw [nt_wr_out (by have hd := d3; unfold nt_dis at hd; omega), nt_wr_out (by have hd := d3; unfold nt_dis at hd; omega), nt_wr_out (by have hd := d3; unfold nt_dis at hd; omega), nt_wr_out (by have hd := d3; unfold nt_dis at hd; omega)]) ?_
      refine nx_iadd F 269 rfl dX1_kMul_268 rfl ?_
      refine nx_mst F 270 rfl dX1_kMul_269 ht (show sb + i < ln t by omega) (hln t ht) (nt_wr (nt_wr (nt_wr (nt_wr M t tOff m (fun u => M a (aOff + u))) t sb m (fun u => M b (bOff + u))) t tOff (i + 1) (fun u => M a (aOff + u) + M a (aOff + m + u))) t sb (i + 1) (fun u => M b (bOff + u) + M b (bOff + m + u))) (nt_wr_s _ _ _ _ _ rfl) ?_
      refine nx_iinc F 273 rfl dX1_kMul_270 0 rfl (nI_1 _) (by decide) [(17, .int (nI (i + 1))), (16, .int (nI nx)), (15, .int (nI z1)), (14, .int (nI z2)), (13, .int (nI z0)), (12, .int (nI sb)), (11, .int (nI tOff)), (10, .int (nI hi)), (9, .int (nI m)), (0, .ref r), (1, .int (nI rOff)), (2, .ref a), (3, .int (nI aOff)), (4, .ref b), (5, .int (nI bOff)), (6, .int (nI len)), (7, .ref t), (8, .int (nI tOff))] rfl ?_
      refine nx_goto F 221 dX1_kMul_273 (by decide) ?_
      exact ihi
  · intro i qi ihi
    refine nx_iload F 177 rfl dX1_kMul_175 0 rfl ?_
    refine nx_iload F 179 rfl dX1_kMul_177 8 rfl ?_
    refine nx_ge F 182 218 rfl dX1_kMul_179 (by decide) (by omega) (by omega) (fun hh => absurd hh (by omega)) (fun _ => ?_)
    refine nx_aload F 184 rfl dX1_kMul_182 16 rfl ?_
    refine nx_iload F 186 rfl dX1_kMul_184 6 rfl ?_
    refine nx_iload F 188 rfl dX1_kMul_186 0 rfl ?_
    refine nx_iadd F 189 rfl dX1_kMul_188 (nt_addN (show tOff + i = tOff + i by omega)) ?_
    refine nx_aload_n F 190 rfl dX1_kMul_189 11 rfl ?_
    refine nx_iload_n F 191 rfl dX1_kMul_190 12 rfl ?_
    refine nx_iload F 193 rfl dX1_kMul_191 0 rfl ?_
    refine nx_iadd F 194 rfl dX1_kMul_193 (nt_addN (show aOff + i = aOff + i by omega)) ?_
    refine nx_mld F 195 rfl dX1_kMul_194 (v := M a (aOff + i)) ha (show aOff + i < ln a by omega) (hln a ha) (by rw [nt_wr_out (by have hd := d2; unfold nt_dis at hd; omega), nt_wr_out (by have hd := d2; unfold nt_dis at hd; omega)]) ?_
    refine nx_mst F 196 rfl dX1_kMul_195 ht (show tOff + i < ln t by omega) (hln t ht) (nt_wr (nt_wr M t tOff (i + 1) (fun u => M a (aOff + u))) t sb i (fun u => M b (bOff + u))) (by rw [nt_st_wr _ _ _ _ _ _ _ _ (by omega), nt_wr_s _ _ _ _ _ rfl]) ?_
    refine nx_aload F 198 rfl dX1_kMul_196 16 rfl ?_
    refine nx_iload F 200 rfl dX1_kMul_198 5 rfl ?_
    refine nx_iload F 202 rfl dX1_kMul_200 0 rfl ?_
    refine nx_iadd F 203 rfl dX1_kMul_202 (nt_addN (show sb + i = sb + i by omega)) ?_
    refine nx_aload F 205 rfl dX1_kMul_203 13 rfl ?_
    refine nx_iload F 207 rfl dX1_kMul_205 14 rfl ?_
    refine nx_iload F 209 rfl dX1_kMul_207 0 rfl ?_
    refine nx_iadd F 210 rfl dX1_kMul_209 (nt_addN (show bOff + i = bOff + i by omega)) ?_
    refine nx_mld F 211 rfl dX1_kMul_210 (v := M b (bOff + i)) hb (show bOff + i < ln b by omega) (hln b hb) (by rw [nt_wr_out (by have hd := d3; unfold nt_dis at hd; omega), nt_wr_out (by have hd := d3; unfold nt_dis at hd; omega)]) ?_
    refine nx_mst F 212 rfl dX1_kMul_211 ht (show sb + i < ln t by omega) (hln t ht) (nt_wr (nt_wr M t tOff (i + 1) (fun u => M a (aOff + u))) t sb (i + 1) (fun u => M b (bOff + u))) (nt_wr_s _ _ _ _ _ rfl) ?_
    refine nx_iinc F 215 rfl dX1_kMul_212 0 rfl (nI_1 _) (by decide) [(17, .int (nI (i + 1))), (16, .int (nI nx)), (15, .int (nI z1)), (14, .int (nI z2)), (13, .int (nI z0)), (12, .int (nI sb)), (11, .int (nI tOff)), (10, .int (nI hi)), (9, .int (nI m)), (0, .ref r), (1, .int (nI rOff)), (2, .ref a), (3, .int (nI aOff)), (4, .ref b), (5, .int (nI bOff)), (6, .int (nI len)), (7, .ref t), (8, .int (nI tOff))] rfl ?_
    refine nx_goto F 175 dX1_kMul_215 (by decide) ?_
    exact ihi
set_option maxHeartbeats 4000000 in
set_option maxRecDepth 100000 in
/-- kMul: the product of two slices, at every depth -/
theorem met_kMul (l : Launch) (D : va_G) (cI cS cP : ClassId) : ∀ d : Nat, nt_kC l D cI cS cP d := by
  intro d
  induction d with
  | zero =>
    intro L ln M r rOff ul a aOff b bOff len t tOff hr ha hb ht hln br ba bb bt hul d1 d2 d3 d4 d5 hd
    refine nt_enterV (own := RX1) [.ref r, .int (nI rOff), .ref a, .int (nI aOff), .ref b, .int (nI bOff), .int (nI len), .ref t, .int (nI tOff)] (by decide) rfl [(0, .ref r), (1, .int (nI rOff)), (2, .ref a), (3, .int (nI aOff)), (4, .ref b), (5, .int (nI bOff)), (6, .int (nI len)), (7, .ref t), (8, .int (nI tOff))] rfl (Nat.le_of_ble_eq_true rfl) (fun G F hn hret => ?_)
    refine nx_iload F 2 rfl dX1_kMul_0 6 rfl ?_
    refine nx_bipush F 4 rfl (v := nI 48) dX1_kMul_2 (by decide +kernel) ?_
    have lr := hln r hr
    refine nx_gt F 7 106 rfl dX1_kMul_4 (by decide) (by omega) (by omega) (fun h => absurd h (by omega)) (fun _ => km_base F hr ha hb ht hln br ba bb bt hul d4 d5 (fun M' hdg hk => hret hdg (Nat.le_refl 0) (Nat.le_refl 0) ⟨rfl, M', rfl, hk⟩))
  | succ d ih =>
    intro L ln M r rOff ul a aOff b bOff len t tOff hr ha hb ht hln br ba bb bt hul d1 d2 d3 d4 d5 hd
    refine nt_enterV (own := RX1) [.ref r, .int (nI rOff), .ref a, .int (nI aOff), .ref b, .int (nI bOff), .int (nI len), .ref t, .int (nI tOff)] (by decide) rfl [(0, .ref r), (1, .int (nI rOff)), (2, .ref a), (3, .int (nI aOff)), (4, .ref b), (5, .int (nI bOff)), (6, .int (nI len)), (7, .ref t), (8, .int (nI tOff))] rfl (Nat.le_of_ble_eq_true rfl) (fun G F hn hret => ?_)
    refine nx_iload F 2 rfl dX1_kMul_0 6 rfl ?_
    refine nx_bipush F 4 rfl (v := nI 48) dX1_kMul_2 (by decide +kernel) ?_
    have lr := hln r hr
    refine nx_gt F 7 106 rfl dX1_kMul_4 (by decide) (by omega) (by omega) (fun h49 => km_step ih F hr ha hb ht hln br ba bb bt hul d1 d2 d3 d4 d5 h49 hd (fun M' hdg hk => hret hdg (Nat.le_refl 0) (Nat.le_refl 0) ⟨rfl, M', rfl, hk⟩)) (fun _ => km_base F hr ha hb ht hln br ba bb bt hul d4 d5 (fun M' hdg hk => hret hdg (Nat.le_refl 0) (Nat.le_refl 0) ⟨rfl, M', rfl, hk⟩))
end
section
/-! ===== objects: parameter sets and polynomials are made (printed by gen/objects.py) ===== -/
set_option maxHeartbeats 4000000 in
set_option maxRecDepth 100000 in
/-- NTRUParameterSet(..): the five fields -/
theorem met_X3_init (l : Launch) (D : va_G) (cI cS cP : ClassId) {L : List Nat} {f : Nat → va_E} {q : Nat} {v0 v1 v2 v3 v4 : Value} (hq : q ∈ L) (fq : f q = .inr (2, [v0, v1, v2, v3, v4])) (a0 a1 a2 a3 a4 : Int32) :
    nt_Mv l yX3_init (ws_ yX3_init cX3_init 6 none) ({ frames := 1, cells := 0, slots := 0, locals := 12 } : Room) D cI cS cP [.ref q, .int a0, .int a1, .int a2, .int a3, .int a4] L f (fun L' f' => L' = L ∧ f' = va_up f q (.inr (2, [.int a0, .int a1, .int a2, .int a3, .int a4]))) 0 0 := by
  refine nt_enterV (own := RX3) _ (by decide) rfl [(0, .ref q), (1, .int a0), (2, .int a1), (3, .int a2), (4, .int a3), (5, .int a4)] rfl (Nat.le_of_ble_eq_true rfl) (fun G F hn hret => ?_)
  refine nx_aload_n F 1 rfl dX3_init_0 0 rfl ?_
  refine nx_obj F 4 rfl dX3_init_1 q35 (Nat.le_of_ble_eq_true rfl) (Nat.le_of_ble_eq_true rfl) ?_
  refine nx_aload_n F 5 rfl dX3_init_4 0 rfl ?_
  refine nx_iload_n F 6 rfl dX3_init_5 1 rfl ?_
  refine nx_putF (ty := .int) F hn 9 rfl dX3_init_6 hq fq in_X5 tyX5 tyX5_ok nmX5 rfl 0 (by decide) q36 rfl rfl rfl (by decide +kernel) rfl rfl (Nat.le_of_ble_eq_true rfl) (va_up f q (.inr (2, [.int a0, v1, v2, v3, v4]))) rfl ?_
  refine nx_aload_n F 10 rfl dX3_init_9 0 rfl ?_
  refine nx_iload_n F 11 rfl dX3_init_10 2 rfl ?_
  refine nx_putF (ty := .int) F hn 14 rfl dX3_init_11 hq (va_up_self _ _ _) in_X5 tyX5 tyX5_ok nmX5 rfl 1 (by decide) q37 rfl rfl rfl (by decide +kernel) rfl rfl (Nat.le_of_ble_eq_true rfl) (va_up f q (.inr (2, [.int a0, .int a1, v2, v3, v4]))) (bx_uu _ _ _ _) ?_
  refine nx_aload_n F 15 rfl dX3_init_14 0 rfl ?_
  refine nx_iload_n F 16 rfl dX3_init_15 3 rfl ?_
  refine nx_putF (ty := .int) F hn 19 rfl dX3_init_16 hq (va_up_self _ _ _) in_X5 tyX5 tyX5_ok nmX5 rfl 2 (by decide) q38 rfl rfl rfl (by decide +kernel) rfl rfl (Nat.le_of_ble_eq_true rfl) (va_up f q (.inr (2, [.int a0, .int a1, .int a2, v3, v4]))) (bx_uu _ _ _ _) ?_
  refine nx_aload_n F 20 rfl dX3_init_19 0 rfl ?_
  refine nx_iload F 22 rfl dX3_init_20 4 rfl ?_
  refine nx_putF (ty := .int) F hn 25 rfl dX3_init_22 hq (va_up_self _ _ _) in_X5 tyX5 tyX5_ok nmX5 rfl 3 (by decide) q39 rfl rfl rfl (by decide +kernel) rfl rfl (Nat.le_of_ble_eq_true rfl) (va_up f q (.inr (2, [.int a0, .int a1, .int a2, .int a3, v4]))) (bx_uu _ _ _ _) ?_
  refine nx_aload_n F 26 rfl dX3_init_25 0 rfl ?_
  refine nx_iload F 28 rfl dX3_init_26 5 rfl ?_
  refine nx_putF (ty := .int) F hn 31 rfl dX3_init_28 hq (va_up_self _ _ _) in_X5 tyX5 tyX5_ok nmX5 rfl 4 (by decide) q40 rfl rfl rfl (by decide +kernel) rfl rfl (Nat.le_of_ble_eq_true rfl) (va_up f q (.inr (2, [.int a0, .int a1, .int a2, .int a3, .int a4]))) (bx_uu _ _ _ _) ?_
  exact hret dX3_init_31 (Nat.le_refl 0) (Nat.le_refl 0) ⟨rfl, rfl⟩

def nt_par : List Value := [.int (nI 509), .int (nI 11), .int (nI 32), .int (nI 32), .int (nI 32)]
set_option maxHeartbeats 4000000 in
set_option maxRecDepth 100000 in
/-- n(): 509 -/
theorem met_X3_n (l : Launch) (D : va_G) (cI cS cP : ClassId) {L : List Nat} {f : Nat → va_E} {q : Nat} (hq : q ∈ L) (fq : f q = .inr (2, nt_par)) :
    nt_Mi l yX3_n (ws_ yX3_n cX3_n 1 (some .int)) ({ frames := 0, cells := 0, slots := 0, locals := 0 } : Room) D cI cS cP [.ref q] L f (fun r L' f' => r = nI 509 ∧ L' = L ∧ f' = f) 0 0 := by
  refine nt_enterI (own := RX3) _ (by decide) rfl [(0, .ref q)] rfl (Nat.le_of_ble_eq_true rfl) (fun G F hn hret => ?_)
  refine nx_aload_n F 1 rfl dX3_n_0 0 rfl ?_
  refine nx_get F 4 rfl dX3_n_1 (nt_in1 hq fq) in_X5 rfl 0 (by decide) q36 rfl rfl ?_
  exact hret dX3_n_4 rfl (Nat.le_refl 0) (Nat.le_refl 0) ⟨rfl, rfl, rfl⟩

set_option maxHeartbeats 4000000 in
set_option maxRecDepth 100000 in
/-- NTRUHPSParameterSet(..) -/
theorem met_X4_init (l : Launch) (D : va_G) (cI cS cP : ClassId) {L : List Nat} {f : Nat → va_E} {q : Nat} {v0 v1 v2 v3 v4 : Value} (hq : q ∈ L) (fq : f q = .inr (2, [v0, v1, v2, v3, v4])) (a0 a1 a2 a3 a4 : Int32) :
    nt_Mv l yX4_init (ws_ yX4_init cX4_init 6 none) ({ frames := 2, cells := 0, slots := 0, locals := 37 } : Room) D cI cS cP [.ref q, .int a0, .int a1, .int a2, .int a3, .int a4] L f (fun L' f' => L' = L ∧ f' = va_up f q (.inr (2, [.int a0, .int a1, .int a2, .int a3, .int a4]))) 0 0 := by
  refine nt_enterV (own := RX4) _ (by decide) rfl [(0, .ref q), (1, .int a0), (2, .int a1), (3, .int a2), (4, .int a3), (5, .int a4)] rfl (Nat.le_of_ble_eq_true rfl) (fun G F hn hret => ?_)
  refine nx_aload_n F 1 rfl dX4_init_0 0 rfl ?_
  refine nx_iload_n F 2 rfl dX4_init_1 1 rfl ?_
  refine nx_iload_n F 3 rfl dX4_init_2 2 rfl ?_
  refine nx_iload_n F 4 rfl dX4_init_3 3 rfl ?_
  refine nx_iload F 6 rfl dX4_init_4 4 rfl ?_
  refine nx_iload F 8 rfl dX4_init_6 5 rfl ?_
  refine nx_vI1 (st := []) (n := 5) F 11 rfl [.int a0, .int a1, .int a2, .int a3, .int a4] dX4_init_8 q32 q33 q5 q34 rfl (by decide +kernel) ({ frames := 1, cells := 0, slots := 0, locals := 12 } : Room) rfl rfl ⟨(Nat.le_of_ble_eq_true rfl), (Nat.le_of_ble_eq_true rfl)⟩ ⟨Nat.le_refl 0, Nat.le_refl 0⟩ (met_X3_init l D cI cS cP hq fq a0 a1 a2 a3 a4) rfl rfl (Nat.le_of_ble_eq_true rfl) (fun L' f' hp => ?_)
  exact hret dX4_init_11 (Nat.le_refl 0) (Nat.le_refl 0) hp

set_option maxHeartbeats 4000000 in
set_option maxRecDepth 100000 in
/-- NTRUHPS2048509() -/
theorem met_X5_init (l : Launch) (D : va_G) (cI cS cP : ClassId) {L : List Nat} {f : Nat → va_E} {q : Nat} {v0 v1 v2 v3 v4 : Value} (hq : q ∈ L) (fq : f q = .inr (2, [v0, v1, v2, v3, v4])) :
    nt_Mv l yX5_init (ws_ yX5_init cX5_init 1 none) ({ frames := 3, cells := 0, slots := 0, locals := 62 } : Room) D cI cS cP [.ref q] L f (fun L' f' => L' = L ∧ f' = va_up f q (.inr (2, nt_par))) 0 0 := by
  refine nt_enterV (own := RX5) _ (by decide) rfl [(0, .ref q)] rfl (Nat.le_of_ble_eq_true rfl) (fun G F hn hret => ?_)
  refine nx_aload_n F 1 rfl dX5_init_0 0 rfl ?_
  refine nx_sipush F 4 rfl (v := nI 509) dX5_init_1 (by decide +kernel) ?_
  refine nx_bipush F 6 rfl (v := nI 11) dX5_init_4 (by decide +kernel) ?_
  refine nx_bipush F 8 rfl (v := nI 32) dX5_init_6 (by decide +kernel) ?_
  refine nx_bipush F 10 rfl (v := nI 32) dX5_init_8 (by decide +kernel) ?_
  refine nx_bipush F 12 rfl (v := nI 32) dX5_init_10 (by decide +kernel) ?_
  refine nx_vI1 (st := []) (n := 5) F 15 rfl [.int (nI 509), .int (nI 11), .int (nI 32), .int (nI 32), .int (nI 32)] dX5_init_12 q29 q30 q6 q31 rfl (by decide +kernel) ({ frames := 2, cells := 0, slots := 0, locals := 37 } : Room) rfl rfl ⟨(Nat.le_of_ble_eq_true rfl), (Nat.le_of_ble_eq_true rfl)⟩ ⟨Nat.le_refl 0, Nat.le_refl 0⟩ (met_X4_init l D cI cS cP hq fq (nI 509) (nI 11) (nI 32) (nI 32) (nI 32)) rfl rfl (Nat.le_of_ble_eq_true rfl) (fun L' f' hp => ?_)
  exact hret dX5_init_15 (Nat.le_refl 0) (Nat.le_refl 0) hp

set_option maxHeartbeats 4000000 in
set_option maxRecDepth 100000 in
/-- Polynomial(params): 509 zeros, the parameters -/
theorem met_X1_init (l : Launch) (D : va_G) (cI cS cP : ClassId) {L : List Nat} {f : Nat → va_E} {p q : Nat} {v0 v1 : Value} (hp : p ∈ L) (fp : f p = .inr (1, [v0, v1])) (hq : q ∈ L) (fq : f q = .inr (2, nt_par)) :
    nt_Mv l yX1_init (ws_ yX1_init cX1_init 2 none) ({ frames := 1, cells := 1, slots := 509, locals := 20 } : Room) D cI cS cP [.ref p, .ref q] L f (fun L' f' => ∃ c : Nat, c ∉ L ∧ L' = L ++ [c] ∧ f' = va_up (va_up f c (.inl (cS, 509, .inl (fun _ => 0)))) p (.inr (1, [.ref c, .ref q]))) 1 509 := by
  refine nt_enterV (own := RX1) _ (by decide) rfl [(0, .ref p), (1, .ref q)] rfl (Nat.le_of_ble_eq_true rfl) (fun G F hn hret => ?_)
  refine nx_aload_n F 1 rfl dX1_init_0 0 rfl ?_
  refine nx_obj F 4 rfl dX1_init_1 q58 (Nat.le_of_ble_eq_true rfl) (Nat.le_of_ble_eq_true rfl) ?_
  refine nx_aload_n F 5 rfl dX1_init_4 0 rfl ?_
  refine nx_aload_n F 6 rfl dX1_init_5 1 rfl ?_
  refine nx_iU1 (st := [.ref p]) (n := 0) F 9 rfl [] dX1_init_6 q59 q61 q62 q60 q5 q63 (by decide +kernel) ({ frames := 0, cells := 0, slots := 0, locals := 0 } : Room) rfl rfl ⟨(Nat.le_of_ble_eq_true rfl), (Nat.le_of_ble_eq_true rfl)⟩ ⟨(Nat.le_of_ble_eq_true rfl), (Nat.le_of_ble_eq_true rfl)⟩ (nt_in1 hq fq) rfl (met_X3_n l D cI cS cP hq fq) rfl rfl (Nat.le_of_ble_eq_true rfl) (fun r L' f' hr => ?_)
  obtain ⟨hr1, hr2, hr3⟩ := hr
  rw [hr1, hr2, hr3]
  refine nx_wide (kc' := 0) (ks' := 0) (Nat.le_refl 0) (Nat.le_refl 0) ?_
  refine nx_newS F 11 rfl dX1_init_9 (by decide) ⟨(Nat.le_of_ble_eq_true rfl), (Nat.le_of_ble_eq_true rfl)⟩ (fun c hc => ?_)
  have hcp : p ≠ c := fun h => hc (h ▸ hp)
  have fp1 : va_up f c (.inl (cS, 509, .inl (fun _ => 0))) p = .inr (1, [v0, v1]) := (va_up_ne _ _ hcp).trans fp
  refine nx_put (ty := .array .short) F 14 rfl dX1_init_11 (List.mem_append_left _ hp) fp1 in_X2 tyX2 tyX2_ok nmX2 rfl 0 (by decide) q64 rfl rfl (by decide +kernel) rfl rfl (Nat.le_of_ble_eq_true rfl) (va_up (va_up f c (.inl (cS, 509, .inl (fun _ => 0)))) p (.inr (1, [.ref c, v1]))) rfl ?_
  refine nx_aload_n F 15 rfl dX1_init_14 0 rfl ?_
  refine nx_aload_n F 16 rfl dX1_init_15 1 rfl ?_
  refine nx_put (ty := .object "NTRUParameterSet") F 19 rfl dX1_init_16 (List.mem_append_left _ hp) (va_up_self _ _ _) in_X2 tyX2 tyX2_ok nmX2 rfl 1 (by decide) q66 rfl rfl (by decide +kernel) rfl rfl (Nat.le_of_ble_eq_true rfl) (va_up (va_up f c (.inl (cS, 509, .inl (fun _ => 0)))) p (.inr (1, [.ref c, .ref q]))) (bx_uu _ _ _ _) ?_
  exact hret dX1_init_19 (Nat.le_refl 1) (Nat.le_refl 509) ⟨c, hc, rfl, rfl⟩

set_option maxHeartbeats 4000000 in
set_option maxRecDepth 100000 in
/-- HPSPolynomial(params) -/
theorem met_X2_init (l : Launch) (D : va_G) (cI cS cP : ClassId) {L : List Nat} {f : Nat → va_E} {p q : Nat} {v0 v1 : Value} (hp : p ∈ L) (fp : f p = .inr (1, [v0, v1])) (hq : q ∈ L) (fq : f q = .inr (2, nt_par)) :
    nt_Mv l yX2_init (ws_ yX2_init cX2_init 2 none) ({ frames := 2, cells := 1, slots := 509, locals := 41 } : Room) D cI cS cP [.ref p, .ref q] L f (fun L' f' => ∃ c : Nat, c ∉ L ∧ L' = L ++ [c] ∧ f' = va_up (va_up f c (.inl (cS, 509, .inl (fun _ => 0)))) p (.inr (1, [.ref c, .ref q]))) 1 509 := by
  refine nt_enterV (own := RX2) _ (by decide) rfl [(0, .ref p), (1, .ref q)] rfl (Nat.le_of_ble_eq_true rfl) (fun G F hn hret => ?_)
  refine nx_aload_n F 1 rfl dX2_init_0 0 rfl ?_
  refine nx_aload_n F 2 rfl dX2_init_1 1 rfl ?_
  refine nx_vI1 (st := []) (n := 1) F 5 rfl [.ref q] dX2_init_2 q55 q56 q3 q57 rfl (by decide +kernel) ({ frames := 1, cells := 1, slots := 509, locals := 20 } : Room) rfl rfl ⟨(Nat.le_of_ble_eq_true rfl), (Nat.le_of_ble_eq_true rfl)⟩ ⟨(Nat.le_of_ble_eq_true rfl), (Nat.le_of_ble_eq_true rfl)⟩ (met_X1_init l D cI cS cP hp fp hq fq) rfl rfl (Nat.le_of_ble_eq_true rfl) (fun L' f' hx => ?_)
  exact hret dX2_init_5 (Nat.le_refl 1) (Nat.le_refl 509) hx

/-- p is a polynomial: its coefficients g in the cell c, its parameters in q -/
def nt_poly (cS : ClassId) (L : List Nat) (f : Nat → va_E) (p c q : Nat) (g : Nat → Int32) : Prop := p ∈ L ∧ c ∈ L ∧ q ∈ L ∧ f p = .inr (1, [.ref c, .ref q]) ∧ f c = .inl (cS, 509, .inl g) ∧ f q = .inr (2, nt_par)
theorem nt_poly.mono {cS : ClassId} {L L' : List Nat} {f f' : Nat → va_E} {p c q : Nat} {g : Nat → Int32} (h : nt_poly cS L f p c q g) (hL : ∀ a, a ∈ L → a ∈ L') (hf : ∀ a, a ∈ L → f' a = f a) : nt_poly cS L' f' p c q g :=
  ⟨hL _ h.1, hL _ h.2.1, hL _ h.2.2.1, (hf _ h.1).trans h.2.2.2.1, (hf _ h.2.1).trans h.2.2.2.2.1, (hf _ h.2.2.1).trans h.2.2.2.2.2⟩
theorem nt_poly.up {cS : ClassId} {L : List Nat} {f : Nat → va_E} {p c q a : Nat} {g : Nat → Int32} {e : va_E} (h : nt_poly cS L f p c q g) (h1 : p ≠ a) (h2 : c ≠ a) (h3 : q ≠ a) : nt_poly cS L (va_up f a e) p c q g :=
  ⟨h.1, h.2.1, h.2.2.1, (va_up_ne _ _ h1).trans h.2.2.2.1, (va_up_ne _ _ h2).trans h.2.2.2.2.1, (va_up_ne _ _ h3).trans h.2.2.2.2.2⟩
theorem nt_nek {f : Nat → va_E} {a b : Nat} {e1 e2 : va_E} (h1 : f a = e1) (h2 : f b = e2) (hne : e1 ≠ e2) : a ≠ b := fun h => hne (by rw [← h1, ← h2, h])
theorem nt_poly.pc {cS : ClassId} {L : List Nat} {f : Nat → va_E} {p c q : Nat} {g : Nat → Int32} (h : nt_poly cS L f p c q g) : p ≠ c := nt_nek h.2.2.2.1 h.2.2.2.2.1 (by simp)
theorem nt_poly.qc {cS : ClassId} {L : List Nat} {f : Nat → va_E} {p c q : Nat} {g : Nat → Int32} (h : nt_poly cS L f p c q g) : q ≠ c := nt_nek h.2.2.2.2.2 h.2.2.2.2.1 (by simp)
/-- other coefficients -/
theorem nt_poly.set {cS : ClassId} {L : List Nat} {f : Nat → va_E} {p c q : Nat} {g : Nat → Int32} (h : nt_poly cS L f p c q g) (g' : Nat → Int32) : nt_poly cS L (va_up f c (.inl (cS, 509, .inl g'))) p c q g' :=
  ⟨h.1, h.2.1, h.2.2.1, (va_up_ne _ _ h.pc).trans h.2.2.2.1, va_up_self _ _ _, (va_up_ne _ _ h.qc).trans h.2.2.2.2.2⟩
/-- what made() leaves: a new polynomial of zeros, in three new cells -/
def nt_new (cS : ClassId) (L : List Nat) (f : Nat → va_E) (r : Nat) (L' : List Nat) (f' : Nat → va_E) : Prop :=
  ∃ c q : Nat, r ∉ L ∧ c ∉ L ∧ (∀ a, a ∈ L → a ∈ L') ∧ (∀ a, a ∈ L → f' a = f a) ∧ nt_poly cS L' f' r c q (fun _ => 0)
set_option maxHeartbeats 4000000 in
set_option maxRecDepth 100000 in
/-- made(): a new polynomial -/
theorem met_X0_made (l : Launch) (D : va_G) (cI cS cP : ClassId) {L : List Nat} {f : Nat → va_E} :
    nt_Mr l yX0_made (ws_ yX0_made cX0_made 0 (some (.object "Polynomial"))) ({ frames := 4, cells := 3, slots := 516, locals := 82 } : Room) D cI cS cP [] L f (fun r L' f' => nt_new cS L f r L' f') 3 516 := by
  refine nt_enterR (own := RX0) [] (by decide) rfl [] rfl (Nat.le_of_ble_eq_true rfl) (fun G F hn hret => ?_)
  refine nx_new1 F 3 rfl dX0_made_0 q22 q23 q4 in_X2 tyX2 tyX2_ok (ci := 1) rfl [.null, .null] (fun j hj => by rcases (show j = 0 ∨ j = 1 by omega) with rfl | rfl <;> rfl) ⟨(Nat.le_of_ble_eq_true rfl), (Nat.le_of_ble_eq_true rfl)⟩ (fun r hr => ?_)
  refine nx_dup F 4 rfl dX0_made_3 rfl ?_
  refine nx_new1 F 7 rfl dX0_made_4 q24 q25 q7 in_X5 tyX5 tyX5_ok (ci := 2) rfl [.int 0, .int 0, .int 0, .int 0, .int 0] (fun j hj => by rcases (show j = 0 ∨ j = 1 ∨ j = 2 ∨ j = 3 ∨ j = 4 by omega) with rfl | rfl | rfl | rfl | rfl <;> rfl) ⟨(Nat.le_of_ble_eq_true rfl), (Nat.le_of_ble_eq_true rfl)⟩ (fun q hq => ?_)
  refine nx_dup F 8 rfl dX0_made_7 rfl ?_
  refine nx_vI1 (st := [.ref q, .ref r, .ref r]) (n := 0) F 11 rfl [] dX0_made_8 q26 q27 q7 q28 rfl (by decide +kernel) ({ frames := 3, cells := 0, slots := 0, locals := 62 } : Room) rfl rfl ⟨(Nat.le_of_ble_eq_true rfl), (Nat.le_of_ble_eq_true rfl)⟩ ⟨(Nat.le_of_ble_eq_true rfl), (Nat.le_of_ble_eq_true rfl)⟩ (met_X5_init l D cI cS cP (List.mem_append_right _ List.mem_cons_self) (va_up_self _ _ _)) rfl rfl (Nat.le_of_ble_eq_true rfl) (fun L1 f1 hp => ?_)
  obtain ⟨hp1, hp2⟩ := hp
  rw [hp1, hp2, bx_uu]
  have hrq : r ≠ q := fun h => hq (h ▸ List.mem_append_right _ List.mem_cons_self)
  refine nx_vI1 (st := [.ref r]) (n := 1) F 14 rfl [.ref q] dX0_made_11 q52 q53 q4 q54 rfl (by decide +kernel) ({ frames := 2, cells := 1, slots := 509, locals := 41 } : Room) rfl rfl ⟨(Nat.le_of_ble_eq_true rfl), (Nat.le_of_ble_eq_true rfl)⟩ ⟨(Nat.le_of_ble_eq_true rfl), (Nat.le_of_ble_eq_true rfl)⟩ (met_X2_init (v0 := .null) (v1 := .null) l D cI cS cP (List.mem_append_left _ (List.mem_append_right _ List.mem_cons_self)) ((va_up_ne _ _ hrq).trans (va_up_self _ _ _)) (List.mem_append_right _ List.mem_cons_self) (va_up_self _ _ _)) rfl rfl (Nat.le_of_ble_eq_true rfl) (fun L2 f2 hx => ?_)
  obtain ⟨c, hc, hx1, hx2⟩ := hx
  rw [hx1, hx2]
  have hcr : r ≠ c := fun h => hc (h ▸ List.mem_append_left _ (List.mem_append_right _ List.mem_cons_self))
  have hcq : q ≠ c := fun h => hc (h ▸ List.mem_append_right _ List.mem_cons_self)
  refine hret dX0_made_14 (Nat.le_of_ble_eq_true rfl) (Nat.le_of_ble_eq_true rfl) ⟨c, q, hr, fun h => hc (List.mem_append_left _ (List.mem_append_left _ h)), fun a ha => List.mem_append_left _ (List.mem_append_left _ (List.mem_append_left _ ha)), fun a ha => ?_, List.mem_append_left _ (List.mem_append_left _ (List.mem_append_right _ List.mem_cons_self)), List.mem_append_right _ List.mem_cons_self, List.mem_append_left _ (List.mem_append_right _ List.mem_cons_self), va_up_self _ _ _, ?_, ?_⟩
  · have n1 : a ≠ r := fun h => hr (h ▸ ha)
    have n2 : a ≠ q := fun h => hq (h ▸ List.mem_append_left _ ha)
    have n3 : a ≠ c := fun h => hc (h ▸ List.mem_append_left _ (List.mem_append_left _ ha))
    rw [va_up_ne _ _ n1, va_up_ne _ _ n3, va_up_ne _ _ n2, va_up_ne _ _ n1]
  · rw [va_up_ne _ _ hcr.symm, va_up_self]
  · rw [va_up_ne _ _ hrq.symm, va_up_ne _ _ hcq, va_up_self]
end
section
/-! ===== polynomials: mod3, modQPhiN, mod3PhiN, rqMul, sqMul, s3Mul (printed by gen/poly.py) ===== -/
set_option maxHeartbeats 4000000 in
set_option maxRecDepth 100000 in
/-- mod3: the low 16 bits, modulo 3 -/
theorem met_X1_mod3 (l : Launch) (D : va_G) (cI cS cP : ClassId) {f0 : Nat → va_E} (v : Int32) :
    nt_Mi l yX1_mod3 (ws_ yX1_mod3 cX1_mod3 4 (some .short)) ({ frames := 0, cells := 0, slots := 0, locals := 0 } : Room) D cI cS cP [.int v] [] f0 (fun r _ _ => r = nI (nt_m3 v)) 0 0 := by
  refine nt_enterI (own := RX1) _ (by decide) rfl [(0, .int v)] rfl (Nat.le_of_ble_eq_true rfl) (fun G F hn hret => ?_)
  refine nx_iload_n F 1 rfl dX1_mod3_0 0 rfl ?_
  refine nx_ldc F 3 rfl dX1_mod3_1 q144 ?_
  refine nx_iand F 4 rfl (v := nI (v.toBitVec.toNat % 65536)) dX1_mod3_3 (pk_and v 16 (by decide +kernel)) ?_
  obtain ⟨n0, hn0⟩ : ∃ z : Nat, z = v.toBitVec.toNat % 65536 := ⟨_, rfl⟩
  refine nx_topi (v' := nI n0) (nt_nI hn0.symm) ?_
  have b0 : n0 < 65536 := by omega
  refine nx_istore_n F 5 rfl dX1_mod3_4 (by decide) [(1, .int (nI n0)), (0, .int v)] rfl ?_
  refine nx_iload_n F 6 rfl dX1_mod3_5 0 rfl ?_
  refine nx_bipush F 8 rfl (v := nI 8) dX1_mod3_6 (by decide +kernel) ?_
  refine nx_iushr F 9 rfl (v := nI (n0 / 256)) dX1_mod3_8 (pk_ushrN (n := n0) (by omega) _ 8 (by decide +kernel)) ?_
  refine nx_iload_n F 10 rfl dX1_mod3_9 0 rfl ?_
  refine nx_sipush F 13 rfl (v := nI 255) dX1_mod3_10 (by decide +kernel) ?_
  refine nx_iand F 14 rfl (v := nI (n0 % 256)) dX1_mod3_13 (pk_andN (n := n0) (by omega) 8 (by decide +kernel)) ?_
  refine nx_iadd F 15 rfl dX1_mod3_14 (nt_addN (show (n0 / 256) + (n0 % 256) = (n0 / 256) + (n0 % 256) by omega)) ?_
  obtain ⟨n1, hn1⟩ : ∃ z : Nat, z = n0 / 256 + n0 % 256 := ⟨_, rfl⟩
  refine nx_topi (v' := nI n1) (nt_nI hn1.symm) ?_
  refine nx_istore_n F 16 rfl dX1_mod3_15 (by decide) [(1, .int (nI n1)), (0, .int v)] rfl ?_
  refine nx_iload_n F 17 rfl dX1_mod3_16 0 rfl ?_
  refine nx_iconst F 18 rfl (v := nI 4) dX1_mod3_17 (by decide +kernel) ?_
  refine nx_iushr F 19 rfl (v := nI (n1 / 16)) dX1_mod3_18 (pk_ushrN (n := n1) (by omega) _ 4 (by decide +kernel)) ?_
  refine nx_iload_n F 20 rfl dX1_mod3_19 0 rfl ?_
  refine nx_bipush F 22 rfl (v := nI 15) dX1_mod3_20 (by decide +kernel) ?_
  refine nx_iand F 23 rfl (v := nI (n1 % 16)) dX1_mod3_22 (pk_andN (n := n1) (by omega) 4 (by decide +kernel)) ?_
  refine nx_iadd F 24 rfl dX1_mod3_23 (nt_addN (show (n1 / 16) + (n1 % 16) = (n1 / 16) + (n1 % 16) by omega)) ?_
  obtain ⟨n2, hn2⟩ : ∃ z : Nat, z = n1 / 16 + n1 % 16 := ⟨_, rfl⟩
  refine nx_topi (v' := nI n2) (nt_nI hn2.symm) ?_
  refine nx_istore_n F 25 rfl dX1_mod3_24 (by decide) [(1, .int (nI n2)), (0, .int v)] rfl ?_
  refine nx_iload_n F 26 rfl dX1_mod3_25 0 rfl ?_
  refine nx_iconst F 27 rfl (v := nI 2) dX1_mod3_26 (by decide +kernel) ?_
  refine nx_iushr F 28 rfl (v := nI (n2 / 4)) dX1_mod3_27 (pk_ushrN (n := n2) (by omega) _ 2 (by decide +kernel)) ?_
  refine nx_iload_n F 29 rfl dX1_mod3_28 0 rfl ?_
  refine nx_iconst F 30 rfl (v := nI 3) dX1_mod3_29 (by decide +kernel) ?_
  refine nx_iand F 31 rfl (v := nI (n2 % 4)) dX1_mod3_30 (pk_andN (n := n2) (by omega) 2 (by decide +kernel)) ?_
  refine nx_iadd F 32 rfl dX1_mod3_31 (nt_addN (show (n2 / 4) + (n2 % 4) = (n2 / 4) + (n2 % 4) by omega)) ?_
  obtain ⟨n3, hn3⟩ : ∃ z : Nat, z = n2 / 4 + n2 % 4 := ⟨_, rfl⟩
  refine nx_topi (v' := nI n3) (nt_nI hn3.symm) ?_
  refine nx_istore_n F 33 rfl dX1_mod3_32 (by decide) [(1, .int (nI n3)), (0, .int v)] rfl ?_
  refine nx_iload_n F 34 rfl dX1_mod3_33 0 rfl ?_
  refine nx_iconst F 35 rfl (v := nI 2) dX1_mod3_34 (by decide +kernel) ?_
  refine nx_iushr F 36 rfl (v := nI (n3 / 4)) dX1_mod3_35 (pk_ushrN (n := n3) (by omega) _ 2 (by decide +kernel)) ?_
  refine nx_iload_n F 37 rfl dX1_mod3_36 0 rfl ?_
  refine nx_iconst F 38 rfl (v := nI 3) dX1_mod3_37 (by decide +kernel) ?_
  refine nx_iand F 39 rfl (v := nI (n3 % 4)) dX1_mod3_38 (pk_andN (n := n3) (by omega) 2 (by decide +kernel)) ?_
  refine nx_iadd F 40 rfl dX1_mod3_39 (nt_addN (show (n3 / 4) + (n3 % 4) = (n3 / 4) + (n3 % 4) by omega)) ?_
  obtain ⟨n4, hn4⟩ : ∃ z : Nat, z = n3 / 4 + n3 % 4 := ⟨_, rfl⟩
  refine nx_topi (v' := nI n4) (nt_nI hn4.symm) ?_
  have hr := nt_m3_r b0 hn1 hn2 hn3 hn4
  have h3 : n4 % 3 < 32768 := Nat.lt_of_lt_of_le (Nat.mod_lt n4 (by decide)) (by decide)
  refine nx_istore_n F 41 rfl dX1_mod3_40 (by decide) [(1, .int (nI n4)), (0, .int v)] rfl ?_
  refine nx_iload_n F 42 rfl dX1_mod3_41 0 rfl ?_
  refine nx_iconst F 43 rfl (v := nI 3) dX1_mod3_42 (by decide +kernel) ?_
  refine nx_isub F 44 rfl dX1_mod3_43 rfl ?_
  refine nx_istore_n F 45 rfl dX1_mod3_44 (by decide) [(2, .int (nI n4 - nI 3)), (1, .int (nI n4)), (0, .int v)] rfl ?_
  refine nx_iload_n F 46 rfl dX1_mod3_45 0 rfl ?_
  refine nx_bipush F 48 rfl (v := nI 31) dX1_mod3_46 (by decide +kernel) ?_
  refine nx_ishr F 49 rfl (v := ((nI n4 - nI 3) >>> (nI 31 &&& 31))) dX1_mod3_48 rfl ?_
  refine nx_istore_n F 50 rfl dX1_mod3_49 (by decide) [(3, .int ((nI n4 - nI 3) >>> (nI 31 &&& 31))), (2, .int (nI n4 - nI 3)), (1, .int (nI n4)), (0, .int v)] rfl ?_
  refine nx_iload_n F 51 rfl dX1_mod3_50 0 rfl ?_
  refine nx_iload_n F 52 rfl dX1_mod3_51 2 rfl ?_
  refine nx_iand F 53 rfl (v := ((nI n4 - nI 3) >>> (nI 31 &&& 31) &&& nI n4)) dX1_mod3_52 rfl ?_
  refine nx_iload_n F 54 rfl dX1_mod3_53 0 rfl ?_
  refine nx_iconst F 55 rfl (v := (-1)) dX1_mod3_54 (by decide +kernel) ?_
  refine nx_ixor F 56 rfl (v := ((nI n4 - nI 3) >>> (nI 31 &&& 31) ^^^ (-1))) dX1_mod3_55 rfl ?_
  refine nx_iload_n F 57 rfl dX1_mod3_56 1 rfl ?_
  refine nx_iand F 58 rfl (v := (((nI n4 - nI 3) >>> (nI 31 &&& 31) ^^^ (-1)) &&& (nI n4 - nI 3))) dX1_mod3_57 rfl ?_
  refine nx_ixor F 59 rfl (v := nI (n4 % 3)) dX1_mod3_58 (nt_m3_e ⟨n4, Nat.lt_succ_of_le hr.1⟩) ?_
  refine nx_i2s F 60 rfl (v := nI (n4 % 3)) dX1_mod3_59 (nt_s16_N h3) ?_
  have hnw : narrow .short (.int (nI (n4 % 3))) = .int (nI (n4 % 3)) := by rw [← nt_s16_N h3]; exact pk_ns _
  exact hret dX1_mod3_60 hnw (Nat.le_refl 0) (Nat.le_refl 0) (nt_nI (hr.2.trans (by rw [hn0]; rfl)))
end
section
set_option maxHeartbeats 4000000 in
set_option maxRecDepth 100000 in
/-- modQPhiN: the last coefficient is taken off -/
theorem met_X1_modQPhiN (l : Launch) (D : va_G) (cI cS cP : ClassId) {L : List Nat} {f : Nat → va_E} {p c q : Nat} {g : Nat → Int32} (hp : nt_poly cS L f p c q g) :
    nt_Mv l yX1_modQPhiN (ws_ yX1_modQPhiN cX1_modQPhiN 3 none) ({ frames := 1, cells := 0, slots := 0, locals := 20 } : Room) D cI cS cP [.ref p] L f (fun L' f' => L' = L ∧ ∃ g' : Nat → Int32, f' = va_up f c (.inl (cS, 509, .inl g')) ∧ ∀ k, k < 509 → g' k = nt_s16 (g k - g 508)) 0 0 := by
  refine nt_enterV (own := RX1) _ (by decide) rfl [(0, .ref p)] rfl (Nat.le_of_ble_eq_true rfl) (fun G F hn hret => ?_)
  refine nx_aload_n F 1 rfl dX1_modQPhiN_0 0 rfl ?_
  refine nx_get F 4 rfl dX1_modQPhiN_1 (nt_in1 hp.1 hp.2.2.2.1) in_X2 rfl 1 (by decide) q66 rfl rfl ?_
  refine nx_iU1 (st := []) (n := 0) F 7 rfl [] dX1_modQPhiN_4 q59 q61 q62 q60 q5 q63 (by decide +kernel) ({ frames := 0, cells := 0, slots := 0, locals := 0 } : Room) rfl rfl ⟨(Nat.le_of_ble_eq_true rfl), (Nat.le_of_ble_eq_true rfl)⟩ ⟨(Nat.le_of_ble_eq_true rfl), (Nat.le_of_ble_eq_true rfl)⟩ (nt_in1 hp.2.2.1 hp.2.2.2.2.2) rfl (met_X3_n l D cI cS cP hp.2.2.1 hp.2.2.2.2.2) rfl rfl (Nat.le_of_ble_eq_true rfl) (fun r L' f' hr => ?_)
  obtain ⟨hr1, hr2, hr3⟩ := hr
  rw [hr1, hr2, hr3]
  refine nx_wide (kc' := 0) (ks' := 0) (Nat.le_refl 0) (Nat.le_refl 0) ?_
  refine nx_istore_n F 8 rfl dX1_modQPhiN_7 (by decide) [(1, .int (nI 509)), (0, .ref p)] rfl ?_
  refine nx_iconst F 9 rfl (v := nI 0) dX1_modQPhiN_8 (by decide +kernel) ?_
  refine nx_istore_n F 10 rfl dX1_modQPhiN_9 (by decide) [(2, .int (nI 0)), (1, .int (nI 509)), (0, .ref p)] rfl ?_
  refine nx_f (va_up f c (.inl (cS, 509, .inl (nt_w 0 0 (fun k => nt_s16 (g k - g 508)) g)))) (by rw [nt_w_0]; exact nt_up_id hp.2.2.2.2.1) ?_
  refine nt_up (fun i => nt_X l ({ frames := 1, cells := 0, slots := 0, locals := 20 } : Room) D 3 G L (va_up f c (.inl (cS, 509, .inl (nt_w 0 i (fun k => nt_s16 (g k - g 508)) g)))) [] f 0 0 [(2, .int (nI i)), (1, .int (nI 509)), (0, .ref p)] 10 []) 509 ?_ ?_
  · refine nx_iload_n F 11 rfl dX1_modQPhiN_10 0 rfl ?_
    refine nx_iload_n F 12 rfl dX1_modQPhiN_11 1 rfl ?_
    refine nx_ge F 15 43 rfl dX1_modQPhiN_12 (by decide) (by omega) (by omega) (fun _ => ?_) (fun hh => absurd hh (by omega))
    exact hret dX1_modQPhiN_43 (Nat.le_refl 0) (Nat.le_refl 0) ⟨rfl, _, rfl, fun k hk => nt_w_at0 hk⟩
  · intro i qi ih
    refine nx_iload_n F 11 rfl dX1_modQPhiN_10 0 rfl ?_
    refine nx_iload_n F 12 rfl dX1_modQPhiN_11 1 rfl ?_
    refine nx_ge F 15 43 rfl dX1_modQPhiN_12 (by decide) (by omega) (by omega) (fun hh => absurd hh (by omega)) (fun _ => ?_)
    refine nx_aload_n F 16 rfl dX1_modQPhiN_15 2 rfl ?_
    refine nx_get F 19 rfl dX1_modQPhiN_16 (nt_in1 hp.1 ((va_up_ne _ _ hp.pc).trans hp.2.2.2.1)) in_X2 rfl 0 (by decide) q64 rfl rfl ?_
    refine nx_iload_n F 20 rfl dX1_modQPhiN_19 0 rfl ?_
    refine nx_aload_n F 21 rfl dX1_modQPhiN_20 2 rfl ?_
    refine nx_get F 24 rfl dX1_modQPhiN_21 (nt_in1 hp.1 ((va_up_ne _ _ hp.pc).trans hp.2.2.2.1)) in_X2 rfl 0 (by decide) q64 rfl rfl ?_
    refine nx_iload_n F 25 rfl dX1_modQPhiN_24 0 rfl ?_
    refine nx_sld F 26 rfl dX1_modQPhiN_25 (v := g i) (nt_in1 hp.2.1 (va_up_self _ _ _)) (show i < 509 by omega) (by decide) (nt_w_out (by omega)) ?_
    refine nx_aload_n F 27 rfl dX1_modQPhiN_26 2 rfl ?_
    refine nx_get F 30 rfl dX1_modQPhiN_27 (nt_in1 hp.1 ((va_up_ne _ _ hp.pc).trans hp.2.2.2.1)) in_X2 rfl 0 (by decide) q64 rfl rfl ?_
    refine nx_iload_n F 31 rfl dX1_modQPhiN_30 1 rfl ?_
    refine nx_iconst F 32 rfl (v := nI 1) dX1_modQPhiN_31 (by decide +kernel) ?_
    refine nx_isub F 33 rfl dX1_modQPhiN_32 (nt_subN (show 508 + 1 = 509 by omega)) ?_
    refine nx_sld F 34 rfl dX1_modQPhiN_33 (v := g 508) (nt_in1 hp.2.1 (va_up_self _ _ _)) (show 508 < 509 by omega) (by decide) (nt_w_out (by omega)) ?_
    refine nx_isub F 35 rfl dX1_modQPhiN_34 rfl ?_
    refine nx_i2s F 36 rfl (v := (nt_s16 (g i - g 508))) dX1_modQPhiN_35 rfl ?_
    refine nx_sst F 37 rfl dX1_modQPhiN_36 hp.2.1 (va_up_self _ _ _) (show i < 509 by omega) (by decide) (va_up f c (.inl (cS, 509, .inl (nt_w 0 (i + 1) (fun k => nt_s16 (g k - g 508)) g)))) (by rw [bx_uu, nt_w_s 0 i (fun k => nt_s16 (g k - g 508)) g (p := i) (v := nt_s16 (nt_s16 (g i - g 508))) (Nat.zero_add i).symm (nt_s16_i _)]) ?_
    refine nx_iinc F 40 rfl dX1_modQPhiN_37 0 rfl (nI_1 _) (by decide) [(2, .int (nI (i + 1))), (1, .int (nI 509)), (0, .ref p)] rfl ?_
    refine nx_goto F 10 dX1_modQPhiN_40 (by decide) ?_
    exact ih

set_option maxHeartbeats 4000000 in
set_option maxRecDepth 100000 in
/-- mod3PhiN: twice the last coefficient is added, modulo 3 -/
theorem met_X1_mod3PhiN (l : Launch) (D : va_G) (cI cS cP : ClassId) {L : List Nat} {f : Nat → va_E} {p c q : Nat} {g : Nat → Int32} (hp : nt_poly cS L f p c q g) :
    nt_Mv l yX1_mod3PhiN (ws_ yX1_mod3PhiN cX1_mod3PhiN 3 none) ({ frames := 1, cells := 0, slots := 0, locals := 23 } : Room) D cI cS cP [.ref p] L f (fun L' f' => L' = L ∧ ∃ g' : Nat → Int32, f' = va_up f c (.inl (cS, 509, .inl g')) ∧ ∀ k, k < 509 → g' k = nI (nt_m3 (nt_s16 (g k + nI 2 * g 508)))) 0 0 := by
  refine nt_enterV (own := RX1) _ (by decide) rfl [(0, .ref p)] rfl (Nat.le_of_ble_eq_true rfl) (fun G F hn hret => ?_)
  refine nx_aload_n F 1 rfl dX1_mod3PhiN_0 0 rfl ?_
  refine nx_get F 4 rfl dX1_mod3PhiN_1 (nt_in1 hp.1 hp.2.2.2.1) in_X2 rfl 1 (by decide) q66 rfl rfl ?_
  refine nx_iU1 (st := []) (n := 0) F 7 rfl [] dX1_mod3PhiN_4 q59 q61 q62 q60 q5 q63 (by decide +kernel) ({ frames := 0, cells := 0, slots := 0, locals := 0 } : Room) rfl rfl ⟨(Nat.le_of_ble_eq_true rfl), (Nat.le_of_ble_eq_true rfl)⟩ ⟨(Nat.le_of_ble_eq_true rfl), (Nat.le_of_ble_eq_true rfl)⟩ (nt_in1 hp.2.2.1 hp.2.2.2.2.2) rfl (met_X3_n l D cI cS cP hp.2.2.1 hp.2.2.2.2.2) rfl rfl (Nat.le_of_ble_eq_true rfl) (fun r L' f' hr => ?_)
  obtain ⟨hr1, hr2, hr3⟩ := hr
  rw [hr1, hr2, hr3]
  refine nx_wide (kc' := 0) (ks' := 0) (Nat.le_refl 0) (Nat.le_refl 0) ?_
  refine nx_istore_n F 8 rfl dX1_mod3PhiN_7 (by decide) [(1, .int (nI 509)), (0, .ref p)] rfl ?_
  refine nx_iconst F 9 rfl (v := nI 0) dX1_mod3PhiN_8 (by decide +kernel) ?_
  refine nx_istore_n F 10 rfl dX1_mod3PhiN_9 (by decide) [(2, .int (nI 0)), (1, .int (nI 509)), (0, .ref p)] rfl ?_
  refine nx_f (va_up f c (.inl (cS, 509, .inl (nt_w 0 0 (fun k => nI (nt_m3 (nt_s16 (g k + nI 2 * g 508)))) g)))) (by rw [nt_w_0]; exact nt_up_id hp.2.2.2.2.1) ?_
  refine nt_up (fun i => nt_X l ({ frames := 1, cells := 0, slots := 0, locals := 23 } : Room) D 3 G L (va_up f c (.inl (cS, 509, .inl (nt_w 0 i (fun k => nI (nt_m3 (nt_s16 (g k + nI 2 * g 508)))) g)))) [] f 0 0 [(2, .int (nI i)), (1, .int (nI 509)), (0, .ref p)] 10 []) 509 ?_ ?_
  · refine nx_iload_n F 11 rfl dX1_mod3PhiN_10 0 rfl ?_
    refine nx_iload_n F 12 rfl dX1_mod3PhiN_11 1 rfl ?_
    refine nx_ge F 15 48 rfl dX1_mod3PhiN_12 (by decide) (by omega) (by omega) (fun _ => ?_) (fun hh => absurd hh (by omega))
    exact hret dX1_mod3PhiN_48 (Nat.le_refl 0) (Nat.le_refl 0) ⟨rfl, _, rfl, fun k hk => nt_w_at0 hk⟩
  · intro i qi ih
    refine nx_iload_n F 11 rfl dX1_mod3PhiN_10 0 rfl ?_
    refine nx_iload_n F 12 rfl dX1_mod3PhiN_11 1 rfl ?_
    refine nx_ge F 15 48 rfl dX1_mod3PhiN_12 (by decide) (by omega) (by omega) (fun hh => absurd hh (by omega)) (fun _ => ?_)
    refine nx_aload_n F 16 rfl dX1_mod3PhiN_15 2 rfl ?_
    refine nx_get F 19 rfl dX1_mod3PhiN_16 (nt_in1 hp.1 ((va_up_ne _ _ hp.pc).trans hp.2.2.2.1)) in_X2 rfl 0 (by decide) q64 rfl rfl ?_
    refine nx_iload_n F 20 rfl dX1_mod3PhiN_19 0 rfl ?_
    refine nx_aload_n F 21 rfl dX1_mod3PhiN_20 2 rfl ?_
    refine nx_get F 24 rfl dX1_mod3PhiN_21 (nt_in1 hp.1 ((va_up_ne _ _ hp.pc).trans hp.2.2.2.1)) in_X2 rfl 0 (by decide) q64 rfl rfl ?_
    refine nx_iload_n F 25 rfl dX1_mod3PhiN_24 0 rfl ?_
    refine nx_sld F 26 rfl dX1_mod3PhiN_25 (v := g i) (nt_in1 hp.2.1 (va_up_self _ _ _)) (show i < 509 by omega) (by decide) (nt_w_out (by omega)) ?_
    refine nx_iconst F 27 rfl (v := nI 2) dX1_mod3PhiN_26 (by decide +kernel) ?_
    refine nx_aload_n F 28 rfl dX1_mod3PhiN_27 2 rfl ?_
    refine nx_get F 31 rfl dX1_mod3PhiN_28 (nt_in1 hp.1 ((va_up_ne _ _ hp.pc).trans hp.2.2.2.1)) in_X2 rfl 0 (by decide) q64 rfl rfl ?_
    refine nx_iload_n F 32 rfl dX1_mod3PhiN_31 1 rfl ?_
    refine nx_iconst F 33 rfl (v := nI 1) dX1_mod3PhiN_32 (by decide +kernel) ?_
    refine nx_isub F 34 rfl dX1_mod3PhiN_33 (nt_subN (show 508 + 1 = 509 by omega)) ?_
    refine nx_sld F 35 rfl dX1_mod3PhiN_34 (v := g 508) (nt_in1 hp.2.1 (va_up_self _ _ _)) (show 508 < 509 by omega) (by decide) (nt_w_out (by omega)) ?_
    refine nx_imul F 36 rfl dX1_mod3PhiN_35 rfl ?_
    refine nx_iadd F 37 rfl dX1_mod3PhiN_36 rfl ?_
    refine nx_i2s F 38 rfl (v := (nt_s16 (g i + nI 2 * g 508))) dX1_mod3PhiN_37 rfl ?_
    refine nx_iS (st := [.int (nI i), .ref c]) (n := 1) F 41 rfl [.int (nt_s16 (g i + nI 2 * g 508))] dX1_mod3PhiN_38 q141 q142 q3 q143 (by decide +kernel) ({ frames := 0, cells := 0, slots := 0, locals := 0 } : Room) rfl rfl ⟨(Nat.le_of_ble_eq_true rfl), (Nat.le_of_ble_eq_true rfl)⟩ ⟨(Nat.le_of_ble_eq_true rfl), (Nat.le_of_ble_eq_true rfl)⟩ (met_X1_mod3 (f0 := f) l D cI cS cP (nt_s16 (g i + nI 2 * g 508))) rfl rfl (Nat.le_of_ble_eq_true rfl) (fun r L' f' hr => ?_)
    rw [hr]
    refine nx_sst F 42 rfl dX1_mod3PhiN_41 hp.2.1 (va_up_self _ _ _) (show i < 509 by omega) (by decide) (va_up f c (.inl (cS, 509, .inl (nt_w 0 (i + 1) (fun k => nI (nt_m3 (nt_s16 (g k + nI 2 * g 508)))) g)))) (by rw [bx_uu, nt_w_s 0 i (fun k => nI (nt_m3 (nt_s16 (g k + nI 2 * g 508)))) g (p := i) (v := nt_s16 (nI (nt_m3 (nt_s16 (g i + nI 2 * g 508))))) (Nat.zero_add i).symm (nt_s16_N (by have := nt_m3_lt (nt_s16 (g i + nI 2 * g 508)); omega))]) ?_
    refine nx_iinc F 45 rfl dX1_mod3PhiN_42 0 rfl (nI_1 _) (by decide) [(2, .int (nI (i + 1))), (1, .int (nI 509)), (0, .ref p)] rfl ?_
    refine nx_goto F 10 dX1_mod3PhiN_45 (by decide) ?_
    exact ih
end
section
/-- the cyclic product of two rows, over Int32 -/
def nt_C (ga gb : Nat → Int32) (k : Nat) : Int32 := nt_pc (nt_sl ga 0 509) (nt_sl gb 0 509) k + nt_pc (nt_sl ga 0 509) (nt_sl gb 0 509) (k + 509)
set_option maxHeartbeats 4000000 in
set_option maxRecDepth 100000 in
/-- rqMul: the product's coefficients, each cut to a short -/
theorem met_X1_rqMul (l : Launch) (D : va_G) (cI cS cP : ClassId) {L : List Nat} {f : Nat → va_E} {p cp qp a ca qa b cb qb : Nat} {gp ga gb : Nat → Int32} (hp : nt_poly cS L f p cp qp gp) (ha : nt_poly cS L f a ca qa ga) (hb : nt_poly cS L f b cb qb gb) :
    nt_Mv l yX1_rqMul (ws_ yX1_rqMul cX1_rqMul 12 none) ({ frames := 5, cells := 4, slots := 6617, locals := 190 } : Room) D cI cS cP [.ref p, .ref a, .ref b] L f (fun L' f' => L' = L ∧ ∃ g' : Nat → Int32, f' = va_up f cp (.inl (cS, 509, .inl g')) ∧ ∀ k, k < 509 → g' k = nt_s16 (nt_C ga gb k)) 4 6617 := by
  refine nt_enterV (own := RX1) _ (by decide) rfl [(0, .ref p), (1, .ref a), (2, .ref b)] rfl (Nat.le_of_ble_eq_true rfl) (fun G F hn hret => ?_)
  refine nx_aload_n F 1 rfl dX1_rqMul_0 1 rfl ?_
  refine nx_get F 4 rfl dX1_rqMul_1 (nt_in1 ha.1 ha.2.2.2.1) in_X2 rfl 0 (by decide) q64 rfl rfl ?_
  refine nx_astore_n F 5 rfl dX1_rqMul_4 (by decide) [(3, .ref ca), (0, .ref p), (1, .ref a), (2, .ref b)] rfl ?_
  refine nx_aload_n F 6 rfl dX1_rqMul_5 3 rfl ?_
  refine nx_get F 9 rfl dX1_rqMul_6 (nt_in1 hb.1 hb.2.2.2.1) in_X2 rfl 0 (by decide) q64 rfl rfl ?_
  refine nx_astore F 11 rfl dX1_rqMul_9 (by decide) [(4, .ref cb), (3, .ref ca), (0, .ref p), (1, .ref a), (2, .ref b)] rfl ?_
  refine nx_aload_n F 12 rfl dX1_rqMul_11 2 rfl ?_
  refine nx_get F 15 rfl dX1_rqMul_12 (nt_in1 hp.1 hp.2.2.2.1) in_X2 rfl 0 (by decide) q64 rfl rfl ?_
  refine nx_astore F 17 rfl dX1_rqMul_15 (by decide) [(5, .ref cp), (4, .ref cb), (3, .ref ca), (0, .ref p), (1, .ref a), (2, .ref b)] rfl ?_
  refine nx_aload F 19 rfl dX1_rqMul_17 0 rfl ?_
  refine nx_alen F 20 rfl dX1_rqMul_19 (nt_in1 hp.2.1 hp.2.2.2.2.1) ?_
  refine nx_istore F 22 rfl dX1_rqMul_20 (by decide) [(6, .int (nI 509)), (5, .ref cp), (4, .ref cb), (3, .ref ca), (0, .ref p), (1, .ref a), (2, .ref b)] rfl ?_
  refine nx_iload F 24 rfl dX1_rqMul_22 0 rfl ?_
  refine nx_newI2 F 26 rfl dX1_rqMul_24 (by decide) ⟨(Nat.le_of_ble_eq_true rfl), (Nat.le_of_ble_eq_true rfl)⟩ (fun ai hai => ?_)
  refine nx_astore F 28 rfl dX1_rqMul_26 (by decide) [(7, .ref ai), (6, .int (nI 509)), (5, .ref cp), (4, .ref cb), (3, .ref ca), (0, .ref p), (1, .ref a), (2, .ref b)] rfl ?_
  refine nx_iload F 30 rfl dX1_rqMul_28 1 rfl ?_
  refine nx_newI2 F 32 rfl dX1_rqMul_30 (by decide) ⟨(Nat.le_of_ble_eq_true rfl), (Nat.le_of_ble_eq_true rfl)⟩ (fun bi hbi => ?_)
  have nab : ai ≠ bi := fun h => hbi (h ▸ List.mem_append_right _ List.mem_cons_self)
  have mai : ai ∈ ([] ++ [ai]) ++ [bi] := List.mem_append_left _ (List.mem_append_right _ List.mem_cons_self)
  have mbi : bi ∈ ([] ++ [ai]) ++ [bi] := List.mem_append_right _ List.mem_cons_self
  refine nx_astore F 34 rfl dX1_rqMul_32 (by decide) [(8, .ref bi), (7, .ref ai), (6, .int (nI 509)), (5, .ref cp), (4, .ref cb), (3, .ref ca), (0, .ref p), (1, .ref a), (2, .ref b)] rfl ?_
  refine nx_iconst F 35 rfl (v := nI 0) dX1_rqMul_34 (by decide +kernel) ?_
  refine nx_istore F 37 rfl dX1_rqMul_35 (by decide) [(9, .int (nI 0)), (8, .ref bi), (7, .ref ai), (6, .int (nI 509)), (5, .ref cp), (4, .ref cb), (3, .ref ca), (0, .ref p), (1, .ref a), (2, .ref b)] rfl ?_
  refine nx_pool2 (nt_im cI (fun _ => 509) (fun _ _ => 0)) (fun z hz => ?_) ?_
  · rcases List.mem_append.mp hz with hz | hz
    · rw [List.mem_singleton.mp hz, va_up_ne _ _ nab, va_up_self]
      rfl
    · rw [List.mem_singleton.mp hz, va_up_self]
      rfl
  refine nx_f2 (nt_im cI (fun _ => 509) (nt_wr (nt_wr (fun _ _ => 0) ai 0 0 ga) bi 0 0 gb)) (by rw [nt_wr_0 _ bi, nt_wr_0 _ ai]) ?_
  refine nt_up (fun i => nt_X l ({ frames := 5, cells := 4, slots := 6617, locals := 190 } : Room) D 12 G L f (([] ++ [ai]) ++ [bi]) (nt_im cI (fun _ => 509) (nt_wr (nt_wr (fun _ _ => 0) ai 0 i ga) bi 0 i gb)) 2 1018 [(9, .int (nI i)), (8, .ref bi), (7, .ref ai), (6, .int (nI 509)), (5, .ref cp), (4, .ref cb), (3, .ref ca), (0, .ref p), (1, .ref a), (2, .ref b)] 37 []) 509 ?_ ?_
  · refine nx_iload F 39 rfl dX1_rqMul_37 0 rfl ?_
    refine nx_iload F 41 rfl dX1_rqMul_39 3 rfl ?_
    refine nx_ge F 44 69 rfl dX1_rqMul_41 (by decide) (by omega) (by omega) (fun _ => ?_) (fun hh => absurd hh (by omega))
    refine nx_iconst F 70 rfl (v := nI 2) dX1_rqMul_69 (by decide +kernel) ?_
    refine nx_iload F 72 rfl dX1_rqMul_70 3 rfl ?_
    refine nx_imul F 73 rfl dX1_rqMul_72 (nt_mulN (show 2 * 509 = 2 * 509 by omega)) ?_
    refine nx_newI2 F 75 rfl dX1_rqMul_73 (by decide) ⟨(Nat.le_of_ble_eq_true rfl), (Nat.le_of_ble_eq_true rfl)⟩ (fun li hli => ?_)
    refine nx_astore F 77 rfl dX1_rqMul_75 (by decide) [(9, .ref li), (8, .ref bi), (7, .ref ai), (6, .int (nI 509)), (5, .ref cp), (4, .ref cb), (3, .ref ca), (0, .ref p), (1, .ref a), (2, .ref b)] rfl ?_
    refine nx_bipush F 79 rfl (v := nI 9) dX1_rqMul_77 (by decide +kernel) ?_
    refine nx_iload F 81 rfl dX1_rqMul_79 3 rfl ?_
    refine nx_imul F 82 rfl dX1_rqMul_81 (nt_mulN (show 9 * 509 = 9 * 509 by omega)) ?_
    refine nx_newI2 F 84 rfl dX1_rqMul_82 (by decide) ⟨(Nat.le_of_ble_eq_true rfl), (Nat.le_of_ble_eq_true rfl)⟩ (fun tt htt => ?_)
    have nla : ai ≠ li := fun h => hli (h ▸ mai)
    have nlb : bi ≠ li := fun h => hli (h ▸ mbi)
    have nta : ai ≠ tt := fun h => htt (h ▸ List.mem_append_left _ mai)
    have ntb : bi ≠ tt := fun h => htt (h ▸ List.mem_append_left _ mbi)
    have ntl : li ≠ tt := fun h => htt (h ▸ List.mem_append_right _ List.mem_cons_self)
    obtain ⟨LL, hLL⟩ : ∃ z : List Nat, z = (([] ++ [ai]) ++ [bi]) ++ [li] ++ [tt] := ⟨_, rfl⟩
    have Mai : ai ∈ LL := by rw [hLL]; exact List.mem_append_left _ (List.mem_append_left _ mai)
    have Mbi : bi ∈ LL := by rw [hLL]; exact List.mem_append_left _ (List.mem_append_left _ mbi)
    have Mli : li ∈ LL := by rw [hLL]; exact List.mem_append_left _ (List.mem_append_right _ List.mem_cons_self)
    have Mtt : tt ∈ LL := by rw [hLL]; exact List.mem_append_right _ List.mem_cons_self
    obtain ⟨ln, hln⟩ : ∃ z : Nat → Nat, z = fun q => if q = li then 1018 else if q = tt then 4581 else 509 := ⟨_, rfl⟩
    have lai : ln ai = 509 := by rw [hln]; exact (if_neg nla).trans (if_neg nta)
    have lbi : ln bi = 509 := by rw [hln]; exact (if_neg nlb).trans (if_neg ntb)
    have lli : ln li = 1018 := by rw [hln]; exact if_pos rfl
    have ltt : ln tt = 4581 := by rw [hln]; exact (if_neg ntl.symm).trans (if_pos rfl)
    have lall : ∀ q, q ∈ LL → ln q < 100000 := fun q _ => by rw [hln]; dsimp only; split <;> (try split) <;> omega
    obtain ⟨M2, hM2⟩ : ∃ z : nt_M, z = fun q j => if q = li ∨ q = tt then 0 else (nt_wr (nt_wr (fun _ _ => 0) ai 0 509 ga) bi 0 509 gb) q j := ⟨_, rfl⟩
    have m2a : ∀ k, k < 509 → M2 ai k = ga k := fun k hk => by
      rw [hM2]
      show (if ai = li ∨ ai = tt then 0 else (nt_wr (nt_wr (fun _ _ => 0) ai 0 509 ga) bi 0 509 gb) ai k) = ga k
      rw [if_neg (by omega), nt_wr_out (by omega), nt_wr_at0 hk]
    have m2b : ∀ k, k < 509 → M2 bi k = gb k := fun k hk => by
      rw [hM2]
      show (if bi = li ∨ bi = tt then 0 else (nt_wr (nt_wr (fun _ _ => 0) ai 0 509 ga) bi 0 509 gb) bi k) = gb k
      rw [if_neg (by omega), nt_wr_at0 hk]
    have m2l : ∀ k, M2 li k = 0 := fun k => by
      rw [hM2]
      exact if_pos (Or.inl rfl)
    refine nx_pool2 (nt_im cI ln M2) (fun z hz => ?_) ?_
    · have hz1 : z ≠ tt → z ≠ li → ln z = 509 ∧ ∀ k, M2 z k = (nt_wr (nt_wr (fun _ _ => 0) ai 0 509 ga) bi 0 509 gb) z k := fun h1 h2 => ⟨by rw [hln]; exact (if_neg h2).trans (if_neg h1), fun k => by rw [hM2]; exact if_neg (by omega)⟩
      by_cases h1 : z = tt
      · rw [h1, va_up_self]
        exact nt_arr ltt.symm (fun k => by rw [hM2]; exact (if_pos (Or.inr rfl)).symm)
      · rw [va_up_ne _ _ h1]
        by_cases h2 : z = li
        · rw [h2, va_up_self]
          exact nt_arr lli.symm (fun k => (m2l k).symm)
        · rw [va_up_ne _ _ h2]
          exact nt_arr (hz1 h1 h2).1.symm (fun k => ((hz1 h1 h2).2 k).symm)
    rw [← hLL]
    refine nx_astore F 86 rfl dX1_rqMul_84 (by decide) [(10, .ref tt), (9, .ref li), (8, .ref bi), (7, .ref ai), (6, .int (nI 509)), (5, .ref cp), (4, .ref cb), (3, .ref ca), (0, .ref p), (1, .ref a), (2, .ref b)] rfl ?_
    refine nx_aload F 88 rfl dX1_rqMul_86 1 rfl ?_
    refine nx_iconst F 89 rfl (v := nI 0) dX1_rqMul_88 (by decide +kernel) ?_
    refine nx_aload F 91 rfl dX1_rqMul_89 3 rfl ?_
    refine nx_iconst F 92 rfl (v := nI 0) dX1_rqMul_91 (by decide +kernel) ?_
    refine nx_aload F 94 rfl dX1_rqMul_92 2 rfl ?_
    refine nx_iconst F 95 rfl (v := nI 0) dX1_rqMul_94 (by decide +kernel) ?_
    refine nx_iload F 97 rfl dX1_rqMul_95 4 rfl ?_
    refine nx_aload F 99 rfl dX1_rqMul_97 0 rfl ?_
    refine nx_iconst F 100 rfl (v := nI 0) dX1_rqMul_99 (by decide +kernel) ?_
    have hkm := met_kMul l D cI cS cP 4 (L := LL) (ln := ln) (M := M2) (r := li) (rOff := 0) (ul := 1017) (a := ai) (aOff := 0) (b := bi) (bOff := 0) (len := 509) (t := tt) (tOff := 0) Mli Mai Mbi Mtt lall (by omega) (by omega) (by omega) (by omega) (by omega) (Or.inl ntl) (Or.inl nta) (Or.inl ntb) (Or.inl nla.symm) (Or.inl nlb.symm) (by decide)
    refine nx_vS2 (st := []) (n := 9) F 103 rfl [.ref li, .int (nI 0), .ref ai, .int (nI 0), .ref bi, .int (nI 0), .int (nI 509), .ref tt, .int (nI 0)] dX1_rqMul_100 q105 q106 q3 q107 (by decide +kernel) ({ frames := 4, cells := 0, slots := 0, locals := 38 * 4 } : Room) rfl rfl ⟨(Nat.le_of_ble_eq_true rfl), (Nat.le_of_ble_eq_true rfl)⟩ ⟨(Nat.le_of_ble_eq_true rfl), (Nat.le_of_ble_eq_true rfl)⟩ (hkm) rfl rfl (Nat.le_of_ble_eq_true rfl) (fun L' f' hk => ?_)
    obtain ⟨hk1, M3, hk2, hk⟩ := hk
    rw [hk1, hk2]
    have hlin : ∀ k, k < 1018 → M3 li k = nt_pc (nt_sl ga 0 509) (nt_sl gb 0 509) k := fun k hk9 => by
      have e1 : nt_sl (M2 ai) 0 509 = nt_sl ga 0 509 := nt_sl_congr (fun i hi => by rw [Nat.zero_add]; exact m2a i hi)
      have e2 : nt_sl (M2 bi) 0 509 = nt_sl gb 0 509 := nt_sl_congr (fun i hi => by rw [Nat.zero_add]; exact m2b i hi)
      by_cases h : k < 1017
      · have e3 := hk.1 k (by omega)
        rw [Nat.zero_add, e1, e2] at e3
        exact e3
      · rw [hk.2 li k (by omega) (by omega), m2l, nt_pc_van (n := 509) (k := 509) (fun i hi => nt_sl_ge hi) (fun i hi => nt_sl_ge hi) (by omega)]
    refine nx_wide (kc' := 4) (ks' := 6617) (Nat.le_of_ble_eq_true rfl) (Nat.le_of_ble_eq_true rfl) ?_
    refine nx_iconst F 104 rfl (v := nI 0) dX1_rqMul_103 (by decide +kernel) ?_
    refine nx_istore F 106 rfl dX1_rqMul_104 (by decide) [(11, .int (nI 0)), (10, .ref tt), (9, .ref li), (8, .ref bi), (7, .ref ai), (6, .int (nI 509)), (5, .ref cp), (4, .ref cb), (3, .ref ca), (0, .ref p), (1, .ref a), (2, .ref b)] rfl ?_
    refine nx_f (va_up f cp (.inl (cS, 509, .inl (nt_w 0 0 (fun k => nt_s16 (nt_C ga gb k)) gp)))) (by rw [nt_w_0]; exact nt_up_id hp.2.2.2.2.1) ?_
    refine nt_up (fun i => nt_X l ({ frames := 5, cells := 4, slots := 6617, locals := 190 } : Room) D 12 G L (va_up f cp (.inl (cS, 509, .inl (nt_w 0 i (fun k => nt_s16 (nt_C ga gb k)) gp)))) LL (nt_im cI ln M3) 4 6617 [(11, .int (nI i)), (10, .ref tt), (9, .ref li), (8, .ref bi), (7, .ref ai), (6, .int (nI 509)), (5, .ref cp), (4, .ref cb), (3, .ref ca), (0, .ref p), (1, .ref a), (2, .ref b)] 106 []) 509 ?_ ?_
    · refine nx_iload F 108 rfl dX1_rqMul_106 0 rfl ?_
      refine nx_iload F 110 rfl dX1_rqMul_108 5 rfl ?_
      refine nx_ge F 113 139 rfl dX1_rqMul_110 (by decide) (by omega) (by omega) (fun _ => ?_) (fun hh => absurd hh (by omega))
      exact hret dX1_rqMul_139 (Nat.le_refl 4) (Nat.le_refl 6617) ⟨rfl, _, rfl, fun k hk => nt_w_at0 hk⟩
    · intro i qi ih
      refine nx_iload F 108 rfl dX1_rqMul_106 0 rfl ?_
      refine nx_iload F 110 rfl dX1_rqMul_108 5 rfl ?_
      refine nx_ge F 113 139 rfl dX1_rqMul_110 (by decide) (by omega) (by omega) (fun hh => absurd hh (by omega)) (fun _ => ?_)
      refine nx_aload F 115 rfl dX1_rqMul_113 6 rfl ?_
      refine nx_iload F 117 rfl dX1_rqMul_115 0 rfl ?_
      refine nx_aload F 119 rfl dX1_rqMul_117 2 rfl ?_
      refine nx_iload F 121 rfl dX1_rqMul_119 0 rfl ?_
      refine nx_mld2 F 122 rfl dX1_rqMul_121 (v := nt_pc (nt_sl ga 0 509) (nt_sl gb 0 509) i) Mli (show i < ln li by omega) (lall li Mli) (hlin i (by omega)) ?_
      refine nx_aload F 124 rfl dX1_rqMul_122 2 rfl ?_
      refine nx_iload F 126 rfl dX1_rqMul_124 0 rfl ?_
      refine nx_iload F 128 rfl dX1_rqMul_126 5 rfl ?_
      refine nx_iadd F 129 rfl dX1_rqMul_128 (nt_addN (show i + 509 = i + 509 by omega)) ?_
      refine nx_mld2 F 130 rfl dX1_rqMul_129 (v := nt_pc (nt_sl ga 0 509) (nt_sl gb 0 509) (i + 509)) Mli (show i + 509 < ln li by omega) (lall li Mli) (hlin (i + 509) (by omega)) ?_
      refine nx_iadd F 131 rfl dX1_rqMul_130 rfl ?_
      refine nx_i2s F 132 rfl (v := (nt_s16 (nt_C ga gb i))) dX1_rqMul_131 rfl ?_
      refine nx_sst F 133 rfl dX1_rqMul_132 hp.2.1 (va_up_self _ _ _) (show i < 509 by omega) (by decide) (va_up f cp (.inl (cS, 509, .inl (nt_w 0 (i + 1) (fun k => nt_s16 (nt_C ga gb k)) gp)))) (by rw [bx_uu, nt_w_s 0 i (fun k => nt_s16 (nt_C ga gb k)) gp (p := i) (v := nt_s16 (nt_s16 (nt_C ga gb i))) (Nat.zero_add i).symm (nt_s16_i _)]) ?_
      refine nx_iinc F 136 rfl dX1_rqMul_133 0 rfl (nI_1 _) (by decide) [(11, .int (nI (i + 1))), (10, .ref tt), (9, .ref li), (8, .ref bi), (7, .ref ai), (6, .int (nI 509)), (5, .ref cp), (4, .ref cb), (3, .ref ca), (0, .ref p), (1, .ref a), (2, .ref b)] rfl ?_
      refine nx_goto F 106 dX1_rqMul_136 (by decide) ?_
      exact ih
  · intro i qi ih
    refine nx_iload F 39 rfl dX1_rqMul_37 0 rfl ?_
    refine nx_iload F 41 rfl dX1_rqMul_39 3 rfl ?_
    refine nx_ge F 44 69 rfl dX1_rqMul_41 (by decide) (by omega) (by omega) (fun hh => absurd hh (by omega)) (fun _ => ?_)
    refine nx_aload F 46 rfl dX1_rqMul_44 2 rfl ?_
    refine nx_iload F 48 rfl dX1_rqMul_46 0 rfl ?_
    refine nx_aload_n F 49 rfl dX1_rqMul_48 6 rfl ?_
    refine nx_iload F 51 rfl dX1_rqMul_49 0 rfl ?_
    refine nx_sld F 52 rfl dX1_rqMul_51 (v := ga i) (nt_in1 ha.2.1 ha.2.2.2.2.1) (show i < 509 by omega) (by decide) rfl ?_
    refine nx_mst2 F 53 rfl dX1_rqMul_52 mai (show i < 509 by omega) (by decide) (nt_wr (nt_wr (fun _ _ => 0) ai 0 (i + 1) ga) bi 0 i gb) (by rw [nt_st_wr _ _ _ _ _ _ _ _ (by omega), nt_wr_s0 _ _ _ _ rfl]) ?_
    refine nx_aload F 55 rfl dX1_rqMul_53 1 rfl ?_
    refine nx_iload F 57 rfl dX1_rqMul_55 0 rfl ?_
    refine nx_aload F 59 rfl dX1_rqMul_57 5 rfl ?_
    refine nx_iload F 61 rfl dX1_rqMul_59 0 rfl ?_
    refine nx_sld F 62 rfl dX1_rqMul_61 (v := gb i) (nt_in1 hb.2.1 hb.2.2.2.2.1) (show i < 509 by omega) (by decide) rfl ?_
    refine nx_mst2 F 63 rfl dX1_rqMul_62 mbi (show i < 509 by omega) (by decide) (nt_wr (nt_wr (fun _ _ => 0) ai 0 (i + 1) ga) bi 0 (i + 1) gb) (nt_wr_s0 _ _ _ _ rfl) ?_
    refine nx_iinc F 66 rfl dX1_rqMul_63 0 rfl (nI_1 _) (by decide) [(9, .int (nI (i + 1))), (8, .ref bi), (7, .ref ai), (6, .int (nI 509)), (5, .ref cp), (4, .ref cb), (3, .ref ca), (0, .ref p), (1, .ref a), (2, .ref b)] rfl ?_
    refine nx_goto F 37 dX1_rqMul_66 (by decide) ?_
    exact ih
end
section
set_option maxHeartbeats 4000000 in
set_option maxRecDepth 100000 in
/-- sqMul: rqMul, then modQPhiN -/
theorem met_X1_sqMul (l : Launch) (D : va_G) (cI cS cP : ClassId) {L : List Nat} {f : Nat → va_E} {p cp qp a ca qa b cb qb : Nat} {gp ga gb : Nat → Int32} (hp : nt_poly cS L f p cp qp gp) (ha : nt_poly cS L f a ca qa ga) (hb : nt_poly cS L f b cb qb gb) :
    nt_Mv l yX1_sqMul (ws_ yX1_sqMul cX1_sqMul 3 none) ({ frames := 6, cells := 4, slots := 6617, locals := 221 } : Room) D cI cS cP [.ref p, .ref a, .ref b] L f (fun L' f' => L' = L ∧ ∃ g' : Nat → Int32, f' = va_up f cp (.inl (cS, 509, .inl g')) ∧ ∀ k, k < 509 → g' k = nt_s16 (nt_s16 (nt_C ga gb k) - nt_s16 (nt_C ga gb 508))) 4 6617 := by
  refine nt_enterV (own := RX1) _ (by decide) rfl [(0, .ref p), (1, .ref a), (2, .ref b)] rfl (Nat.le_of_ble_eq_true rfl) (fun G F hn hret => ?_)
  refine nx_aload_n F 1 rfl dX1_sqMul_0 0 rfl ?_
  refine nx_aload_n F 2 rfl dX1_sqMul_1 1 rfl ?_
  refine nx_aload_n F 3 rfl dX1_sqMul_2 2 rfl ?_
  refine nx_vU1 (st := []) (n := 2) F 6 rfl [.ref a, .ref b] dX1_sqMul_3 q121 q102 q103 q101 q3 q104 (by decide +kernel) ({ frames := 5, cells := 4, slots := 6617, locals := 190 } : Room) rfl rfl ⟨(Nat.le_of_ble_eq_true rfl), (Nat.le_of_ble_eq_true rfl)⟩ ⟨(Nat.le_of_ble_eq_true rfl), (Nat.le_of_ble_eq_true rfl)⟩ (nt_in1 hp.1 hp.2.2.2.1) rfl (met_X1_rqMul l D cI cS cP hp ha hb) rfl rfl (Nat.le_of_ble_eq_true rfl) (fun L' f' hk => ?_)
  obtain ⟨hk1, g1, hk2, hg1⟩ := hk
  rw [hk1, hk2]
  have hp1 := hp.set g1
  refine nx_aload_n F 7 rfl dX1_sqMul_6 0 rfl ?_
  refine nx_vU1 (st := []) (n := 0) F 10 rfl [] dX1_sqMul_7 q122 q124 q125 q123 q3 q126 (by decide +kernel) ({ frames := 1, cells := 0, slots := 0, locals := 20 } : Room) rfl rfl ⟨(Nat.le_of_ble_eq_true rfl), (Nat.le_of_ble_eq_true rfl)⟩ ⟨(Nat.le_of_ble_eq_true rfl), (Nat.le_of_ble_eq_true rfl)⟩ (nt_in1 hp1.1 hp1.2.2.2.1) rfl (met_X1_modQPhiN l D cI cS cP hp1) rfl rfl (Nat.le_of_ble_eq_true rfl) (fun L' f' hk => ?_)
  obtain ⟨hk1, g2, hk2, hg2⟩ := hk
  rw [hk1, hk2, bx_uu]
  exact hret dX1_sqMul_10 (Nat.le_of_ble_eq_true rfl) (Nat.le_of_ble_eq_true rfl) ⟨rfl, g2, rfl, fun k hk => by rw [hg2 k hk, hg1 k hk, hg1 508 (by decide)]⟩

set_option maxHeartbeats 4000000 in
set_option maxRecDepth 100000 in
/-- s3Mul: rqMul, then mod3PhiN -/
theorem met_X1_s3Mul (l : Launch) (D : va_G) (cI cS cP : ClassId) {L : List Nat} {f : Nat → va_E} {p cp qp a ca qa b cb qb : Nat} {gp ga gb : Nat → Int32} (hp : nt_poly cS L f p cp qp gp) (ha : nt_poly cS L f a ca qa ga) (hb : nt_poly cS L f b cb qb gb) :
    nt_Mv l yX1_s3Mul (ws_ yX1_s3Mul cX1_s3Mul 3 none) ({ frames := 6, cells := 4, slots := 6617, locals := 221 } : Room) D cI cS cP [.ref p, .ref a, .ref b] L f (fun L' f' => L' = L ∧ ∃ g' : Nat → Int32, f' = va_up f cp (.inl (cS, 509, .inl g')) ∧ ∀ k, k < 509 → g' k = nI (nt_m3 (nt_s16 (nt_s16 (nt_C ga gb k) + nI 2 * nt_s16 (nt_C ga gb 508))))) 4 6617 := by
  refine nt_enterV (own := RX1) _ (by decide) rfl [(0, .ref p), (1, .ref a), (2, .ref b)] rfl (Nat.le_of_ble_eq_true rfl) (fun G F hn hret => ?_)
  refine nx_aload_n F 1 rfl dX1_s3Mul_0 0 rfl ?_
  refine nx_aload_n F 2 rfl dX1_s3Mul_1 1 rfl ?_
  refine nx_aload_n F 3 rfl dX1_s3Mul_2 2 rfl ?_
  refine nx_vU1 (st := []) (n := 2) F 6 rfl [.ref a, .ref b] dX1_s3Mul_3 q121 q102 q103 q101 q3 q104 (by decide +kernel) ({ frames := 5, cells := 4, slots := 6617, locals := 190 } : Room) rfl rfl ⟨(Nat.le_of_ble_eq_true rfl), (Nat.le_of_ble_eq_true rfl)⟩ ⟨(Nat.le_of_ble_eq_true rfl), (Nat.le_of_ble_eq_true rfl)⟩ (nt_in1 hp.1 hp.2.2.2.1) rfl (met_X1_rqMul l D cI cS cP hp ha hb) rfl rfl (Nat.le_of_ble_eq_true rfl) (fun L' f' hk => ?_)
  obtain ⟨hk1, g1, hk2, hg1⟩ := hk
  rw [hk1, hk2]
  have hp1 := hp.set g1
  refine nx_aload_n F 7 rfl dX1_s3Mul_6 0 rfl ?_
  refine nx_vU1 (st := []) (n := 0) F 10 rfl [] dX1_s3Mul_7 q136 q138 q139 q137 q3 q140 (by decide +kernel) ({ frames := 1, cells := 0, slots := 0, locals := 23 } : Room) rfl rfl ⟨(Nat.le_of_ble_eq_true rfl), (Nat.le_of_ble_eq_true rfl)⟩ ⟨(Nat.le_of_ble_eq_true rfl), (Nat.le_of_ble_eq_true rfl)⟩ (nt_in1 hp1.1 hp1.2.2.2.1) rfl (met_X1_mod3PhiN l D cI cS cP hp1) rfl rfl (Nat.le_of_ble_eq_true rfl) (fun L' f' hk => ?_)
  obtain ⟨hk1, g2, hk2, hg2⟩ := hk
  rw [hk1, hk2, bx_uu]
  exact hret dX1_s3Mul_10 (Nat.le_of_ble_eq_true rfl) (Nat.le_of_ble_eq_true rfl) ⟨rfl, g2, rfl, fun k hk => by rw [hg2 k hk, hg1 k hk, hg1 508 (by decide)]⟩
end
section
/-! ===== the common state: six rows; NtruRing's rows (printed by gen/ring.py) ===== -/
/-- row r gets new places -/
def nt_row (T : Nat → Nat → Nat) (r : Nat) (w : Nat → Nat) : Nat → Nat → Nat := fun i j => if i = r then w j else T i j
theorem nt_row_at (T : Nat → Nat → Nat) (r : Nat) (w : Nat → Nat) (j : Nat) : nt_row T r w r j = w j := if_pos rfl
theorem nt_row_ne {T : Nat → Nat → Nat} {r i : Nat} {w : Nat → Nat} (h : i ≠ r) (j : Nat) : nt_row T r w i j = T i j := if_neg h
/-- one place of row r -/
def nt_one (T : Nat → Nat → Nat) (r p v : Nat) : Nat → Nat → Nat := nt_row T r (fun j => if j = p then v else T r j)
/-- the calls, on the rows -/
def nt_tW (T : Nat → Nat → Nat) (k i v : Int32) : Nat → Nat → Nat := nt_one T (nt_u k % 3) (nt_u i % 509) (nt_lo v)
def nt_tS (T : Nat → Nat → Nat) (k i v : Int32) : Nat → Nat → Nat := if nt_u i % 509 < 508 then nt_one T (3 + nt_u k % 3) (nt_u i % 509) (nt_u v % 3) else T
def nt_wv (a s : Int32) (j : Nat) : Nat := nt_lo (a + s * nI j)
def nt_sv (a s : Int32) (j : Nat) : Nat := if j = 508 then 0 else nt_u (a ^^^ (s * nI j)) % 3
def nt_tP (T : Nat → Nat → Nat) (k a s : Int32) : Nat → Nat → Nat := nt_row (nt_row T (nt_u k % 3) (nt_wv a s)) (3 + nt_u k % 3) (nt_sv a s)
def nt_tT (T : Nat → Nat → Nat) (k a b : Int32) : Nat → Nat → Nat := nt_row T (nt_u k % 3) (fun j => nt_cN (T (nt_u a % 3)) (T (nt_u b % 3)) j % 2048)
def nt_tF (T : Nat → Nat → Nat) (k a b : Int32) : Nat → Nat → Nat := nt_row T (nt_u k % 3) (fun j => (nt_cN (T (nt_u a % 3)) (T (nt_u b % 3)) j % 2048 + 2048 - nt_cN (T (nt_u a % 3)) (T (nt_u b % 3)) 508 % 2048) % 2048)
def nt_tH (T : Nat → Nat → Nat) (k a b : Int32) : Nat → Nat → Nat := nt_row T (3 + nt_u k % 3) (fun j => (nt_cN (T (3 + nt_u a % 3)) (T (3 + nt_u b % 3)) j % 3 + 3 - nt_cN (T (3 + nt_u a % 3)) (T (3 + nt_u b % 3)) 508 % 3) % 3)
theorem nt_k3 (v : Int32) : nt_u v % 3 < 3 := Nat.mod_lt _ (by decide)
theorem nt_k509 (v : Int32) : nt_u v % 509 < 509 := Nat.mod_lt _ (by decide)
/-- what the rows hold: wide ones below 2048, small ones below 3 -/
def nt_bd (T : Nat → Nat → Nat) : Prop := (∀ i, i < 3 → ∀ j, j < 509 → T i j < 2048) ∧ ∀ i, i < 3 → ∀ j, j < 509 → T (3 + i) j < 3
theorem nt_bd.rowW {T : Nat → Nat → Nat} (h : nt_bd T) {r : Nat} {w : Nat → Nat} (hr : r < 3) (hw : ∀ j, j < 509 → w j < 2048) : nt_bd (nt_row T r w) := by
  refine ⟨fun i hi j hj => ?_, fun i hi j hj => ?_⟩
  · by_cases e : i = r
    · rw [e, nt_row_at]
      exact hw j hj
    · rw [nt_row_ne e]
      exact h.1 i hi j hj
  · rw [nt_row_ne (show 3 + i ≠ r by omega)]
    exact h.2 i hi j hj
theorem nt_bd.rowS {T : Nat → Nat → Nat} (h : nt_bd T) {r : Nat} {w : Nat → Nat} (hw : ∀ j, j < 509 → w j < 3) : nt_bd (nt_row T (3 + r) w) := by
  refine ⟨fun i hi j hj => ?_, fun i hi j hj => ?_⟩
  · rw [nt_row_ne (show i ≠ 3 + r by omega)]
    exact h.1 i hi j hj
  · by_cases e : 3 + i = 3 + r
    · rw [e, nt_row_at]
      exact hw j hj
    · rw [nt_row_ne e]
      exact h.2 i hi j hj
theorem nt_bd.tW {T : Nat → Nat → Nat} (h : nt_bd T) (k i v : Int32) : nt_bd (nt_tW T k i v) := h.rowW (nt_k3 k) (fun j hj => by
  show (if j = nt_u i % 509 then nt_lo v else T (nt_u k % 3) j) < 2048
  split
  · exact nt_lo_lt v
  · exact h.1 _ (nt_k3 k) j hj)
theorem nt_bd.tS {T : Nat → Nat → Nat} (h : nt_bd T) (k i v : Int32) : nt_bd (nt_tS T k i v) := by
  unfold nt_tS
  split
  · exact h.rowS (fun j hj => by
      show (if j = nt_u i % 509 then nt_u v % 3 else T (3 + nt_u k % 3) j) < 3
      split
      · exact nt_k3 v
      · exact h.2 _ (nt_k3 k) j hj)
  · exact h
theorem nt_sv_lt (a s : Int32) (j : Nat) : nt_sv a s j < 3 := by
  unfold nt_sv
  split
  · exact Nat.zero_lt_succ 2
  · exact nt_k3 _
theorem nt_bd.tP {T : Nat → Nat → Nat} (h : nt_bd T) (k a s : Int32) : nt_bd (nt_tP T k a s) := (h.rowW (nt_k3 k) (fun _ _ => nt_lo_lt _)).rowS (fun j _ => nt_sv_lt a s j)
theorem nt_bd.tT {T : Nat → Nat → Nat} (h : nt_bd T) (k a b : Int32) : nt_bd (nt_tT T k a b) := h.rowW (nt_k3 k) (fun _ _ => Nat.mod_lt _ (by decide))
theorem nt_bd.tF {T : Nat → Nat → Nat} (h : nt_bd T) (k a b : Int32) : nt_bd (nt_tF T k a b) := h.rowW (nt_k3 k) (fun _ _ => Nat.mod_lt _ (by decide))
theorem nt_bd.tH {T : Nat → Nat → Nat} (h : nt_bd T) (k a b : Int32) : nt_bd (nt_tH T k a b) := h.rowS (fun _ _ => Nat.mod_lt _ (by decide))
theorem nt_bd.zero : nt_bd (fun _ _ => 0) := ⟨fun _ _ _ _ => Nat.zero_lt_succ _, fun _ _ _ _ => Nat.zero_lt_succ _⟩
theorem nt_bd.cW {T : Nat → Nat → Nat} (h : nt_bd T) {a b : Nat} (ha : a < 3) (hb : b < 3) (k : Nat) : nt_cN (T a) (T b) k < 2147483648 := by
  have e := nt_cN_le (A := T a) (B := T b) (c := 2047) (fun i hi => by have := h.1 a ha i hi; omega) (fun i hi => by have := h.1 b hb i hi; omega) k
  omega
theorem nt_bd.cS {T : Nat → Nat → Nat} (h : nt_bd T) {a b : Nat} (ha : a < 3) (hb : b < 3) (k : Nat) : nt_cN (T (3 + a)) (T (3 + b)) k < 10000 := by
  have e := nt_cN_le (A := T (3 + a)) (B := T (3 + b)) (c := 2) (fun i hi => by have := h.2 a ha i hi; omega) (fun i hi => by have := h.2 b hb i hi; omega) k
  omega
theorem nt_rA {g : Nat → Int32} {t : Nat → Nat} {p v : Nat} (h : ∀ j, j < 509 → g j = nI (t j)) : ∀ j, j < 509 → upd g p (nI v) j = nI (if j = p then v else t j) := fun j hj => by
  unfold upd
  by_cases e : j = p
  · rw [if_pos e, if_pos e]
  · rw [if_neg e, if_neg e, h j hj]
theorem nt_uuc {f : Nat → va_E} {a b : Nat} {x y z : va_E} (h : a ≠ b) : va_up (va_up (va_up f a x) b y) a z = va_up (va_up f a z) b y := by
  funext q
  by_cases e : q = a
  · rw [e, va_up_self, va_up_ne _ _ h, va_up_self]
  · by_cases e2 : q = b
    · rw [va_up_ne _ _ e, e2, va_up_self, va_up_self]
    · rw [va_up_ne _ _ e, va_up_ne _ _ e2, va_up_ne _ _ e, va_up_ne _ _ e2, va_up_ne _ _ e]
/-- NtruRing x: two rows of three polynomials; their cells are apart -/
def nt_RS (cS cP : ClassId) (L : List Nat) (f : Nat → va_E) (x wa sa : Nat) (W S : Nat → Option Nat) (pp cc qq : Nat → Nat) (gg : Nat → Nat → Int32) : Prop :=
  x ∈ L ∧ wa ∈ L ∧ sa ∈ L ∧ f x = .inr (0, [.ref wa, .ref sa]) ∧ f wa = .inl (cP, 3, .inr (.inr (.inr (.inr W)))) ∧ f sa = .inl (cP, 3, .inr (.inr (.inr (.inr S)))) ∧ wa ≠ sa ∧ (∀ i, i < 3 → W i = some (pp i)) ∧ (∀ i, i < 3 → S i = some (pp (3 + i))) ∧ (∀ i, i < 6 → nt_poly cS L f (pp i) (cc i) (qq i) (gg i)) ∧ (∀ i j, i < 6 → j < 6 → i ≠ j → cc i ≠ cc j)
theorem nt_RS.mx {cS cP : ClassId} {L : List Nat} {f : Nat → va_E} {x wa sa : Nat} {W S : Nat → Option Nat} {pp cc qq : Nat → Nat} {gg : Nat → Nat → Int32} (h : nt_RS cS cP L f x wa sa W S pp cc qq gg) : x ∈ L := h.1
theorem nt_RS.mw {cS cP : ClassId} {L : List Nat} {f : Nat → va_E} {x wa sa : Nat} {W S : Nat → Option Nat} {pp cc qq : Nat → Nat} {gg : Nat → Nat → Int32} (h : nt_RS cS cP L f x wa sa W S pp cc qq gg) : wa ∈ L := h.2.1
theorem nt_RS.ms {cS cP : ClassId} {L : List Nat} {f : Nat → va_E} {x wa sa : Nat} {W S : Nat → Option Nat} {pp cc qq : Nat → Nat} {gg : Nat → Nat → Int32} (h : nt_RS cS cP L f x wa sa W S pp cc qq gg) : sa ∈ L := h.2.2.1
theorem nt_RS.fx {cS cP : ClassId} {L : List Nat} {f : Nat → va_E} {x wa sa : Nat} {W S : Nat → Option Nat} {pp cc qq : Nat → Nat} {gg : Nat → Nat → Int32} (h : nt_RS cS cP L f x wa sa W S pp cc qq gg) : f x = .inr (0, [.ref wa, .ref sa]) := h.2.2.2.1
theorem nt_RS.fw {cS cP : ClassId} {L : List Nat} {f : Nat → va_E} {x wa sa : Nat} {W S : Nat → Option Nat} {pp cc qq : Nat → Nat} {gg : Nat → Nat → Int32} (h : nt_RS cS cP L f x wa sa W S pp cc qq gg) : f wa = .inl (cP, 3, .inr (.inr (.inr (.inr W)))) := h.2.2.2.2.1
theorem nt_RS.fs {cS cP : ClassId} {L : List Nat} {f : Nat → va_E} {x wa sa : Nat} {W S : Nat → Option Nat} {pp cc qq : Nat → Nat} {gg : Nat → Nat → Int32} (h : nt_RS cS cP L f x wa sa W S pp cc qq gg) : f sa = .inl (cP, 3, .inr (.inr (.inr (.inr S)))) := h.2.2.2.2.2.1
theorem nt_RS.ws {cS cP : ClassId} {L : List Nat} {f : Nat → va_E} {x wa sa : Nat} {W S : Nat → Option Nat} {pp cc qq : Nat → Nat} {gg : Nat → Nat → Int32} (h : nt_RS cS cP L f x wa sa W S pp cc qq gg) : wa ≠ sa := h.2.2.2.2.2.2.1
theorem nt_RS.hW {cS cP : ClassId} {L : List Nat} {f : Nat → va_E} {x wa sa : Nat} {W S : Nat → Option Nat} {pp cc qq : Nat → Nat} {gg : Nat → Nat → Int32} (h : nt_RS cS cP L f x wa sa W S pp cc qq gg) : ∀ i, i < 3 → W i = some (pp i) := h.2.2.2.2.2.2.2.1
theorem nt_RS.hS {cS cP : ClassId} {L : List Nat} {f : Nat → va_E} {x wa sa : Nat} {W S : Nat → Option Nat} {pp cc qq : Nat → Nat} {gg : Nat → Nat → Int32} (h : nt_RS cS cP L f x wa sa W S pp cc qq gg) : ∀ i, i < 3 → S i = some (pp (3 + i)) := h.2.2.2.2.2.2.2.2.1
theorem nt_RS.hp {cS cP : ClassId} {L : List Nat} {f : Nat → va_E} {x wa sa : Nat} {W S : Nat → Option Nat} {pp cc qq : Nat → Nat} {gg : Nat → Nat → Int32} (h : nt_RS cS cP L f x wa sa W S pp cc qq gg) : ∀ i, i < 6 → nt_poly cS L f (pp i) (cc i) (qq i) (gg i) := h.2.2.2.2.2.2.2.2.2.1
theorem nt_RS.hc {cS cP : ClassId} {L : List Nat} {f : Nat → va_E} {x wa sa : Nat} {W S : Nat → Option Nat} {pp cc qq : Nat → Nat} {gg : Nat → Nat → Int32} (h : nt_RS cS cP L f x wa sa W S pp cc qq gg) : ∀ i j, i < 6 → j < 6 → i ≠ j → cc i ≠ cc j := h.2.2.2.2.2.2.2.2.2.2
section NTRS
variable {cS cP : ClassId} {L L' : List Nat} {f f' : Nat → va_E} {x wa sa : Nat} {W S : Nat → Option Nat} {pp cc qq : Nat → Nat} {gg : Nat → Nat → Int32}
theorem nt_RS.mono (h : nt_RS cS cP L f x wa sa W S pp cc qq gg) (hL : ∀ a, a ∈ L → a ∈ L') (hf : ∀ a, a ∈ L → f' a = f a) : nt_RS cS cP L' f' x wa sa W S pp cc qq gg :=
  ⟨hL _ h.mx, hL _ h.mw, hL _ h.ms, (hf _ h.mx).trans h.fx, (hf _ h.mw).trans h.fw, (hf _ h.ms).trans h.fs, h.ws, h.hW, h.hS, fun i hi => (h.hp i hi).mono hL hf, h.hc⟩
theorem nt_RS.set (h : nt_RS cS cP L f x wa sa W S pp cc qq gg) {r : Nat} (hr : r < 6) (g' : Nat → Int32) : nt_RS cS cP L (va_up f (cc r) (.inl (cS, 509, .inl g'))) x wa sa W S pp cc qq (fun j => if j = r then g' else gg j) := by
  have fc := (h.hp r hr).2.2.2.2.1
  have nx : x ≠ cc r := nt_nek h.fx fc (by simp)
  have nw : wa ≠ cc r := nt_nek h.fw fc (by simp)
  have ns : sa ≠ cc r := nt_nek h.fs fc (by simp)
  refine ⟨h.mx, h.mw, h.ms, (va_up_ne _ _ nx).trans h.fx, (va_up_ne _ _ nw).trans h.fw, (va_up_ne _ _ ns).trans h.fs, h.ws, h.hW, h.hS, fun i hi => ?_, h.hc⟩
  by_cases e : i = r
  · subst e
    have e1 : (fun j => if j = i then g' else gg j) i = g' := if_pos rfl
    rw [e1]
    exact (h.hp i hi).set g'
  · have e1 : (fun j => if j = r then g' else gg j) i = gg i := if_neg e
    rw [e1]
    exact (h.hp i hi).up (nt_nek (h.hp i hi).2.2.2.1 fc (by simp)) (h.hc i r hi hr e) (nt_nek (h.hp i hi).2.2.2.2.2 fc (by simp))
theorem nt_RS.polys (h : nt_RS cS cP L f x wa sa W S pp cc qq gg) {a : Nat} {V : Nat → Option Nat} {e : va_E} (fa : f a = .inl (cP, 3, .inr (.inr (.inr (.inr V))))) {r p c q : Nat} {g : Nat → Int32} (hp : nt_poly cS L f p c q g) (i : Nat) (hi : i < 6) : nt_poly cS L (va_up f a e) (va_up pp r p i) (va_up cc r c i) (va_up qq r q i) (va_up gg r g i) := by
  by_cases k : i = r
  · rw [k, va_up_self, va_up_self, va_up_self, va_up_self]
    exact hp.up (nt_nek hp.2.2.2.1 fa (by simp)) (nt_nek hp.2.2.2.2.1 fa (by simp)) (nt_nek hp.2.2.2.2.2 fa (by simp))
  · rw [va_up_ne _ _ k, va_up_ne _ _ k, va_up_ne _ _ k, va_up_ne _ _ k]
    have hq := h.hp i hi
    exact hq.up (nt_nek hq.2.2.2.1 fa (by simp)) (nt_nek hq.2.2.2.2.1 fa (by simp)) (nt_nek hq.2.2.2.2.2 fa (by simp))
theorem nt_RS.apart (h : nt_RS cS cP L f x wa sa W S pp cc qq gg) {r c : Nat} (hc : ∀ j, j < 6 → c ≠ cc j) (i j : Nat) (hi : i < 6) (hj : j < 6) (hij : i ≠ j) : va_up cc r c i ≠ va_up cc r c j := by
  by_cases k : i = r
  · rw [k, va_up_self, va_up_ne _ _ (show j ≠ r from fun e => hij (k.trans e.symm))]
    exact hc j hj
  · rw [va_up_ne _ _ k]
    by_cases k2 : j = r
    · rw [k2, va_up_self]
      exact (hc i hi).symm
    · rw [va_up_ne _ _ k2]
      exact h.hc i j hi hj hij
/-- a new polynomial in a wide place -/
theorem nt_RS.putW (h : nt_RS cS cP L f x wa sa W S pp cc qq gg) {r p c q : Nat} {g : Nat → Int32} (hr : r < 3) (hp : nt_poly cS L f p c q g) (hc : ∀ j, j < 6 → c ≠ cc j) : nt_RS cS cP L (va_up f wa (.inl (cP, 3, .inr (.inr (.inr (.inr (va_up W r (some p)))))))) x wa sa (va_up W r (some p)) S (va_up pp r p) (va_up cc r c) (va_up qq r q) (va_up gg r g) := by
  refine ⟨h.mx, h.mw, h.ms, (va_up_ne _ _ (nt_nek h.fx h.fw (by simp))).trans h.fx, va_up_self _ _ _, (va_up_ne _ _ h.ws.symm).trans h.fs, h.ws, fun i hi => ?_, fun i hi => ?_, fun i hi => h.polys h.fw hp i hi, h.apart hc⟩
  · by_cases k : i = r
    · rw [k, va_up_self, va_up_self]
    · rw [va_up_ne _ _ k, va_up_ne _ _ k, h.hW i hi]
  · rw [va_up_ne _ _ (show 3 + i ≠ r by omega), h.hS i hi]
/-- a new polynomial in a small place -/
theorem nt_RS.putS (h : nt_RS cS cP L f x wa sa W S pp cc qq gg) {r p c q : Nat} {g : Nat → Int32} (hp : nt_poly cS L f p c q g) (hc : ∀ j, j < 6 → c ≠ cc j) : nt_RS cS cP L (va_up f sa (.inl (cP, 3, .inr (.inr (.inr (.inr (va_up S r (some p)))))))) x wa sa W (va_up S r (some p)) (va_up pp (3 + r) p) (va_up cc (3 + r) c) (va_up qq (3 + r) q) (va_up gg (3 + r) g) := by
  refine ⟨h.mx, h.mw, h.ms, (va_up_ne _ _ (nt_nek h.fx h.fs (by simp))).trans h.fx, (va_up_ne _ _ h.ws).trans h.fw, va_up_self _ _ _, h.ws, fun i hi => ?_, fun i hi => ?_, fun i hi => h.polys h.fs hp i hi, h.apart hc⟩
  · rw [va_up_ne _ _ (show i ≠ 3 + r by omega), h.hW i hi]
  · by_cases k : i = r
    · rw [k, va_up_self, va_up_self]
    · rw [va_up_ne _ _ k, va_up_ne _ _ (show 3 + i ≠ 3 + r by omega), h.hS i hi]
/-- NtruRing x holds the rows T -/
def nt_RG (cS cP : ClassId) (L : List Nat) (f : Nat → va_E) (x : Nat) (T : Nat → Nat → Nat) : Prop :=
  ∃ (wa sa : Nat) (W S : Nat → Option Nat) (pp cc qq : Nat → Nat) (gg : Nat → Nat → Int32), nt_RS cS cP L f x wa sa W S pp cc qq gg ∧ ∀ i, i < 6 → ∀ j, j < 509 → gg i j = nI (T i j)
theorem nt_RG.row (h : nt_RS cS cP L f x wa sa W S pp cc qq gg) {T : Nat → Nat → Nat} (hg : ∀ i, i < 6 → ∀ j, j < 509 → gg i j = nI (T i j)) {r : Nat} (hr : r < 6) {g' : Nat → Int32} {w : Nat → Nat} (hw : ∀ j, j < 509 → g' j = nI (w j)) : nt_RG cS cP L (va_up f (cc r) (.inl (cS, 509, .inl g'))) x (nt_row T r w) := by
  refine ⟨wa, sa, W, S, pp, cc, qq, _, h.set hr g', fun i hi j hj => ?_⟩
  by_cases e : i = r
  · show (if i = r then g' else gg i) j = nI (if i = r then w j else T i j)
    rw [if_pos e, if_pos e, hw j hj]
  · show (if i = r then g' else gg i) j = nI (if i = r then w j else T i j)
    rw [if_neg e, if_neg e, hg i hi j hj]
theorem nt_rB {T : Nat → Nat → Nat} (hg : ∀ i, i < 6 → ∀ j, j < 509 → gg i j = nI (T i j)) {r : Nat} {g' : Nat → Int32} {w : Nat → Nat} (hw : ∀ j, j < 509 → g' j = nI (w j)) (i : Nat) (hi : i < 6) (j : Nat) (hj : j < 509) : va_up gg r g' i j = nI (nt_row T r w i j) := by
  by_cases e : i = r
  · rw [e, va_up_self, nt_row_at, hw j hj]
  · rw [va_up_ne _ _ e, nt_row_ne e, hg i hi j hj]
end NTRS
end
section
/-! ===== NtruRing: k, cut, wide, small, spread (printed by gen/ring.py) ===== -/
set_option maxHeartbeats 4000000 in
set_option maxRecDepth 100000 in
/-- k: the lower 31 bits, modulo 3 -/
theorem met_X0_k (l : Launch) (D : va_G) (cI cS cP : ClassId) {f0 : Nat → va_E} (k : Int32) :
    nt_Mi l yX0_k (ws_ yX0_k cX0_k 1 (some .int)) ({ frames := 0, cells := 0, slots := 0, locals := 0 } : Room) D cI cS cP [.int k] [] f0 (fun r _ _ => r = nI (nt_u k % 3)) 0 0 := by
  refine nt_enterI (own := RX0) _ (by decide) rfl [(0, .int k)] rfl (Nat.le_of_ble_eq_true rfl) (fun G F hn hret => ?_)
  refine nx_iload_n F 1 rfl dX0_k_0 0 rfl ?_
  refine nx_ldc F 3 rfl dX0_k_1 q87 ?_
  refine nx_iand F 4 rfl (v := nI (nt_u k)) dX0_k_3 (nt_u_and k) ?_
  refine nx_iconst F 5 rfl (v := nI 3) dX0_k_4 (by decide +kernel) ?_
  refine nx_irem F 6 rfl (v := nI (nt_u k % 3)) dX0_k_5 (by decide +kernel) (nt_rem (nt_u_lt k) (by decide) (by decide)) ?_
  exact hret dX0_k_6 rfl (Nat.le_refl 0) (Nat.le_refl 0) rfl

set_option maxHeartbeats 4000000 in
set_option maxRecDepth 100000 in
/-- cut: eleven bits stay -/
theorem met_X0_cut (l : Launch) (D : va_G) (cI cS cP : ClassId) {L : List Nat} {f : Nat → va_E} {z c q : Nat} {g : Nat → Int32} (hp : nt_poly cS L f z c q g) :
    nt_Mv l yX0_cut (ws_ yX0_cut cX0_cut 2 none) ({ frames := 0, cells := 0, slots := 0, locals := 0 } : Room) D cI cS cP [.ref z] L f (fun L' f' => L' = L ∧ ∃ g' : Nat → Int32, f' = va_up f c (.inl (cS, 509, .inl g')) ∧ ∀ k, k < 509 → g' k = nt_s16 (g k &&& nI 2047)) 0 0 := by
  refine nt_enterV (own := RX0) _ (by decide) rfl [(0, .ref z)] rfl (Nat.le_of_ble_eq_true rfl) (fun G F hn hret => ?_)
  refine nx_iconst F 1 rfl (v := nI 0) dX0_cut_0 (by decide +kernel) ?_
  refine nx_istore_n F 2 rfl dX0_cut_1 (by decide) [(1, .int (nI 0)), (0, .ref z)] rfl ?_
  refine nx_f (va_up f c (.inl (cS, 509, .inl (nt_w 0 0 (fun k => nt_s16 (g k &&& nI 2047)) g)))) (by rw [nt_w_0]; exact nt_up_id hp.2.2.2.2.1) ?_
  refine nt_up (fun i => nt_X l ({ frames := 0, cells := 0, slots := 0, locals := 0 } : Room) D 2 G L (va_up f c (.inl (cS, 509, .inl (nt_w 0 i (fun k => nt_s16 (g k &&& nI 2047)) g)))) [] f 0 0 [(1, .int (nI i)), (0, .ref z)] 2 []) 509 ?_ ?_
  · refine nx_iload_n F 3 rfl dX0_cut_2 0 rfl ?_
    refine nx_sipush F 6 rfl (v := nI 509) dX0_cut_3 (by decide +kernel) ?_
    refine nx_ge F 9 32 rfl dX0_cut_6 (by decide) (by omega) (by omega) (fun _ => ?_) (fun hh => absurd hh (by omega))
    exact hret dX0_cut_32 (Nat.le_refl 0) (Nat.le_refl 0) ⟨rfl, _, rfl, fun k hk => nt_w_at0 hk⟩
  · intro i qi ih
    refine nx_iload_n F 3 rfl dX0_cut_2 0 rfl ?_
    refine nx_sipush F 6 rfl (v := nI 509) dX0_cut_3 (by decide +kernel) ?_
    refine nx_ge F 9 32 rfl dX0_cut_6 (by decide) (by omega) (by omega) (fun hh => absurd hh (by omega)) (fun _ => ?_)
    refine nx_aload_n F 10 rfl dX0_cut_9 1 rfl ?_
    refine nx_get F 13 rfl dX0_cut_10 (nt_in1 hp.1 ((va_up_ne _ _ hp.pc).trans hp.2.2.2.1)) in_X2 rfl 0 (by decide) q65 rfl rfl ?_
    refine nx_iload_n F 14 rfl dX0_cut_13 0 rfl ?_
    refine nx_aload_n F 15 rfl dX0_cut_14 1 rfl ?_
    refine nx_get F 18 rfl dX0_cut_15 (nt_in1 hp.1 ((va_up_ne _ _ hp.pc).trans hp.2.2.2.1)) in_X2 rfl 0 (by decide) q65 rfl rfl ?_
    refine nx_iload_n F 19 rfl dX0_cut_18 0 rfl ?_
    refine nx_sld F 20 rfl dX0_cut_19 (v := g i) (nt_in1 hp.2.1 (va_up_self _ _ _)) (show i < 509 by omega) (by decide) (nt_w_out (by omega)) ?_
    refine nx_sipush F 23 rfl (v := nI 2047) dX0_cut_20 (by decide +kernel) ?_
    refine nx_iand F 24 rfl (v := (g i &&& nI 2047)) dX0_cut_23 rfl ?_
    refine nx_i2s F 25 rfl (v := (nt_s16 (g i &&& nI 2047))) dX0_cut_24 rfl ?_
    refine nx_sst F 26 rfl dX0_cut_25 hp.2.1 (va_up_self _ _ _) (show i < 509 by omega) (by decide) (va_up f c (.inl (cS, 509, .inl (nt_w 0 (i + 1) (fun k => nt_s16 (g k &&& nI 2047)) g)))) (by rw [bx_uu, nt_w_s 0 i (fun k => nt_s16 (g k &&& nI 2047)) g (p := i) (v := nt_s16 (nt_s16 (g i &&& nI 2047))) (Nat.zero_add i).symm (nt_s16_i _)]) ?_
    refine nx_iinc F 29 rfl dX0_cut_26 0 rfl (nI_1 _) (by decide) [(1, .int (nI (i + 1))), (0, .ref z)] rfl ?_
    refine nx_goto F 2 dX0_cut_29 (by decide) ?_
    exact ih

set_option maxHeartbeats 4000000 in
set_option maxRecDepth 100000 in
/-- wide(k, i, v) -/
theorem met_X0_wide (l : Launch) (D : va_G) (cI cS cP : ClassId) {L : List Nat} {f : Nat → va_E} {x : Nat} {T : Nat → Nat → Nat} (hx : nt_RG cS cP L f x T) (k i v : Int32) :
    nt_Mv l yX0_wide (ws_ yX0_wide cX0_wide 4 none) ({ frames := 1, cells := 0, slots := 0, locals := 20 } : Room) D cI cS cP [.ref x, .int k, .int i, .int v] L f (fun L' f' => nt_RG cS cP L' f' x (nt_tW T k i v)) 0 0 := by
  obtain ⟨wa, sa, W, S, pp, cc, qq, gg, h, hg⟩ := hx
  refine nt_enterV (own := RX0) _ (by decide) rfl [(0, .ref x), (1, .int k), (2, .int i), (3, .int v)] rfl (Nat.le_of_ble_eq_true rfl) (fun G F hn hret => ?_)
  obtain ⟨kk, hkk⟩ : ∃ z : Nat, z = nt_u k % 3 := ⟨_, rfl⟩
  have bkk : kk < 3 := by rw [hkk]; exact nt_k3 _
  obtain ⟨ii, hii⟩ : ∃ z : Nat, z = nt_u i % 509 := ⟨_, rfl⟩
  have bii : ii < 509 := by rw [hii]; exact nt_k509 _
  refine nx_aload_n F 1 rfl dX0_wide_0 0 rfl ?_
  refine nx_get F 4 rfl dX0_wide_1 (nt_in1 h.mx h.fx) in_X0 rfl 0 (by decide) q73 rfl rfl ?_
  refine nx_iload_n F 5 rfl dX0_wide_4 1 rfl ?_
  refine nx_iS (st := [.ref wa]) (n := 1) F 8 rfl [.int k] dX0_wide_5 q84 q85 q2 q86 (by decide +kernel) ({ frames := 0, cells := 0, slots := 0, locals := 0 } : Room) rfl rfl ⟨(Nat.le_of_ble_eq_true rfl), (Nat.le_of_ble_eq_true rfl)⟩ ⟨(Nat.le_of_ble_eq_true rfl), (Nat.le_of_ble_eq_true rfl)⟩ (met_X0_k (f0 := f) l D cI cS cP k) rfl rfl (Nat.le_of_ble_eq_true rfl) (fun r L' f' hr => ?_)
  rw [hr, ← hkk]
  have eii : nI (nt_u i) - nI (nt_u i) / nI 509 * nI 509 = nI ii := by rw [hii]; exact nt_rem (nt_u_lt _) (by decide) (by decide)
  have bv := nt_lo_lt v
  refine nx_qld F 9 rfl dX0_wide_8 (nt_in1 h.mw h.fw) (show kk < 3 by omega) (by decide) (h.hW kk (by omega)) ?_
  refine nx_get F 12 rfl dX0_wide_9 (nt_in1 (h.hp kk (by omega)).1 (h.hp kk (by omega)).2.2.2.1) in_X2 rfl 0 (by decide) q65 rfl rfl ?_
  refine nx_iload_n F 13 rfl dX0_wide_12 2 rfl ?_
  refine nx_ldc F 15 rfl dX0_wide_13 q87 ?_
  refine nx_iand F 16 rfl (v := nI (nt_u i)) dX0_wide_15 (nt_u_and i) ?_
  refine nx_sipush F 19 rfl (v := nI 509) dX0_wide_16 (by decide +kernel) ?_
  refine nx_irem F 20 rfl (v := nI ii) dX0_wide_19 (by decide +kernel) eii ?_
  refine nx_iload_n F 21 rfl dX0_wide_20 3 rfl ?_
  refine nx_sipush F 24 rfl (v := nI 2047) dX0_wide_21 (by decide +kernel) ?_
  refine nx_iand F 25 rfl (v := nI (nt_lo v)) dX0_wide_24 (nt_lo_and v) ?_
  refine nx_i2s F 26 rfl (v := nI (nt_lo v)) dX0_wide_25 (nt_s16_N (by omega)) ?_
  refine nx_sst F 27 rfl dX0_wide_26 (h.hp kk (by omega)).2.1 (h.hp kk (by omega)).2.2.2.2.1 (show ii < 509 by omega) (by decide) (va_up f (cc kk) (.inl (cS, 509, .inl (upd (gg kk) ii (nI (nt_lo v)))))) (by rw [nt_s16_N (show nt_lo v < 32768 by omega)]) ?_
  exact hret dX0_wide_27 (Nat.le_refl 0) (Nat.le_refl 0) (by unfold nt_tW; rw [← hkk, ← hii]; exact nt_RG.row h hg (show kk < 6 by omega) (nt_rA (hg kk (by omega))))

set_option maxHeartbeats 4000000 in
set_option maxRecDepth 100000 in
/-- small(k, i, v) -/
theorem met_X0_small (l : Launch) (D : va_G) (cI cS cP : ClassId) {L : List Nat} {f : Nat → va_E} {x : Nat} {T : Nat → Nat → Nat} (hx : nt_RG cS cP L f x T) (k i v : Int32) :
    nt_Mv l yX0_small (ws_ yX0_small cX0_small 5 none) ({ frames := 1, cells := 0, slots := 0, locals := 20 } : Room) D cI cS cP [.ref x, .int k, .int i, .int v] L f (fun L' f' => nt_RG cS cP L' f' x (nt_tS T k i v)) 0 0 := by
  obtain ⟨wa, sa, W, S, pp, cc, qq, gg, h, hg⟩ := hx
  refine nt_enterV (own := RX0) _ (by decide) rfl [(0, .ref x), (1, .int k), (2, .int i), (3, .int v)] rfl (Nat.le_of_ble_eq_true rfl) (fun G F hn hret => ?_)
  obtain ⟨kk, hkk⟩ : ∃ z : Nat, z = nt_u k % 3 := ⟨_, rfl⟩
  have bkk : kk < 3 := by rw [hkk]; exact nt_k3 _
  obtain ⟨ii, hii⟩ : ∃ z : Nat, z = nt_u i % 509 := ⟨_, rfl⟩
  have bii : ii < 509 := by rw [hii]; exact nt_k509 _
  obtain ⟨vv, hvv⟩ : ∃ z : Nat, z = nt_u v % 3 := ⟨_, rfl⟩
  have bvv : vv < 3 := by rw [hvv]; exact nt_k3 _
  have eii : nI (nt_u i) - nI (nt_u i) / nI 509 * nI 509 = nI ii := by rw [hii]; exact nt_rem (nt_u_lt _) (by decide) (by decide)
  have evv : nI (nt_u v) - nI (nt_u v) / nI 3 * nI 3 = nI vv := by rw [hvv]; exact nt_rem (nt_u_lt _) (by decide) (by decide)
  refine nx_iload_n F 1 rfl dX0_small_0 2 rfl ?_
  refine nx_ldc F 3 rfl dX0_small_1 q87 ?_
  refine nx_iand F 4 rfl (v := nI (nt_u i)) dX0_small_3 (nt_u_and i) ?_
  refine nx_sipush F 7 rfl (v := nI 509) dX0_small_4 (by decide +kernel) ?_
  refine nx_irem F 8 rfl (v := nI ii) dX0_small_7 (by decide +kernel) eii ?_
  refine nx_istore F 10 rfl dX0_small_8 (by decide) [(4, .int (nI ii)), (0, .ref x), (1, .int k), (2, .int i), (3, .int v)] rfl ?_
  refine nx_iload F 12 rfl dX0_small_10 0 rfl ?_
  refine nx_sipush F 15 rfl (v := nI 508) dX0_small_12 (by decide +kernel) ?_
  refine nx_ge F 18 40 rfl dX0_small_15 (by decide) (by omega) (by omega) (fun h1 => ?_) (fun h2 => ?_)
  · exact hret dX0_small_40 (Nat.le_refl 0) (Nat.le_refl 0) (by rw [show nt_tS T k i v = T from if_neg (by rw [← hii]; omega)]; exact ⟨wa, sa, W, S, pp, cc, qq, gg, h, hg⟩)
  · refine nx_aload_n F 19 rfl dX0_small_18 1 rfl ?_
    refine nx_get F 22 rfl dX0_small_19 (nt_in1 h.mx h.fx) in_X0 rfl 1 (by decide) q74 rfl rfl ?_
    refine nx_iload_n F 23 rfl dX0_small_22 2 rfl ?_
    refine nx_iS (st := [.ref sa]) (n := 1) F 26 rfl [.int k] dX0_small_23 q84 q85 q2 q86 (by decide +kernel) ({ frames := 0, cells := 0, slots := 0, locals := 0 } : Room) rfl rfl ⟨(Nat.le_of_ble_eq_true rfl), (Nat.le_of_ble_eq_true rfl)⟩ ⟨(Nat.le_of_ble_eq_true rfl), (Nat.le_of_ble_eq_true rfl)⟩ (met_X0_k (f0 := f) l D cI cS cP k) rfl rfl (Nat.le_of_ble_eq_true rfl) (fun r L' f' hr => ?_)
    rw [hr, ← hkk]
    refine nx_qld F 27 rfl dX0_small_26 (nt_in1 h.ms h.fs) (show kk < 3 by omega) (by decide) (h.hS kk (by omega)) ?_
    refine nx_get F 30 rfl dX0_small_27 (nt_in1 (h.hp (3 + kk) (by omega)).1 (h.hp (3 + kk) (by omega)).2.2.2.1) in_X2 rfl 0 (by decide) q65 rfl rfl ?_
    refine nx_iload F 32 rfl dX0_small_30 0 rfl ?_
    refine nx_iload_n F 33 rfl dX0_small_32 4 rfl ?_
    refine nx_ldc F 35 rfl dX0_small_33 q87 ?_
    refine nx_iand F 36 rfl (v := nI (nt_u v)) dX0_small_35 (nt_u_and v) ?_
    refine nx_iconst F 37 rfl (v := nI 3) dX0_small_36 (by decide +kernel) ?_
    refine nx_irem F 38 rfl (v := nI vv) dX0_small_37 (by decide +kernel) evv ?_
    refine nx_i2s F 39 rfl (v := nI vv) dX0_small_38 (nt_s16_N (by omega)) ?_
    refine nx_sst F 40 rfl dX0_small_39 (h.hp (3 + kk) (by omega)).2.1 (h.hp (3 + kk) (by omega)).2.2.2.2.1 (show ii < 509 by omega) (by decide) (va_up f (cc (3 + kk)) (.inl (cS, 509, .inl (upd (gg (3 + kk)) ii (nI vv))))) (by rw [nt_s16_N (show vv < 32768 by omega)]) ?_
    exact hret dX0_small_40 (Nat.le_refl 0) (Nat.le_refl 0) (by rw [show nt_tS T k i v = nt_one T (3 + kk) ii vv from by rw [hkk, hii, hvv]; exact if_pos (by rw [← hii]; omega)]; exact nt_RG.row h hg (show 3 + kk < 6 by omega) (nt_rA (hg (3 + kk) (by omega))))

set_option maxHeartbeats 4000000 in
set_option maxRecDepth 100000 in
/-- wide(k, i) -/
theorem met_X0_wide_2 (l : Launch) (D : va_G) (cI cS cP : ClassId) {L : List Nat} {f : Nat → va_E} {x : Nat} {T : Nat → Nat → Nat} (hx : nt_RG cS cP L f x T) (k i : Int32) :
    nt_Mi l yX0_wide_2 (ws_ yX0_wide_2 cX0_wide_2 3 (some .int)) ({ frames := 1, cells := 0, slots := 0, locals := 20 } : Room) D cI cS cP [.ref x, .int k, .int i] L f (fun r L' f' => r = nI (T (nt_u k % 3) (nt_u i % 509)) ∧ L' = L ∧ f' = f) 0 0 := by
  obtain ⟨wa, sa, W, S, pp, cc, qq, gg, h, hg⟩ := hx
  refine nt_enterI (own := RX0) _ (by decide) rfl [(0, .ref x), (1, .int k), (2, .int i)] rfl (Nat.le_of_ble_eq_true rfl) (fun G F hn hret => ?_)
  obtain ⟨kk, hkk⟩ : ∃ z : Nat, z = nt_u k % 3 := ⟨_, rfl⟩
  have bkk : kk < 3 := by rw [hkk]; exact nt_k3 _
  obtain ⟨ii, hii⟩ : ∃ z : Nat, z = nt_u i % 509 := ⟨_, rfl⟩
  have bii : ii < 509 := by rw [hii]; exact nt_k509 _
  have eii : nI (nt_u i) - nI (nt_u i) / nI 509 * nI 509 = nI ii := by rw [hii]; exact nt_rem (nt_u_lt _) (by decide) (by decide)
  refine nx_aload_n F 1 rfl dX0_wide_2_0 0 rfl ?_
  refine nx_get F 4 rfl dX0_wide_2_1 (nt_in1 h.mx h.fx) in_X0 rfl 0 (by decide) q73 rfl rfl ?_
  refine nx_iload_n F 5 rfl dX0_wide_2_4 1 rfl ?_
  refine nx_iS (st := [.ref wa]) (n := 1) F 8 rfl [.int k] dX0_wide_2_5 q84 q85 q2 q86 (by decide +kernel) ({ frames := 0, cells := 0, slots := 0, locals := 0 } : Room) rfl rfl ⟨(Nat.le_of_ble_eq_true rfl), (Nat.le_of_ble_eq_true rfl)⟩ ⟨(Nat.le_of_ble_eq_true rfl), (Nat.le_of_ble_eq_true rfl)⟩ (met_X0_k (f0 := f) l D cI cS cP k) rfl rfl (Nat.le_of_ble_eq_true rfl) (fun r L' f' hr => ?_)
  rw [hr, ← hkk]
  refine nx_qld F 9 rfl dX0_wide_2_8 (nt_in1 h.mw h.fw) (show kk < 3 by omega) (by decide) (h.hW kk (by omega)) ?_
  refine nx_get F 12 rfl dX0_wide_2_9 (nt_in1 (h.hp kk (by omega)).1 (h.hp kk (by omega)).2.2.2.1) in_X2 rfl 0 (by decide) q65 rfl rfl ?_
  refine nx_iload_n F 13 rfl dX0_wide_2_12 2 rfl ?_
  refine nx_ldc F 15 rfl dX0_wide_2_13 q87 ?_
  refine nx_iand F 16 rfl (v := nI (nt_u i)) dX0_wide_2_15 (nt_u_and i) ?_
  refine nx_sipush F 19 rfl (v := nI 509) dX0_wide_2_16 (by decide +kernel) ?_
  refine nx_irem F 20 rfl (v := nI ii) dX0_wide_2_19 (by decide +kernel) eii ?_
  refine nx_sld F 21 rfl dX0_wide_2_20 (v := nI (T kk ii)) (nt_in1 (h.hp kk (by omega)).2.1 (h.hp kk (by omega)).2.2.2.2.1) (show ii < 509 by omega) (by decide) (hg kk (by omega) ii (by omega)) ?_
  exact hret dX0_wide_2_21 rfl (Nat.le_refl 0) (Nat.le_refl 0) ⟨by rw [← hkk, ← hii], rfl, rfl⟩

set_option maxHeartbeats 4000000 in
set_option maxRecDepth 100000 in
/-- small(k, i) -/
theorem met_X0_small_2 (l : Launch) (D : va_G) (cI cS cP : ClassId) {L : List Nat} {f : Nat → va_E} {x : Nat} {T : Nat → Nat → Nat} (hx : nt_RG cS cP L f x T) (k i : Int32) :
    nt_Mi l yX0_small_2 (ws_ yX0_small_2 cX0_small_2 3 (some .int)) ({ frames := 1, cells := 0, slots := 0, locals := 20 } : Room) D cI cS cP [.ref x, .int k, .int i] L f (fun r L' f' => r = nI (T (3 + nt_u k % 3) (nt_u i % 509)) ∧ L' = L ∧ f' = f) 0 0 := by
  obtain ⟨wa, sa, W, S, pp, cc, qq, gg, h, hg⟩ := hx
  refine nt_enterI (own := RX0) _ (by decide) rfl [(0, .ref x), (1, .int k), (2, .int i)] rfl (Nat.le_of_ble_eq_true rfl) (fun G F hn hret => ?_)
  obtain ⟨kk, hkk⟩ : ∃ z : Nat, z = nt_u k % 3 := ⟨_, rfl⟩
  have bkk : kk < 3 := by rw [hkk]; exact nt_k3 _
  obtain ⟨ii, hii⟩ : ∃ z : Nat, z = nt_u i % 509 := ⟨_, rfl⟩
  have bii : ii < 509 := by rw [hii]; exact nt_k509 _
  have eii : nI (nt_u i) - nI (nt_u i) / nI 509 * nI 509 = nI ii := by rw [hii]; exact nt_rem (nt_u_lt _) (by decide) (by decide)
  refine nx_aload_n F 1 rfl dX0_small_2_0 0 rfl ?_
  refine nx_get F 4 rfl dX0_small_2_1 (nt_in1 h.mx h.fx) in_X0 rfl 1 (by decide) q74 rfl rfl ?_
  refine nx_iload_n F 5 rfl dX0_small_2_4 1 rfl ?_
  refine nx_iS (st := [.ref sa]) (n := 1) F 8 rfl [.int k] dX0_small_2_5 q84 q85 q2 q86 (by decide +kernel) ({ frames := 0, cells := 0, slots := 0, locals := 0 } : Room) rfl rfl ⟨(Nat.le_of_ble_eq_true rfl), (Nat.le_of_ble_eq_true rfl)⟩ ⟨(Nat.le_of_ble_eq_true rfl), (Nat.le_of_ble_eq_true rfl)⟩ (met_X0_k (f0 := f) l D cI cS cP k) rfl rfl (Nat.le_of_ble_eq_true rfl) (fun r L' f' hr => ?_)
  rw [hr, ← hkk]
  refine nx_qld F 9 rfl dX0_small_2_8 (nt_in1 h.ms h.fs) (show kk < 3 by omega) (by decide) (h.hS kk (by omega)) ?_
  refine nx_get F 12 rfl dX0_small_2_9 (nt_in1 (h.hp (3 + kk) (by omega)).1 (h.hp (3 + kk) (by omega)).2.2.2.1) in_X2 rfl 0 (by decide) q65 rfl rfl ?_
  refine nx_iload_n F 13 rfl dX0_small_2_12 2 rfl ?_
  refine nx_ldc F 15 rfl dX0_small_2_13 q87 ?_
  refine nx_iand F 16 rfl (v := nI (nt_u i)) dX0_small_2_15 (nt_u_and i) ?_
  refine nx_sipush F 19 rfl (v := nI 509) dX0_small_2_16 (by decide +kernel) ?_
  refine nx_irem F 20 rfl (v := nI ii) dX0_small_2_19 (by decide +kernel) eii ?_
  refine nx_sld F 21 rfl dX0_small_2_20 (v := nI (T (3 + kk) ii)) (nt_in1 (h.hp (3 + kk) (by omega)).2.1 (h.hp (3 + kk) (by omega)).2.2.2.2.1) (show ii < 509 by omega) (by decide) (hg (3 + kk) (by omega) ii (by omega)) ?_
  exact hret dX0_small_2_21 rfl (Nat.le_refl 0) (Nat.le_refl 0) ⟨by rw [← hkk, ← hii], rfl, rfl⟩
end
section
/-! ===== NtruRing: spread (printed by gen/ring.py) ===== -/
set_option maxHeartbeats 4000000 in
set_option maxRecDepth 100000 in
/-- spread(k, from, step) -/
theorem met_X0_spread (l : Launch) (D : va_G) (cI cS cP : ClassId) {L : List Nat} {f : Nat → va_E} {x : Nat} {T : Nat → Nat → Nat} (hx : nt_RG cS cP L f x T) (k fr sp : Int32) :
    nt_Mv l yX0_spread (ws_ yX0_spread cX0_spread 5 none) ({ frames := 1, cells := 0, slots := 0, locals := 20 } : Room) D cI cS cP [.ref x, .int k, .int fr, .int sp] L f (fun L' f' => nt_RG cS cP L' f' x (nt_tP T k fr sp)) 0 0 := by
  obtain ⟨wa, sa, W, S, pp, cc, qq, gg, h, hg⟩ := hx
  refine nt_enterV (own := RX0) _ (by decide) rfl [(0, .ref x), (1, .int k), (2, .int fr), (3, .int sp)] rfl (Nat.le_of_ble_eq_true rfl) (fun G F hn hret => ?_)
  obtain ⟨kk, hkk⟩ : ∃ z : Nat, z = nt_u k % 3 := ⟨_, rfl⟩
  have bkk : kk < 3 := by rw [hkk]; exact nt_k3 _
  have nws : cc kk ≠ cc (3 + kk) := h.hc kk (3 + kk) (by omega) (by omega) (by omega)
  have HH : ∀ g1 g2 : Nat → Int32, nt_RS cS cP L (va_up (va_up f (cc kk) (.inl (cS, 509, .inl g1))) (cc (3 + kk)) (.inl (cS, 509, .inl g2))) x wa sa W S pp cc qq (fun j => if j = 3 + kk then g2 else (fun j => if j = kk then g1 else gg j) j) := fun g1 g2 => (h.set (show kk < 6 by omega) g1).set (show 3 + kk < 6 by omega) g2
  refine nx_iconst F 1 rfl (v := nI 0) dX0_spread_0 (by decide +kernel) ?_
  refine nx_istore F 3 rfl dX0_spread_1 (by decide) [(4, .int (nI 0)), (0, .ref x), (1, .int k), (2, .int fr), (3, .int sp)] rfl ?_
  refine nx_f (va_up (va_up f (cc kk) (.inl (cS, 509, .inl (nt_w 0 0 (fun j => nI (nt_wv fr sp j)) (gg kk))))) (cc (3 + kk)) (.inl (cS, 509, .inl (nt_w 0 0 (fun j => nI (nt_sv fr sp j)) (gg (3 + kk)))))) (by rw [nt_w_0, nt_w_0, nt_up_id (f := f) (h.hp kk (by omega)).2.2.2.2.1, nt_up_id (f := f) (h.hp (3 + kk) (by omega)).2.2.2.2.1]) ?_
  refine nt_up (fun i => nt_X l ({ frames := 1, cells := 0, slots := 0, locals := 20 } : Room) D 5 G L (va_up (va_up f (cc kk) (.inl (cS, 509, .inl (nt_w 0 i (fun j => nI (nt_wv fr sp j)) (gg kk))))) (cc (3 + kk)) (.inl (cS, 509, .inl (nt_w 0 i (fun j => nI (nt_sv fr sp j)) (gg (3 + kk)))))) [] f 0 0 [(4, .int (nI i)), (0, .ref x), (1, .int k), (2, .int fr), (3, .int sp)] 3 []) 509 ?_ ?_
  · refine nx_iload F 5 rfl dX0_spread_3 0 rfl ?_
    refine nx_sipush F 8 rfl (v := nI 509) dX0_spread_5 (by decide +kernel) ?_
    refine nx_ge F 11 82 rfl dX0_spread_8 (by decide) (by omega) (by omega) (fun _ => ?_) (fun hh => absurd hh (by omega))
    refine hret dX0_spread_82 (Nat.le_refl 0) (Nat.le_refl 0) ⟨wa, sa, W, S, pp, cc, qq, _, HH _ _, fun i hi j hj => ?_⟩
    unfold nt_tP
    rw [← hkk]
    by_cases e1 : i = 3 + kk
    · rw [e1, nt_row_at]
      exact (congrFun (if_pos rfl) j).trans (nt_w_at0 hj)
    · rw [nt_row_ne e1]
      refine (congrFun (if_neg e1) j).trans ?_
      by_cases e2 : i = kk
      · rw [e2, nt_row_at]
        exact (congrFun (if_pos rfl) j).trans (nt_w_at0 hj)
      · rw [nt_row_ne e2]
        exact (congrFun (if_neg e2) j).trans (hg i hi j hj)
  · intro i qi ih
    refine nx_iload F 5 rfl dX0_spread_3 0 rfl ?_
    refine nx_sipush F 8 rfl (v := nI 509) dX0_spread_5 (by decide +kernel) ?_
    refine nx_ge F 11 82 rfl dX0_spread_8 (by decide) (by omega) (by omega) (fun hh => absurd hh (by omega)) (fun _ => ?_)
    have H1 := HH (nt_w 0 i (fun j => nI (nt_wv fr sp j)) (gg kk)) (nt_w 0 i (fun j => nI (nt_sv fr sp j)) (gg (3 + kk)))
    have H2 := HH (nt_w 0 (i + 1) (fun j => nI (nt_wv fr sp j)) (gg kk)) (nt_w 0 i (fun j => nI (nt_sv fr sp j)) (gg (3 + kk)))
    have bw : nt_wv fr sp i < 32768 := Nat.lt_of_lt_of_le (nt_lo_lt _) (by decide)
    refine nx_aload_n F 12 rfl dX0_spread_11 1 rfl ?_
    refine nx_get F 15 rfl dX0_spread_12 (nt_in1 H1.mx H1.fx) in_X0 rfl 0 (by decide) q73 rfl rfl ?_
    refine nx_iload_n F 16 rfl dX0_spread_15 2 rfl ?_
    refine nx_iS (st := [.ref wa]) (n := 1) F 19 rfl [.int k] dX0_spread_16 q84 q85 q2 q86 (by decide +kernel) ({ frames := 0, cells := 0, slots := 0, locals := 0 } : Room) rfl rfl ⟨(Nat.le_of_ble_eq_true rfl), (Nat.le_of_ble_eq_true rfl)⟩ ⟨(Nat.le_of_ble_eq_true rfl), (Nat.le_of_ble_eq_true rfl)⟩ (met_X0_k (f0 := f) l D cI cS cP k) rfl rfl (Nat.le_of_ble_eq_true rfl) (fun r L' f' hr => ?_)
    rw [hr, ← hkk]
    refine nx_qld F 20 rfl dX0_spread_19 (nt_in1 H1.mw H1.fw) (show kk < 3 by omega) (by decide) (H1.hW kk (by omega)) ?_
    refine nx_get F 23 rfl dX0_spread_20 (nt_in1 (H1.hp kk (by omega)).1 (H1.hp kk (by omega)).2.2.2.1) in_X2 rfl 0 (by decide) q65 rfl rfl ?_
    refine nx_iload F 25 rfl dX0_spread_23 0 rfl ?_
    refine nx_iload_n F 26 rfl dX0_spread_25 3 rfl ?_
    refine nx_iload_n F 27 rfl dX0_spread_26 4 rfl ?_
    refine nx_iload F 29 rfl dX0_spread_27 0 rfl ?_
    refine nx_imul F 30 rfl dX0_spread_29 rfl ?_
    refine nx_iadd F 31 rfl dX0_spread_30 rfl ?_
    refine nx_sipush F 34 rfl (v := nI 2047) dX0_spread_31 (by decide +kernel) ?_
    refine nx_iand F 35 rfl (v := nI (nt_wv fr sp i)) dX0_spread_34 (nt_lo_and _) ?_
    refine nx_i2s F 36 rfl (v := nI (nt_wv fr sp i)) dX0_spread_35 (nt_s16_N bw) ?_
    refine nx_sst F 37 rfl dX0_spread_36 (h.hp kk (by omega)).2.1 ((va_up_ne _ _ nws).trans (va_up_self _ _ _)) (show i < 509 by omega) (by decide) (va_up (va_up f (cc kk) (.inl (cS, 509, .inl (nt_w 0 (i + 1) (fun j => nI (nt_wv fr sp j)) (gg kk))))) (cc (3 + kk)) (.inl (cS, 509, .inl (nt_w 0 i (fun j => nI (nt_sv fr sp j)) (gg (3 + kk)))))) (by rw [nt_uuc nws, nt_w_s 0 i (fun j => nI (nt_wv fr sp j)) (gg kk) (p := i) (v := nt_s16 (nI (nt_wv fr sp i))) (Nat.zero_add i).symm (nt_s16_N bw)]) ?_
    refine nx_aload_n F 38 rfl dX0_spread_37 1 rfl ?_
    refine nx_get F 41 rfl dX0_spread_38 (nt_in1 H2.mx H2.fx) in_X0 rfl 1 (by decide) q74 rfl rfl ?_
    refine nx_iload_n F 42 rfl dX0_spread_41 2 rfl ?_
    refine nx_iS (st := [.ref sa]) (n := 1) F 45 rfl [.int k] dX0_spread_42 q84 q85 q2 q86 (by decide +kernel) ({ frames := 0, cells := 0, slots := 0, locals := 0 } : Room) rfl rfl ⟨(Nat.le_of_ble_eq_true rfl), (Nat.le_of_ble_eq_true rfl)⟩ ⟨(Nat.le_of_ble_eq_true rfl), (Nat.le_of_ble_eq_true rfl)⟩ (met_X0_k (f0 := f) l D cI cS cP k) rfl rfl (Nat.le_of_ble_eq_true rfl) (fun r L' f' hr => ?_)
    rw [hr, ← hkk]
    refine nx_qld F 46 rfl dX0_spread_45 (nt_in1 H2.ms H2.fs) (show kk < 3 by omega) (by decide) (H2.hS kk (by omega)) ?_
    refine nx_get F 49 rfl dX0_spread_46 (nt_in1 (H2.hp (3 + kk) (by omega)).1 (H2.hp (3 + kk) (by omega)).2.2.2.1) in_X2 rfl 0 (by decide) q65 rfl rfl ?_
    refine nx_iload F 51 rfl dX0_spread_49 0 rfl ?_
    refine nx_iload F 53 rfl dX0_spread_51 0 rfl ?_
    refine nx_sipush F 56 rfl (v := nI 508) dX0_spread_53 (by decide +kernel) ?_
    have bs := nt_sv_lt fr sp i
    refine nx_ne F 59 63 rfl dX0_spread_56 (by decide) (by omega) (by omega) (fun i8 => ?_) (fun i8 => ?_)
    · have es : nt_sv fr sp i = nt_u (fr ^^^ (sp * nI i)) % 3 := if_neg i8
      refine nx_iload_n F 64 rfl dX0_spread_63 3 rfl ?_
      refine nx_iload_n F 65 rfl dX0_spread_64 4 rfl ?_
      refine nx_iload F 67 rfl dX0_spread_65 0 rfl ?_
      refine nx_imul F 68 rfl dX0_spread_67 rfl ?_
      refine nx_ixor F 69 rfl (v := (fr ^^^ (sp * nI i))) dX0_spread_68 rfl ?_
      refine nx_ldc F 71 rfl dX0_spread_69 q87 ?_
      refine nx_iand F 72 rfl (v := nI (nt_u (fr ^^^ (sp * nI i)))) dX0_spread_71 (nt_u_and _) ?_
      refine nx_iconst F 73 rfl (v := nI 3) dX0_spread_72 (by decide +kernel) ?_
      refine nx_irem F 74 rfl (v := nI (nt_sv fr sp i)) dX0_spread_73 (by decide +kernel) (by rw [es]; exact nt_rem (nt_u_lt _) (by decide) (by decide)) ?_
      refine nx_i2s F 75 rfl (v := nI (nt_sv fr sp i)) dX0_spread_74 (nt_s16_N (by omega)) ?_
      refine nx_sst F 76 rfl dX0_spread_75 (h.hp (3 + kk) (by omega)).2.1 (va_up_self _ _ _) (show i < 509 by omega) (by decide) (va_up (va_up f (cc kk) (.inl (cS, 509, .inl (nt_w 0 (i + 1) (fun j => nI (nt_wv fr sp j)) (gg kk))))) (cc (3 + kk)) (.inl (cS, 509, .inl (nt_w 0 (i + 1) (fun j => nI (nt_sv fr sp j)) (gg (3 + kk)))))) (by rw [bx_uu, nt_w_s 0 i (fun j => nI (nt_sv fr sp j)) (gg (3 + kk)) (p := i) (v := nt_s16 (nI (nt_sv fr sp i))) (Nat.zero_add i).symm (nt_s16_N (by omega))]) ?_
      refine nx_iinc F 79 rfl dX0_spread_76 0 rfl (nI_1 _) (by decide) [(4, .int (nI (i + 1))), (0, .ref x), (1, .int k), (2, .int fr), (3, .int sp)] rfl ?_
      refine nx_goto F 3 dX0_spread_79 (by decide) ?_
      exact ih
    · have es : nt_sv fr sp i = 0 := if_pos i8
      refine nx_iconst F 60 rfl (v := nI 0) dX0_spread_59 (by decide +kernel) ?_
      refine nx_topi (v' := nI (nt_sv fr sp i)) (by rw [es]) ?_
      refine nx_goto F 75 dX0_spread_60 (by decide) ?_
      refine nx_sst F 76 rfl dX0_spread_75 (h.hp (3 + kk) (by omega)).2.1 (va_up_self _ _ _) (show i < 509 by omega) (by decide) (va_up (va_up f (cc kk) (.inl (cS, 509, .inl (nt_w 0 (i + 1) (fun j => nI (nt_wv fr sp j)) (gg kk))))) (cc (3 + kk)) (.inl (cS, 509, .inl (nt_w 0 (i + 1) (fun j => nI (nt_sv fr sp j)) (gg (3 + kk)))))) (by rw [bx_uu, nt_w_s 0 i (fun j => nI (nt_sv fr sp j)) (gg (3 + kk)) (p := i) (v := nt_s16 (nI (nt_sv fr sp i))) (Nat.zero_add i).symm (nt_s16_N (by omega))]) ?_
      refine nx_iinc F 79 rfl dX0_spread_76 0 rfl (nI_1 _) (by decide) [(4, .int (nI (i + 1))), (0, .ref x), (1, .int k), (2, .int fr), (3, .int sp)] rfl ?_
      refine nx_goto F 3 dX0_spread_79 (by decide) ?_
      exact ih
end
section
/-! ===== NtruRing: times, timesPhi, timesThree (printed by gen/ring.py) ===== -/
set_option maxHeartbeats 4000000 in
set_option maxRecDepth 100000 in
/-- times(to, a, b) -/
theorem met_X0_times (l : Launch) (D : va_G) (cI cS cP : ClassId) {L : List Nat} {f : Nat → va_E} {x : Nat} {T : Nat → Nat → Nat} (hx : nt_RG cS cP L f x T) (hT : nt_bd T) (k a b : Int32) :
    nt_Mv l yX0_times (ws_ yX0_times cX0_times 5 none) ({ frames := 6, cells := 7, slots := 7133, locals := 221 } : Room) D cI cS cP [.ref x, .int k, .int a, .int b] L f (fun L' f' => nt_RG cS cP L' f' x (nt_tT T k a b)) 7 7133 := by
  obtain ⟨wa, sa, W, S, pp, cc, qq, gg, h, hg⟩ := hx
  refine nt_enterV (own := RX0) _ (by decide) rfl [(0, .ref x), (1, .int k), (2, .int a), (3, .int b)] rfl (Nat.le_of_ble_eq_true rfl) (fun G F hn hret => ?_)
  obtain ⟨kk, hkk⟩ : ∃ z : Nat, z = nt_u k % 3 := ⟨_, rfl⟩
  have bkk : kk < 3 := by rw [hkk]; exact nt_k3 _
  obtain ⟨ka, hka⟩ : ∃ z : Nat, z = nt_u a % 3 := ⟨_, rfl⟩
  have bka : ka < 3 := by rw [hka]; exact nt_k3 _
  obtain ⟨kb, hkb⟩ : ∃ z : Nat, z = nt_u b % 3 := ⟨_, rfl⟩
  have bkb : kb < 3 := by rw [hkb]; exact nt_k3 _
  refine nx_rS1 (st := []) (n := 0) F 3 rfl [] dX0_times_0 q19 q20 q2 q21 (by decide +kernel) ({ frames := 4, cells := 3, slots := 516, locals := 82 } : Room) rfl rfl ⟨(Nat.le_of_ble_eq_true rfl), (Nat.le_of_ble_eq_true rfl)⟩ ⟨(Nat.le_of_ble_eq_true rfl), (Nat.le_of_ble_eq_true rfl)⟩ (met_X0_made l D cI cS cP) rfl rfl (Nat.le_of_ble_eq_true rfl) (fun z L1 f1 hz => ?_)
  obtain ⟨c, q, hz1, hz2, hL, hf, hp⟩ := hz
  have h1 := h.mono hL hf
  refine nx_astore F 5 rfl dX0_times_3 (by decide) [(4, .ref z), (0, .ref x), (1, .int k), (2, .int a), (3, .int b)] rfl ?_
  refine nx_aload F 7 rfl dX0_times_5 0 rfl ?_
  refine nx_aload_n F 8 rfl dX0_times_7 1 rfl ?_
  refine nx_get F 11 rfl dX0_times_8 (nt_in1 h1.mx h1.fx) in_X0 rfl 0 (by decide) q73 rfl rfl ?_
  refine nx_iload_n F 12 rfl dX0_times_11 3 rfl ?_
  refine nx_iS (st := [.ref wa, .ref z]) (n := 1) F 15 rfl [.int a] dX0_times_12 q84 q85 q2 q86 (by decide +kernel) ({ frames := 0, cells := 0, slots := 0, locals := 0 } : Room) rfl rfl ⟨(Nat.le_of_ble_eq_true rfl), (Nat.le_of_ble_eq_true rfl)⟩ ⟨(Nat.le_of_ble_eq_true rfl), (Nat.le_of_ble_eq_true rfl)⟩ (met_X0_k (f0 := f) l D cI cS cP a) rfl rfl (Nat.le_of_ble_eq_true rfl) (fun r L' f' hr => ?_)
  rw [hr, ← hka]
  refine nx_qld F 16 rfl dX0_times_15 (nt_in1 h1.mw h1.fw) (show ka < 3 by omega) (by decide) (h1.hW ka (by omega)) ?_
  refine nx_aload_n F 17 rfl dX0_times_16 1 rfl ?_
  refine nx_get F 20 rfl dX0_times_17 (nt_in1 h1.mx h1.fx) in_X0 rfl 0 (by decide) q73 rfl rfl ?_
  refine nx_iload_n F 21 rfl dX0_times_20 4 rfl ?_
  refine nx_iS (st := [.ref wa, .ref (pp ka), .ref z]) (n := 1) F 24 rfl [.int b] dX0_times_21 q84 q85 q2 q86 (by decide +kernel) ({ frames := 0, cells := 0, slots := 0, locals := 0 } : Room) rfl rfl ⟨(Nat.le_of_ble_eq_true rfl), (Nat.le_of_ble_eq_true rfl)⟩ ⟨(Nat.le_of_ble_eq_true rfl), (Nat.le_of_ble_eq_true rfl)⟩ (met_X0_k (f0 := f) l D cI cS cP b) rfl rfl (Nat.le_of_ble_eq_true rfl) (fun r L' f' hr => ?_)
  rw [hr, ← hkb]
  refine nx_qld F 25 rfl dX0_times_24 (nt_in1 h1.mw h1.fw) (show kb < 3 by omega) (by decide) (h1.hW kb (by omega)) ?_
  refine nx_vU1 (st := []) (n := 2) F 28 rfl [.ref (pp ka), .ref (pp kb)] dX0_times_25 q100 q102 q103 q101 q3 q104 (by decide +kernel) ({ frames := 5, cells := 4, slots := 6617, locals := 190 } : Room) rfl rfl ⟨(Nat.le_of_ble_eq_true rfl), (Nat.le_of_ble_eq_true rfl)⟩ ⟨(Nat.le_of_ble_eq_true rfl), (Nat.le_of_ble_eq_true rfl)⟩ (nt_in1 hp.1 hp.2.2.2.1) rfl (met_X1_rqMul l D cI cS cP hp (h1.hp ka (by omega)) (h1.hp kb (by omega))) rfl rfl (Nat.le_of_ble_eq_true rfl) (fun L' f' hk => ?_)
  obtain ⟨hk1, g1, hk2, hg1⟩ := hk
  rw [hk1, hk2]
  have hC : ∀ j, j < 509 → nt_C (gg ka) (gg kb) j = nI (nt_cN (T ka) (T kb) j) := fun j hj => nt_cy (hg ka (by omega)) (hg kb (by omega)) hj
  have hB : ∀ j, nt_cN (T ka) (T kb) j < 2147483648 := fun j => hT.cW bka bkb j
  have hp1 := hp.set g1
  refine nx_aload F 30 rfl dX0_times_28 0 rfl ?_
  refine nx_vS1 (st := []) (n := 1) F 33 rfl [.ref z] dX0_times_30 q108 q109 q2 q110 (by decide +kernel) ({ frames := 0, cells := 0, slots := 0, locals := 0 } : Room) rfl rfl ⟨(Nat.le_of_ble_eq_true rfl), (Nat.le_of_ble_eq_true rfl)⟩ ⟨(Nat.le_of_ble_eq_true rfl), (Nat.le_of_ble_eq_true rfl)⟩ (met_X0_cut l D cI cS cP hp1) rfl rfl (Nat.le_of_ble_eq_true rfl) (fun L' f' hk => ?_)
  obtain ⟨hk1, g2, hk2, hg2⟩ := hk
  rw [hk1, hk2, bx_uu]
  have hp2 := hp.set g2
  have h2 := h.mono (L' := L1) (f' := va_up f1 c (.inl (cS, 509, .inl g2))) hL (fun y hy => (va_up_ne _ _ (show y ≠ c from fun e => hz2 (e ▸ hy))).trans (hf y hy))
  have hcc : ∀ j, j < 6 → c ≠ cc j := fun j hj e => hz2 (e ▸ (h.hp j hj).2.1)
  refine nx_aload_n F 34 rfl dX0_times_33 1 rfl ?_
  refine nx_get F 37 rfl dX0_times_34 (nt_in1 h2.mx h2.fx) in_X0 rfl 0 (by decide) q73 rfl rfl ?_
  refine nx_iload_n F 38 rfl dX0_times_37 2 rfl ?_
  refine nx_iS (st := [.ref wa]) (n := 1) F 41 rfl [.int k] dX0_times_38 q84 q85 q2 q86 (by decide +kernel) ({ frames := 0, cells := 0, slots := 0, locals := 0 } : Room) rfl rfl ⟨(Nat.le_of_ble_eq_true rfl), (Nat.le_of_ble_eq_true rfl)⟩ ⟨(Nat.le_of_ble_eq_true rfl), (Nat.le_of_ble_eq_true rfl)⟩ (met_X0_k (f0 := f) l D cI cS cP k) rfl rfl (Nat.le_of_ble_eq_true rfl) (fun r L' f' hr => ?_)
  rw [hr, ← hkk]
  refine nx_aload F 43 rfl dX0_times_41 0 rfl ?_
  refine nx_qst F 44 rfl dX0_times_43 h2.mw h2.fw hp2.1 hp2.2.2.2.1 (show kk < 3 by omega) (by decide) _ rfl ?_
  refine hret dX0_times_44 (Nat.le_of_ble_eq_true rfl) (Nat.le_of_ble_eq_true rfl) ⟨wa, sa, _, _, _, _, _, _, h2.putW bkk hp2 hcc, fun i hi j hj => ?_⟩
  unfold nt_tT
  rw [← hkk, ← hka, ← hkb]
  refine nt_rB hg (fun j hj => ?_) i hi j hj
  show g2 j = _
  rw [hg2 j hj, hg1 j hj, hC j hj]
  exact nt_cut (hB j)

set_option maxHeartbeats 4000000 in
set_option maxRecDepth 100000 in
/-- timesPhi(to, a, b) -/
theorem met_X0_timesPhi (l : Launch) (D : va_G) (cI cS cP : ClassId) {L : List Nat} {f : Nat → va_E} {x : Nat} {T : Nat → Nat → Nat} (hx : nt_RG cS cP L f x T) (hT : nt_bd T) (k a b : Int32) :
    nt_Mv l yX0_timesPhi (ws_ yX0_timesPhi cX0_timesPhi 5 none) ({ frames := 7, cells := 7, slots := 7133, locals := 243 } : Room) D cI cS cP [.ref x, .int k, .int a, .int b] L f (fun L' f' => nt_RG cS cP L' f' x (nt_tF T k a b)) 7 7133 := by
  obtain ⟨wa, sa, W, S, pp, cc, qq, gg, h, hg⟩ := hx
  refine nt_enterV (own := RX0) _ (by decide) rfl [(0, .ref x), (1, .int k), (2, .int a), (3, .int b)] rfl (Nat.le_of_ble_eq_true rfl) (fun G F hn hret => ?_)
  obtain ⟨kk, hkk⟩ : ∃ z : Nat, z = nt_u k % 3 := ⟨_, rfl⟩
  have bkk : kk < 3 := by rw [hkk]; exact nt_k3 _
  obtain ⟨ka, hka⟩ : ∃ z : Nat, z = nt_u a % 3 := ⟨_, rfl⟩
  have bka : ka < 3 := by rw [hka]; exact nt_k3 _
  obtain ⟨kb, hkb⟩ : ∃ z : Nat, z = nt_u b % 3 := ⟨_, rfl⟩
  have bkb : kb < 3 := by rw [hkb]; exact nt_k3 _
  refine nx_rS1 (st := []) (n := 0) F 3 rfl [] dX0_timesPhi_0 q19 q20 q2 q21 (by decide +kernel) ({ frames := 4, cells := 3, slots := 516, locals := 82 } : Room) rfl rfl ⟨(Nat.le_of_ble_eq_true rfl), (Nat.le_of_ble_eq_true rfl)⟩ ⟨(Nat.le_of_ble_eq_true rfl), (Nat.le_of_ble_eq_true rfl)⟩ (met_X0_made l D cI cS cP) rfl rfl (Nat.le_of_ble_eq_true rfl) (fun z L1 f1 hz => ?_)
  obtain ⟨c, q, hz1, hz2, hL, hf, hp⟩ := hz
  have h1 := h.mono hL hf
  refine nx_astore F 5 rfl dX0_timesPhi_3 (by decide) [(4, .ref z), (0, .ref x), (1, .int k), (2, .int a), (3, .int b)] rfl ?_
  refine nx_aload F 7 rfl dX0_timesPhi_5 0 rfl ?_
  refine nx_aload_n F 8 rfl dX0_timesPhi_7 1 rfl ?_
  refine nx_get F 11 rfl dX0_timesPhi_8 (nt_in1 h1.mx h1.fx) in_X0 rfl 0 (by decide) q73 rfl rfl ?_
  refine nx_iload_n F 12 rfl dX0_timesPhi_11 3 rfl ?_
  refine nx_iS (st := [.ref wa, .ref z]) (n := 1) F 15 rfl [.int a] dX0_timesPhi_12 q84 q85 q2 q86 (by decide +kernel) ({ frames := 0, cells := 0, slots := 0, locals := 0 } : Room) rfl rfl ⟨(Nat.le_of_ble_eq_true rfl), (Nat.le_of_ble_eq_true rfl)⟩ ⟨(Nat.le_of_ble_eq_true rfl), (Nat.le_of_ble_eq_true rfl)⟩ (met_X0_k (f0 := f) l D cI cS cP a) rfl rfl (Nat.le_of_ble_eq_true rfl) (fun r L' f' hr => ?_)
  rw [hr, ← hka]
  refine nx_qld F 16 rfl dX0_timesPhi_15 (nt_in1 h1.mw h1.fw) (show ka < 3 by omega) (by decide) (h1.hW ka (by omega)) ?_
  refine nx_aload_n F 17 rfl dX0_timesPhi_16 1 rfl ?_
  refine nx_get F 20 rfl dX0_timesPhi_17 (nt_in1 h1.mx h1.fx) in_X0 rfl 0 (by decide) q73 rfl rfl ?_
  refine nx_iload_n F 21 rfl dX0_timesPhi_20 4 rfl ?_
  refine nx_iS (st := [.ref wa, .ref (pp ka), .ref z]) (n := 1) F 24 rfl [.int b] dX0_timesPhi_21 q84 q85 q2 q86 (by decide +kernel) ({ frames := 0, cells := 0, slots := 0, locals := 0 } : Room) rfl rfl ⟨(Nat.le_of_ble_eq_true rfl), (Nat.le_of_ble_eq_true rfl)⟩ ⟨(Nat.le_of_ble_eq_true rfl), (Nat.le_of_ble_eq_true rfl)⟩ (met_X0_k (f0 := f) l D cI cS cP b) rfl rfl (Nat.le_of_ble_eq_true rfl) (fun r L' f' hr => ?_)
  rw [hr, ← hkb]
  refine nx_qld F 25 rfl dX0_timesPhi_24 (nt_in1 h1.mw h1.fw) (show kb < 3 by omega) (by decide) (h1.hW kb (by omega)) ?_
  refine nx_vU1 (st := []) (n := 2) F 28 rfl [.ref (pp ka), .ref (pp kb)] dX0_timesPhi_25 q116 q118 q119 q117 q3 q120 (by decide +kernel) ({ frames := 6, cells := 4, slots := 6617, locals := 221 } : Room) rfl rfl ⟨(Nat.le_of_ble_eq_true rfl), (Nat.le_of_ble_eq_true rfl)⟩ ⟨(Nat.le_of_ble_eq_true rfl), (Nat.le_of_ble_eq_true rfl)⟩ (nt_in1 hp.1 hp.2.2.2.1) rfl (met_X1_sqMul l D cI cS cP hp (h1.hp ka (by omega)) (h1.hp kb (by omega))) rfl rfl (Nat.le_of_ble_eq_true rfl) (fun L' f' hk => ?_)
  obtain ⟨hk1, g1, hk2, hg1⟩ := hk
  rw [hk1, hk2]
  have hC : ∀ j, j < 509 → nt_C (gg ka) (gg kb) j = nI (nt_cN (T ka) (T kb) j) := fun j hj => nt_cy (hg ka (by omega)) (hg kb (by omega)) hj
  have hB : ∀ j, nt_cN (T ka) (T kb) j < 2147483648 := fun j => hT.cW bka bkb j
  have hp1 := hp.set g1
  refine nx_aload F 30 rfl dX0_timesPhi_28 0 rfl ?_
  refine nx_vS1 (st := []) (n := 1) F 33 rfl [.ref z] dX0_timesPhi_30 q108 q109 q2 q110 (by decide +kernel) ({ frames := 0, cells := 0, slots := 0, locals := 0 } : Room) rfl rfl ⟨(Nat.le_of_ble_eq_true rfl), (Nat.le_of_ble_eq_true rfl)⟩ ⟨(Nat.le_of_ble_eq_true rfl), (Nat.le_of_ble_eq_true rfl)⟩ (met_X0_cut l D cI cS cP hp1) rfl rfl (Nat.le_of_ble_eq_true rfl) (fun L' f' hk => ?_)
  obtain ⟨hk1, g2, hk2, hg2⟩ := hk
  rw [hk1, hk2, bx_uu]
  have hp2 := hp.set g2
  have h2 := h.mono (L' := L1) (f' := va_up f1 c (.inl (cS, 509, .inl g2))) hL (fun y hy => (va_up_ne _ _ (show y ≠ c from fun e => hz2 (e ▸ hy))).trans (hf y hy))
  have hcc : ∀ j, j < 6 → c ≠ cc j := fun j hj e => hz2 (e ▸ (h.hp j hj).2.1)
  refine nx_aload_n F 34 rfl dX0_timesPhi_33 1 rfl ?_
  refine nx_get F 37 rfl dX0_timesPhi_34 (nt_in1 h2.mx h2.fx) in_X0 rfl 0 (by decide) q73 rfl rfl ?_
  refine nx_iload_n F 38 rfl dX0_timesPhi_37 2 rfl ?_
  refine nx_iS (st := [.ref wa]) (n := 1) F 41 rfl [.int k] dX0_timesPhi_38 q84 q85 q2 q86 (by decide +kernel) ({ frames := 0, cells := 0, slots := 0, locals := 0 } : Room) rfl rfl ⟨(Nat.le_of_ble_eq_true rfl), (Nat.le_of_ble_eq_true rfl)⟩ ⟨(Nat.le_of_ble_eq_true rfl), (Nat.le_of_ble_eq_true rfl)⟩ (met_X0_k (f0 := f) l D cI cS cP k) rfl rfl (Nat.le_of_ble_eq_true rfl) (fun r L' f' hr => ?_)
  rw [hr, ← hkk]
  refine nx_aload F 43 rfl dX0_timesPhi_41 0 rfl ?_
  refine nx_qst F 44 rfl dX0_timesPhi_43 h2.mw h2.fw hp2.1 hp2.2.2.2.1 (show kk < 3 by omega) (by decide) _ rfl ?_
  refine hret dX0_timesPhi_44 (Nat.le_of_ble_eq_true rfl) (Nat.le_of_ble_eq_true rfl) ⟨wa, sa, _, _, _, _, _, _, h2.putW bkk hp2 hcc, fun i hi j hj => ?_⟩
  unfold nt_tF
  rw [← hkk, ← hka, ← hkb]
  refine nt_rB hg (fun j hj => ?_) i hi j hj
  show g2 j = _
  rw [hg2 j hj, hg1 j hj, hC j hj, hC 508 (by decide)]
  exact nt_phi (hB j) (hB 508)

set_option maxHeartbeats 4000000 in
set_option maxRecDepth 100000 in
/-- timesThree(to, a, b) -/
theorem met_X0_timesThree (l : Launch) (D : va_G) (cI cS cP : ClassId) {L : List Nat} {f : Nat → va_E} {x : Nat} {T : Nat → Nat → Nat} (hx : nt_RG cS cP L f x T) (hT : nt_bd T) (k a b : Int32) :
    nt_Mv l yX0_timesThree (ws_ yX0_timesThree cX0_timesThree 5 none) ({ frames := 7, cells := 7, slots := 7133, locals := 243 } : Room) D cI cS cP [.ref x, .int k, .int a, .int b] L f (fun L' f' => nt_RG cS cP L' f' x (nt_tH T k a b)) 7 7133 := by
  obtain ⟨wa, sa, W, S, pp, cc, qq, gg, h, hg⟩ := hx
  refine nt_enterV (own := RX0) _ (by decide) rfl [(0, .ref x), (1, .int k), (2, .int a), (3, .int b)] rfl (Nat.le_of_ble_eq_true rfl) (fun G F hn hret => ?_)
  obtain ⟨kk, hkk⟩ : ∃ z : Nat, z = nt_u k % 3 := ⟨_, rfl⟩
  have bkk : kk < 3 := by rw [hkk]; exact nt_k3 _
  obtain ⟨ka, hka⟩ : ∃ z : Nat, z = nt_u a % 3 := ⟨_, rfl⟩
  have bka : ka < 3 := by rw [hka]; exact nt_k3 _
  obtain ⟨kb, hkb⟩ : ∃ z : Nat, z = nt_u b % 3 := ⟨_, rfl⟩
  have bkb : kb < 3 := by rw [hkb]; exact nt_k3 _
  refine nx_rS1 (st := []) (n := 0) F 3 rfl [] dX0_timesThree_0 q19 q20 q2 q21 (by decide +kernel) ({ frames := 4, cells := 3, slots := 516, locals := 82 } : Room) rfl rfl ⟨(Nat.le_of_ble_eq_true rfl), (Nat.le_of_ble_eq_true rfl)⟩ ⟨(Nat.le_of_ble_eq_true rfl), (Nat.le_of_ble_eq_true rfl)⟩ (met_X0_made l D cI cS cP) rfl rfl (Nat.le_of_ble_eq_true rfl) (fun z L1 f1 hz => ?_)
  obtain ⟨c, q, hz1, hz2, hL, hf, hp⟩ := hz
  have h1 := h.mono hL hf
  refine nx_astore F 5 rfl dX0_timesThree_3 (by decide) [(4, .ref z), (0, .ref x), (1, .int k), (2, .int a), (3, .int b)] rfl ?_
  refine nx_aload F 7 rfl dX0_timesThree_5 0 rfl ?_
  refine nx_aload_n F 8 rfl dX0_timesThree_7 1 rfl ?_
  refine nx_get F 11 rfl dX0_timesThree_8 (nt_in1 h1.mx h1.fx) in_X0 rfl 1 (by decide) q74 rfl rfl ?_
  refine nx_iload_n F 12 rfl dX0_timesThree_11 3 rfl ?_
  refine nx_iS (st := [.ref sa, .ref z]) (n := 1) F 15 rfl [.int a] dX0_timesThree_12 q84 q85 q2 q86 (by decide +kernel) ({ frames := 0, cells := 0, slots := 0, locals := 0 } : Room) rfl rfl ⟨(Nat.le_of_ble_eq_true rfl), (Nat.le_of_ble_eq_true rfl)⟩ ⟨(Nat.le_of_ble_eq_true rfl), (Nat.le_of_ble_eq_true rfl)⟩ (met_X0_k (f0 := f) l D cI cS cP a) rfl rfl (Nat.le_of_ble_eq_true rfl) (fun r L' f' hr => ?_)
  rw [hr, ← hka]
  refine nx_qld F 16 rfl dX0_timesThree_15 (nt_in1 h1.ms h1.fs) (show ka < 3 by omega) (by decide) (h1.hS ka (by omega)) ?_
  refine nx_aload_n F 17 rfl dX0_timesThree_16 1 rfl ?_
  refine nx_get F 20 rfl dX0_timesThree_17 (nt_in1 h1.mx h1.fx) in_X0 rfl 1 (by decide) q74 rfl rfl ?_
  refine nx_iload_n F 21 rfl dX0_timesThree_20 4 rfl ?_
  refine nx_iS (st := [.ref sa, .ref (pp (3 + ka)), .ref z]) (n := 1) F 24 rfl [.int b] dX0_timesThree_21 q84 q85 q2 q86 (by decide +kernel) ({ frames := 0, cells := 0, slots := 0, locals := 0 } : Room) rfl rfl ⟨(Nat.le_of_ble_eq_true rfl), (Nat.le_of_ble_eq_true rfl)⟩ ⟨(Nat.le_of_ble_eq_true rfl), (Nat.le_of_ble_eq_true rfl)⟩ (met_X0_k (f0 := f) l D cI cS cP b) rfl rfl (Nat.le_of_ble_eq_true rfl) (fun r L' f' hr => ?_)
  rw [hr, ← hkb]
  refine nx_qld F 25 rfl dX0_timesThree_24 (nt_in1 h1.ms h1.fs) (show kb < 3 by omega) (by decide) (h1.hS kb (by omega)) ?_
  refine nx_vU1 (st := []) (n := 2) F 28 rfl [.ref (pp (3 + ka)), .ref (pp (3 + kb))] dX0_timesThree_25 q131 q133 q134 q132 q3 q135 (by decide +kernel) ({ frames := 6, cells := 4, slots := 6617, locals := 221 } : Room) rfl rfl ⟨(Nat.le_of_ble_eq_true rfl), (Nat.le_of_ble_eq_true rfl)⟩ ⟨(Nat.le_of_ble_eq_true rfl), (Nat.le_of_ble_eq_true rfl)⟩ (nt_in1 hp.1 hp.2.2.2.1) rfl (met_X1_s3Mul l D cI cS cP hp (h1.hp (3 + ka) (by omega)) (h1.hp (3 + kb) (by omega))) rfl rfl (Nat.le_of_ble_eq_true rfl) (fun L' f' hk => ?_)
  obtain ⟨hk1, g1, hk2, hg1⟩ := hk
  rw [hk1, hk2]
  have hC : ∀ j, j < 509 → nt_C (gg (3 + ka)) (gg (3 + kb)) j = nI (nt_cN (T (3 + ka)) (T (3 + kb)) j) := fun j hj => nt_cy (hg (3 + ka) (by omega)) (hg (3 + kb) (by omega)) hj
  have hB : ∀ j, nt_cN (T (3 + ka)) (T (3 + kb)) j < 10000 := fun j => hT.cS bka bkb j
  have hp2 := hp.set g1
  have h2 := h.mono (L' := L1) (f' := va_up f1 c (.inl (cS, 509, .inl g1))) hL (fun y hy => (va_up_ne _ _ (show y ≠ c from fun e => hz2 (e ▸ hy))).trans (hf y hy))
  have hcc : ∀ j, j < 6 → c ≠ cc j := fun j hj e => hz2 (e ▸ (h.hp j hj).2.1)
  refine nx_aload_n F 29 rfl dX0_timesThree_28 1 rfl ?_
  refine nx_get F 32 rfl dX0_timesThree_29 (nt_in1 h2.mx h2.fx) in_X0 rfl 1 (by decide) q74 rfl rfl ?_
  refine nx_iload_n F 33 rfl dX0_timesThree_32 2 rfl ?_
  refine nx_iS (st := [.ref sa]) (n := 1) F 36 rfl [.int k] dX0_timesThree_33 q84 q85 q2 q86 (by decide +kernel) ({ frames := 0, cells := 0, slots := 0, locals := 0 } : Room) rfl rfl ⟨(Nat.le_of_ble_eq_true rfl), (Nat.le_of_ble_eq_true rfl)⟩ ⟨(Nat.le_of_ble_eq_true rfl), (Nat.le_of_ble_eq_true rfl)⟩ (met_X0_k (f0 := f) l D cI cS cP k) rfl rfl (Nat.le_of_ble_eq_true rfl) (fun r L' f' hr => ?_)
  rw [hr, ← hkk]
  refine nx_aload F 38 rfl dX0_timesThree_36 0 rfl ?_
  refine nx_qst F 39 rfl dX0_timesThree_38 h2.ms h2.fs hp2.1 hp2.2.2.2.1 (show kk < 3 by omega) (by decide) _ rfl ?_
  refine hret dX0_timesThree_39 (Nat.le_of_ble_eq_true rfl) (Nat.le_of_ble_eq_true rfl) ⟨wa, sa, _, _, _, _, _, _, h2.putS (r := kk) hp2 hcc, fun i hi j hj => ?_⟩
  unfold nt_tH
  rw [← hkk, ← hka, ← hkb]
  refine nt_rB hg (fun j hj => ?_) i hi j hj
  show g1 j = _
  have e1 := hB j
  have e2 := hB 508
  rw [hg1 j hj, hC j hj, hC 508 (by decide), nt_s16_N (show nt_cN (T (3 + ka)) (T (3 + kb)) j < 32768 by omega), nt_s16_N (show nt_cN (T (3 + ka)) (T (3 + kb)) 508 < 32768 by omega), nt_three e1 e2]
end
section
/-! ===== NtruRing: its start (printed by gen/ring.py) ===== -/
/-- the polynomials made so far: n of them, all zero, their cells apart -/
def nt_PS (cS : ClassId) (L : List Nat) (f : Nat → va_E) (n : Nat) (pp cc qq : Nat → Nat) : Prop := (∀ i, i < n → nt_poly cS L f (pp i) (cc i) (qq i) (fun _ => 0)) ∧ ∀ i j, i < n → j < n → i ≠ j → cc i ≠ cc j
theorem nt_PS.next {cS : ClassId} {L L' : List Nat} {f f' : Nat → va_E} {n r c q : Nat} {pp cc qq : Nat → Nat} (h : nt_PS cS L f n pp cc qq) (hc : c ∉ L) (hL : ∀ a, a ∈ L → a ∈ L') (hf : ∀ a, a ∈ L → f' a = f a) (hp : nt_poly cS L' f' r c q (fun _ => 0)) : nt_PS cS L' f' (n + 1) (va_up pp n r) (va_up cc n c) (va_up qq n q) := by
  have fr : ∀ i, i < n → c ≠ cc i := fun i hi e => hc (e ▸ (h.1 i hi).2.1)
  refine ⟨fun i hi => ?_, fun i j hi hj hij => ?_⟩
  · by_cases e : i = n
    · rw [e, va_up_self, va_up_self, va_up_self]
      exact hp
    · rw [va_up_ne _ _ e, va_up_ne _ _ e, va_up_ne _ _ e]
      exact (h.1 i (by omega)).mono hL hf
  · by_cases e : i = n
    · rw [e, va_up_self, va_up_ne _ _ (show j ≠ n by omega)]
      exact fr j (by omega)
    · rw [va_up_ne _ _ e]
      by_cases e2 : j = n
      · rw [e2, va_up_self]
        exact (fr i (by omega)).symm
      · rw [va_up_ne _ _ e2]
        exact h.2 i j (by omega) (by omega) hij
theorem nt_PS.mono {cS : ClassId} {L L' : List Nat} {f f' : Nat → va_E} {n : Nat} {pp cc qq : Nat → Nat} (h : nt_PS cS L f n pp cc qq) (hL : ∀ a, a ∈ L → a ∈ L') (hf : ∀ a, a ∈ L → f' a = f a) : nt_PS cS L' f' n pp cc qq := ⟨fun i hi => (h.1 i hi).mono hL hf, h.2⟩
theorem nt_PS.upA {cS cP : ClassId} {L : List Nat} {f : Nat → va_E} {n a : Nat} {pp cc qq : Nat → Nat} {V : Nat → Option Nat} {e : va_E} (h : nt_PS cS L f n pp cc qq) (fa : f a = .inl (cP, 3, .inr (.inr (.inr (.inr V))))) : nt_PS cS L (va_up f a e) n pp cc qq :=
  ⟨fun i hi => (h.1 i hi).up (nt_nek (h.1 i hi).2.2.2.1 fa (by simp)) (nt_nek (h.1 i hi).2.2.2.2.1 fa (by simp)) (nt_nek (h.1 i hi).2.2.2.2.2 fa (by simp)), h.2⟩
theorem nt_PS.upX {cS : ClassId} {L : List Nat} {f : Nat → va_E} {n x : Nat} {pp cc qq : Nat → Nat} {fs : List Value} {e : va_E} (h : nt_PS cS L f n pp cc qq) (fx : f x = .inr (0, fs)) : nt_PS cS L (va_up f x e) n pp cc qq :=
  ⟨fun i hi => (h.1 i hi).up (nt_nek (h.1 i hi).2.2.2.1 fx (by simp)) (nt_nek (h.1 i hi).2.2.2.2.1 fx (by simp)) (nt_nek (h.1 i hi).2.2.2.2.2 fx (by simp)), h.2⟩

set_option maxHeartbeats 4000000 in
set_option maxRecDepth 100000 in
/-- NtruRing(): six polynomials of zeros -/
theorem met_X0_init (l : Launch) (D : va_G) (cI cS cP : ClassId) {L : List Nat} {f : Nat → va_E} {x : Nat} {v0 v1 : Value} (hx : x ∈ L) (fx : f x = .inr (0, [v0, v1])) :
    nt_Mv l yX0_init (ws_ yX0_init cX0_init 1 none) ({ frames := 5, cells := 20, slots := 3102, locals := 101 } : Room) D cI cS cP [.ref x] L f (fun L' f' => nt_RG cS cP L' f' x (fun _ _ => 0)) 20 3102 := by
  refine nt_enterV (own := RX0) _ (by decide) rfl [(0, .ref x)] rfl (Nat.le_of_ble_eq_true rfl) (fun G F hn hret => ?_)
  have P0 : nt_PS cS L f 0 (fun _ => 0) (fun _ => 0) (fun _ => 0) := ⟨fun i hi => absurd hi (Nat.not_lt_zero i), fun i j hi => absurd hi (Nat.not_lt_zero i)⟩
  refine nx_aload_n F 1 rfl dX0_init_0 0 rfl ?_
  refine nx_obj F 4 rfl dX0_init_1 q14 (Nat.le_of_ble_eq_true rfl) (Nat.le_of_ble_eq_true rfl) ?_
  refine nx_aload_n F 5 rfl dX0_init_4 0 rfl ?_
  refine nx_iconst F 6 rfl (v := nI 3) dX0_init_5 (by decide +kernel) ?_
  refine nx_newP F 9 rfl dX0_init_6 q17 (by decide) ⟨(Nat.le_of_ble_eq_true rfl), (Nat.le_of_ble_eq_true rfl)⟩ (fun wa hwa => ?_)
  obtain ⟨fa1, efa1⟩ : ∃ z : Nat → va_E, z = va_up f wa (.inl (cP, 3, .inr (.inr (.inr (.inr (fun _ => none)))))) := ⟨_, rfl⟩
  obtain ⟨La1, eLa1⟩ : ∃ z : List Nat, z = L ++ [wa] := ⟨_, rfl⟩
  rw [← efa1, ← eLa1]
  have l1 : ∀ a, a ∈ L → a ∈ La1 := fun a ha => by rw [eLa1]; exact List.mem_append_left _ ha
  have g1 : ∀ a, a ∈ L → fa1 a = f a := fun a ha => by rw [efa1]; exact va_up_ne _ _ (fun e => hwa (e ▸ ha))
  have mx1 := l1 x hx
  have fx1 := (g1 x hx).trans fx
  have P1 := P0.mono l1 g1
  have mwa1 : wa ∈ La1 := by rw [eLa1]; exact List.mem_append_right _ List.mem_cons_self
  have fwa1 : fa1 wa = .inl (cP, 3, .inr (.inr (.inr (.inr (fun _ => none))))) := by rw [efa1]; exact va_up_self _ _ _
  refine nx_dup F 10 rfl dX0_init_9 rfl ?_
  refine nx_iconst F 11 rfl (v := nI 0) dX0_init_10 (by decide +kernel) ?_
  refine nx_rS1 (st := [.int (nI 0), .ref wa, .ref wa, .ref x]) (n := 0) F 14 rfl [] dX0_init_11 q19 q20 q2 q21 (by decide +kernel) ({ frames := 4, cells := 3, slots := 516, locals := 82 } : Room) rfl rfl ⟨(Nat.le_of_ble_eq_true rfl), (Nat.le_of_ble_eq_true rfl)⟩ ⟨(Nat.le_of_ble_eq_true rfl), (Nat.le_of_ble_eq_true rfl)⟩ (met_X0_made l D cI cS cP) rfl rfl (Nat.le_of_ble_eq_true rfl) (fun z2 Lm2 fm2 hz => ?_)
  obtain ⟨c2, q2z, -, hc2, l2, g2, hp2⟩ := hz
  have mx2 := l2 x mx1
  have fx2 := (g2 x mx1).trans fx1
  have P2 := P1.next hc2 l2 g2 hp2
  have mwa2 := l2 wa mwa1
  have fwa2 := (g2 wa mwa1).trans fwa1
  obtain ⟨fs3, efs3⟩ : ∃ z : Nat → va_E, z = va_up fm2 wa (.inl (cP, 3, .inr (.inr (.inr (.inr (va_up (fun _ => none) 0 (some z2))))))) := ⟨_, rfl⟩
  refine nx_qst F 15 rfl dX0_init_14 mwa2 fwa2 hp2.1 hp2.2.2.2.1 (show 0 < 3 by omega) (by decide) fs3 efs3.symm ?_
  have nxa3 : x ≠ wa := nt_nek fx2 fwa2 (by simp)
  have fx3 : fs3 x = _ := (by rw [efs3]; exact va_up_ne _ _ nxa3 : fs3 x = fm2 x).trans fx2
  have P3 := P2.upA (e := .inl (cP, 3, .inr (.inr (.inr (.inr (va_up (fun _ => none) 0 (some z2))))))) fwa2
  rw [← efs3] at P3
  have fwa3 : fs3 wa = .inl (cP, 3, .inr (.inr (.inr (.inr (va_up (fun _ => none) 0 (some z2)))))) := by rw [efs3]; exact va_up_self _ _ _
  refine nx_dup F 16 rfl dX0_init_15 rfl ?_
  refine nx_iconst F 17 rfl (v := nI 1) dX0_init_16 (by decide +kernel) ?_
  refine nx_rS1 (st := [.int (nI 1), .ref wa, .ref wa, .ref x]) (n := 0) F 20 rfl [] dX0_init_17 q19 q20 q2 q21 (by decide +kernel) ({ frames := 4, cells := 3, slots := 516, locals := 82 } : Room) rfl rfl ⟨(Nat.le_of_ble_eq_true rfl), (Nat.le_of_ble_eq_true rfl)⟩ ⟨(Nat.le_of_ble_eq_true rfl), (Nat.le_of_ble_eq_true rfl)⟩ (met_X0_made l D cI cS cP) rfl rfl (Nat.le_of_ble_eq_true rfl) (fun z4 Lm4 fm4 hz => ?_)
  obtain ⟨c4, q4z, -, hc4, l4, g4, hp4⟩ := hz
  have mx4 := l4 x mx2
  have fx4 := (g4 x mx2).trans fx3
  have P4 := P3.next hc4 l4 g4 hp4
  have mwa4 := l4 wa mwa2
  have fwa4 := (g4 wa mwa2).trans fwa3
  obtain ⟨fs5, efs5⟩ : ∃ z : Nat → va_E, z = va_up fm4 wa (.inl (cP, 3, .inr (.inr (.inr (.inr (va_up (va_up (fun _ => none) 0 (some z2)) 1 (some z4))))))) := ⟨_, rfl⟩
  refine nx_qst F 21 rfl dX0_init_20 mwa4 fwa4 hp4.1 hp4.2.2.2.1 (show 1 < 3 by omega) (by decide) fs5 efs5.symm ?_
  have nxa5 : x ≠ wa := nt_nek fx4 fwa4 (by simp)
  have fx5 : fs5 x = _ := (by rw [efs5]; exact va_up_ne _ _ nxa5 : fs5 x = fm4 x).trans fx4
  have P5 := P4.upA (e := .inl (cP, 3, .inr (.inr (.inr (.inr (va_up (va_up (fun _ => none) 0 (some z2)) 1 (some z4))))))) fwa4
  rw [← efs5] at P5
  have fwa5 : fs5 wa = .inl (cP, 3, .inr (.inr (.inr (.inr (va_up (va_up (fun _ => none) 0 (some z2)) 1 (some z4)))))) := by rw [efs5]; exact va_up_self _ _ _
  refine nx_dup F 22 rfl dX0_init_21 rfl ?_
  refine nx_iconst F 23 rfl (v := nI 2) dX0_init_22 (by decide +kernel) ?_
  refine nx_rS1 (st := [.int (nI 2), .ref wa, .ref wa, .ref x]) (n := 0) F 26 rfl [] dX0_init_23 q19 q20 q2 q21 (by decide +kernel) ({ frames := 4, cells := 3, slots := 516, locals := 82 } : Room) rfl rfl ⟨(Nat.le_of_ble_eq_true rfl), (Nat.le_of_ble_eq_true rfl)⟩ ⟨(Nat.le_of_ble_eq_true rfl), (Nat.le_of_ble_eq_true rfl)⟩ (met_X0_made l D cI cS cP) rfl rfl (Nat.le_of_ble_eq_true rfl) (fun z6 Lm6 fm6 hz => ?_)
  obtain ⟨c6, q6z, -, hc6, l6, g6, hp6⟩ := hz
  have mx6 := l6 x mx4
  have fx6 := (g6 x mx4).trans fx5
  have P6 := P5.next hc6 l6 g6 hp6
  have mwa6 := l6 wa mwa4
  have fwa6 := (g6 wa mwa4).trans fwa5
  obtain ⟨fs7, efs7⟩ : ∃ z : Nat → va_E, z = va_up fm6 wa (.inl (cP, 3, .inr (.inr (.inr (.inr (va_up (va_up (va_up (fun _ => none) 0 (some z2)) 1 (some z4)) 2 (some z6))))))) := ⟨_, rfl⟩
  refine nx_qst F 27 rfl dX0_init_26 mwa6 fwa6 hp6.1 hp6.2.2.2.1 (show 2 < 3 by omega) (by decide) fs7 efs7.symm ?_
  have nxa7 : x ≠ wa := nt_nek fx6 fwa6 (by simp)
  have fx7 : fs7 x = _ := (by rw [efs7]; exact va_up_ne _ _ nxa7 : fs7 x = fm6 x).trans fx6
  have P7 := P6.upA (e := .inl (cP, 3, .inr (.inr (.inr (.inr (va_up (va_up (va_up (fun _ => none) 0 (some z2)) 1 (some z4)) 2 (some z6))))))) fwa6
  rw [← efs7] at P7
  have fwa7 : fs7 wa = .inl (cP, 3, .inr (.inr (.inr (.inr (va_up (va_up (va_up (fun _ => none) 0 (some z2)) 1 (some z4)) 2 (some z6)))))) := by rw [efs7]; exact va_up_self _ _ _
  obtain ⟨fp8, efp8⟩ : ∃ z : Nat → va_E, z = va_up fs7 x (.inr (0, [.ref wa, v1])) := ⟨_, rfl⟩
  refine nx_putF (ty := .array (.object "Polynomial")) F hn 30 rfl dX0_init_27 mx6 fx7 in_X0 tyX0 tyX0_ok nmX0 rfl 0 (by decide) q73 rfl rfl rfl (by decide +kernel) rfl rfl (Nat.le_of_ble_eq_true rfl) fp8 efp8.symm ?_
  have P8 := P7.upX (e := .inr (0, [.ref wa, v1])) fx7
  rw [← efp8] at P8
  have fwa8 : fp8 wa = _ := (by rw [efp8]; exact va_up_ne _ _ (nt_nek fwa7 fx7 (by simp)) : fp8 wa = fs7 wa).trans fwa7
  have fx8 : fp8 x = .inr (0, [.ref wa, v1]) := by rw [efp8]; exact va_up_self _ _ _
  refine nx_aload_n F 31 rfl dX0_init_30 0 rfl ?_
  refine nx_iconst F 32 rfl (v := nI 3) dX0_init_31 (by decide +kernel) ?_
  refine nx_newP F 35 rfl dX0_init_32 q17 (by decide) ⟨(Nat.le_of_ble_eq_true rfl), (Nat.le_of_ble_eq_true rfl)⟩ (fun sa hsa => ?_)
  obtain ⟨fa9, efa9⟩ : ∃ z : Nat → va_E, z = va_up fp8 sa (.inl (cP, 3, .inr (.inr (.inr (.inr (fun _ => none)))))) := ⟨_, rfl⟩
  obtain ⟨La9, eLa9⟩ : ∃ z : List Nat, z = Lm6 ++ [sa] := ⟨_, rfl⟩
  rw [← efa9, ← eLa9]
  have l9 : ∀ a, a ∈ Lm6 → a ∈ La9 := fun a ha => by rw [eLa9]; exact List.mem_append_left _ ha
  have g9 : ∀ a, a ∈ Lm6 → fa9 a = fp8 a := fun a ha => by rw [efa9]; exact va_up_ne _ _ (fun e => hsa (e ▸ ha))
  have mx9 := l9 x mx6
  have fx9 := (g9 x mx6).trans fx8
  have P9 := P8.mono l9 g9
  have mwa9 := l9 wa mwa6
  have fwa9 := (g9 wa mwa6).trans fwa8
  have nws : wa ≠ sa := fun e => hsa (e ▸ mwa6)
  have msa9 : sa ∈ La9 := by rw [eLa9]; exact List.mem_append_right _ List.mem_cons_self
  have fsa9 : fa9 sa = .inl (cP, 3, .inr (.inr (.inr (.inr (fun _ => none))))) := by rw [efa9]; exact va_up_self _ _ _
  refine nx_dup F 36 rfl dX0_init_35 rfl ?_
  refine nx_iconst F 37 rfl (v := nI 0) dX0_init_36 (by decide +kernel) ?_
  refine nx_rS1 (st := [.int (nI 0), .ref sa, .ref sa, .ref x]) (n := 0) F 40 rfl [] dX0_init_37 q19 q20 q2 q21 (by decide +kernel) ({ frames := 4, cells := 3, slots := 516, locals := 82 } : Room) rfl rfl ⟨(Nat.le_of_ble_eq_true rfl), (Nat.le_of_ble_eq_true rfl)⟩ ⟨(Nat.le_of_ble_eq_true rfl), (Nat.le_of_ble_eq_true rfl)⟩ (met_X0_made l D cI cS cP) rfl rfl (Nat.le_of_ble_eq_true rfl) (fun z10 Lm10 fm10 hz => ?_)
  obtain ⟨c10, q10z, -, hc10, l10, g10, hp10⟩ := hz
  have mx10 := l10 x mx9
  have fx10 := (g10 x mx9).trans fx9
  have P10 := P9.next hc10 l10 g10 hp10
  have mwa10 := l10 wa mwa9
  have fwa10 := (g10 wa mwa9).trans fwa9
  have msa10 := l10 sa msa9
  have fsa10 := (g10 sa msa9).trans fsa9
  obtain ⟨fs11, efs11⟩ : ∃ z : Nat → va_E, z = va_up fm10 sa (.inl (cP, 3, .inr (.inr (.inr (.inr (va_up (fun _ => none) 0 (some z10))))))) := ⟨_, rfl⟩
  refine nx_qst F 41 rfl dX0_init_40 msa10 fsa10 hp10.1 hp10.2.2.2.1 (show 0 < 3 by omega) (by decide) fs11 efs11.symm ?_
  have nxa11 : x ≠ sa := nt_nek fx10 fsa10 (by simp)
  have fx11 : fs11 x = _ := (by rw [efs11]; exact va_up_ne _ _ nxa11 : fs11 x = fm10 x).trans fx10
  have P11 := P10.upA (e := .inl (cP, 3, .inr (.inr (.inr (.inr (va_up (fun _ => none) 0 (some z10))))))) fsa10
  rw [← efs11] at P11
  have fwa11 : fs11 wa = _ := (by rw [efs11]; exact va_up_ne _ _ nws : fs11 wa = fm10 wa).trans fwa10
  have fsa11 : fs11 sa = .inl (cP, 3, .inr (.inr (.inr (.inr (va_up (fun _ => none) 0 (some z10)))))) := by rw [efs11]; exact va_up_self _ _ _
  refine nx_dup F 42 rfl dX0_init_41 rfl ?_
  refine nx_iconst F 43 rfl (v := nI 1) dX0_init_42 (by decide +kernel) ?_
  refine nx_rS1 (st := [.int (nI 1), .ref sa, .ref sa, .ref x]) (n := 0) F 46 rfl [] dX0_init_43 q19 q20 q2 q21 (by decide +kernel) ({ frames := 4, cells := 3, slots := 516, locals := 82 } : Room) rfl rfl ⟨(Nat.le_of_ble_eq_true rfl), (Nat.le_of_ble_eq_true rfl)⟩ ⟨(Nat.le_of_ble_eq_true rfl), (Nat.le_of_ble_eq_true rfl)⟩ (met_X0_made l D cI cS cP) rfl rfl (Nat.le_of_ble_eq_true rfl) (fun z12 Lm12 fm12 hz => ?_)
  obtain ⟨c12, q12z, -, hc12, l12, g12, hp12⟩ := hz
  have mx12 := l12 x mx10
  have fx12 := (g12 x mx10).trans fx11
  have P12 := P11.next hc12 l12 g12 hp12
  have mwa12 := l12 wa mwa10
  have fwa12 := (g12 wa mwa10).trans fwa11
  have msa12 := l12 sa msa10
  have fsa12 := (g12 sa msa10).trans fsa11
  obtain ⟨fs13, efs13⟩ : ∃ z : Nat → va_E, z = va_up fm12 sa (.inl (cP, 3, .inr (.inr (.inr (.inr (va_up (va_up (fun _ => none) 0 (some z10)) 1 (some z12))))))) := ⟨_, rfl⟩
  refine nx_qst F 47 rfl dX0_init_46 msa12 fsa12 hp12.1 hp12.2.2.2.1 (show 1 < 3 by omega) (by decide) fs13 efs13.symm ?_
  have nxa13 : x ≠ sa := nt_nek fx12 fsa12 (by simp)
  have fx13 : fs13 x = _ := (by rw [efs13]; exact va_up_ne _ _ nxa13 : fs13 x = fm12 x).trans fx12
  have P13 := P12.upA (e := .inl (cP, 3, .inr (.inr (.inr (.inr (va_up (va_up (fun _ => none) 0 (some z10)) 1 (some z12))))))) fsa12
  rw [← efs13] at P13
  have fwa13 : fs13 wa = _ := (by rw [efs13]; exact va_up_ne _ _ nws : fs13 wa = fm12 wa).trans fwa12
  have fsa13 : fs13 sa = .inl (cP, 3, .inr (.inr (.inr (.inr (va_up (va_up (fun _ => none) 0 (some z10)) 1 (some z12)))))) := by rw [efs13]; exact va_up_self _ _ _
  refine nx_dup F 48 rfl dX0_init_47 rfl ?_
  refine nx_iconst F 49 rfl (v := nI 2) dX0_init_48 (by decide +kernel) ?_
  refine nx_rS1 (st := [.int (nI 2), .ref sa, .ref sa, .ref x]) (n := 0) F 52 rfl [] dX0_init_49 q19 q20 q2 q21 (by decide +kernel) ({ frames := 4, cells := 3, slots := 516, locals := 82 } : Room) rfl rfl ⟨(Nat.le_of_ble_eq_true rfl), (Nat.le_of_ble_eq_true rfl)⟩ ⟨(Nat.le_of_ble_eq_true rfl), (Nat.le_of_ble_eq_true rfl)⟩ (met_X0_made l D cI cS cP) rfl rfl (Nat.le_of_ble_eq_true rfl) (fun z14 Lm14 fm14 hz => ?_)
  obtain ⟨c14, q14z, -, hc14, l14, g14, hp14⟩ := hz
  have mx14 := l14 x mx12
  have fx14 := (g14 x mx12).trans fx13
  have P14 := P13.next hc14 l14 g14 hp14
  have mwa14 := l14 wa mwa12
  have fwa14 := (g14 wa mwa12).trans fwa13
  have msa14 := l14 sa msa12
  have fsa14 := (g14 sa msa12).trans fsa13
  obtain ⟨fs15, efs15⟩ : ∃ z : Nat → va_E, z = va_up fm14 sa (.inl (cP, 3, .inr (.inr (.inr (.inr (va_up (va_up (va_up (fun _ => none) 0 (some z10)) 1 (some z12)) 2 (some z14))))))) := ⟨_, rfl⟩
  refine nx_qst F 53 rfl dX0_init_52 msa14 fsa14 hp14.1 hp14.2.2.2.1 (show 2 < 3 by omega) (by decide) fs15 efs15.symm ?_
  have nxa15 : x ≠ sa := nt_nek fx14 fsa14 (by simp)
  have fx15 : fs15 x = _ := (by rw [efs15]; exact va_up_ne _ _ nxa15 : fs15 x = fm14 x).trans fx14
  have P15 := P14.upA (e := .inl (cP, 3, .inr (.inr (.inr (.inr (va_up (va_up (va_up (fun _ => none) 0 (some z10)) 1 (some z12)) 2 (some z14))))))) fsa14
  rw [← efs15] at P15
  have fwa15 : fs15 wa = _ := (by rw [efs15]; exact va_up_ne _ _ nws : fs15 wa = fm14 wa).trans fwa14
  have fsa15 : fs15 sa = .inl (cP, 3, .inr (.inr (.inr (.inr (va_up (va_up (va_up (fun _ => none) 0 (some z10)) 1 (some z12)) 2 (some z14)))))) := by rw [efs15]; exact va_up_self _ _ _
  obtain ⟨fp16, efp16⟩ : ∃ z : Nat → va_E, z = va_up fs15 x (.inr (0, [.ref wa, .ref sa])) := ⟨_, rfl⟩
  refine nx_putF (ty := .array (.object "Polynomial")) F hn 56 rfl dX0_init_53 mx14 fx15 in_X0 tyX0 tyX0_ok nmX0 rfl 1 (by decide) q74 rfl rfl rfl (by decide +kernel) rfl rfl (Nat.le_of_ble_eq_true rfl) fp16 efp16.symm ?_
  have P16 := P15.upX (e := .inr (0, [.ref wa, .ref sa])) fx15
  rw [← efp16] at P16
  have fwa16 : fp16 wa = _ := (by rw [efp16]; exact va_up_ne _ _ (nt_nek fwa15 fx15 (by simp)) : fp16 wa = fs15 wa).trans fwa15
  have fsa16 : fp16 sa = _ := (by rw [efp16]; exact va_up_ne _ _ (nt_nek fsa15 fx15 (by simp)) : fp16 sa = fs15 sa).trans fsa15
  have fx16 : fp16 x = .inr (0, [.ref wa, .ref sa]) := by rw [efp16]; exact va_up_self _ _ _
  refine hret dX0_init_56 (Nat.le_of_ble_eq_true rfl) (Nat.le_of_ble_eq_true rfl) ⟨wa, sa, _, _, _, _, _, _, ⟨mx14, mwa14, msa14, fx16, fwa16, fsa16, nws, fun i hi => ?_, fun i hi => ?_, P16.1, P16.2⟩, fun i hi j hj => nI_0.symm⟩
  · rcases (show i = 0 ∨ i = 1 ∨ i = 2 by omega) with rfl | rfl | rfl <;> rfl
  · rcases (show i = 0 ∨ i = 1 ∨ i = 2 by omega) with rfl | rfl | rfl <;> rfl
end
section
/-! ===== the reference: its three arrays (printed by gen/model.py) ===== -/
def nt_MS (cI : ClassId) (L : List Nat) (f : Nat → va_E) (m mw ms mm : Nat) (gw gs gm : Nat → Int32) : Prop :=
  m ∈ L ∧ mw ∈ L ∧ ms ∈ L ∧ mm ∈ L ∧ f m = .inr (3, [.ref mw, .ref ms, .ref mm]) ∧ f mw = .inl (cI, 1527, .inl gw) ∧ f ms = .inl (cI, 1527, .inl gs) ∧ f mm = .inl (cI, 509, .inl gm) ∧ mw ≠ ms
theorem nt_MS.mx {cI : ClassId} {L : List Nat} {f : Nat → va_E} {m mw ms mm : Nat} {gw gs gm : Nat → Int32} (h : nt_MS cI L f m mw ms mm gw gs gm) : m ∈ L := h.1
theorem nt_MS.m1 {cI : ClassId} {L : List Nat} {f : Nat → va_E} {m mw ms mm : Nat} {gw gs gm : Nat → Int32} (h : nt_MS cI L f m mw ms mm gw gs gm) : mw ∈ L := h.2.1
theorem nt_MS.m2 {cI : ClassId} {L : List Nat} {f : Nat → va_E} {m mw ms mm : Nat} {gw gs gm : Nat → Int32} (h : nt_MS cI L f m mw ms mm gw gs gm) : ms ∈ L := h.2.2.1
theorem nt_MS.m3 {cI : ClassId} {L : List Nat} {f : Nat → va_E} {m mw ms mm : Nat} {gw gs gm : Nat → Int32} (h : nt_MS cI L f m mw ms mm gw gs gm) : mm ∈ L := h.2.2.2.1
theorem nt_MS.fx {cI : ClassId} {L : List Nat} {f : Nat → va_E} {m mw ms mm : Nat} {gw gs gm : Nat → Int32} (h : nt_MS cI L f m mw ms mm gw gs gm) : f m = .inr (3, [.ref mw, .ref ms, .ref mm]) := h.2.2.2.2.1
theorem nt_MS.f1 {cI : ClassId} {L : List Nat} {f : Nat → va_E} {m mw ms mm : Nat} {gw gs gm : Nat → Int32} (h : nt_MS cI L f m mw ms mm gw gs gm) : f mw = .inl (cI, 1527, .inl gw) := h.2.2.2.2.2.1
theorem nt_MS.f2 {cI : ClassId} {L : List Nat} {f : Nat → va_E} {m mw ms mm : Nat} {gw gs gm : Nat → Int32} (h : nt_MS cI L f m mw ms mm gw gs gm) : f ms = .inl (cI, 1527, .inl gs) := h.2.2.2.2.2.2.1
theorem nt_MS.f3 {cI : ClassId} {L : List Nat} {f : Nat → va_E} {m mw ms mm : Nat} {gw gs gm : Nat → Int32} (h : nt_MS cI L f m mw ms mm gw gs gm) : f mm = .inl (cI, 509, .inl gm) := h.2.2.2.2.2.2.2.1
theorem nt_MS.n12 {cI : ClassId} {L : List Nat} {f : Nat → va_E} {m mw ms mm : Nat} {gw gs gm : Nat → Int32} (h : nt_MS cI L f m mw ms mm gw gs gm) : mw ≠ ms := h.2.2.2.2.2.2.2.2
section NTMS
variable {cI : ClassId} {L : List Nat} {f : Nat → va_E} {m mw ms mm : Nat} {gw gs gm : Nat → Int32} {T T' : Nat → Nat → Nat}
theorem nt_MS.n13 (h : nt_MS cI L f m mw ms mm gw gs gm) : mw ≠ mm := nt_nek h.f1 h.f3 (by simp)
theorem nt_MS.n23 (h : nt_MS cI L f m mw ms mm gw gs gm) : ms ≠ mm := nt_nek h.f2 h.f3 (by simp)
theorem nt_MS.x1 (h : nt_MS cI L f m mw ms mm gw gs gm) : m ≠ mw := nt_nek h.fx h.f1 (by simp)
theorem nt_MS.x2 (h : nt_MS cI L f m mw ms mm gw gs gm) : m ≠ ms := nt_nek h.fx h.f2 (by simp)
theorem nt_MS.x3 (h : nt_MS cI L f m mw ms mm gw gs gm) : m ≠ mm := nt_nek h.fx h.f3 (by simp)
theorem nt_MS.s1 (h : nt_MS cI L f m mw ms mm gw gs gm) (g' : Nat → Int32) : nt_MS cI L (va_up f mw (.inl (cI, 1527, .inl g'))) m mw ms mm g' gs gm :=
  ⟨h.mx, h.m1, h.m2, h.m3, (va_up_ne _ _ h.x1).trans h.fx, va_up_self _ _ _, (va_up_ne _ _ h.n12.symm).trans h.f2, (va_up_ne _ _ h.n13.symm).trans h.f3, h.n12⟩
theorem nt_MS.s2 (h : nt_MS cI L f m mw ms mm gw gs gm) (g' : Nat → Int32) : nt_MS cI L (va_up f ms (.inl (cI, 1527, .inl g'))) m mw ms mm gw g' gm :=
  ⟨h.mx, h.m1, h.m2, h.m3, (va_up_ne _ _ h.x2).trans h.fx, (va_up_ne _ _ h.n12).trans h.f1, va_up_self _ _ _, (va_up_ne _ _ h.n23.symm).trans h.f3, h.n12⟩
theorem nt_MS.s3 (h : nt_MS cI L f m mw ms mm gw gs gm) (g' : Nat → Int32) : nt_MS cI L (va_up f mm (.inl (cI, 509, .inl g'))) m mw ms mm gw gs g' :=
  ⟨h.mx, h.m1, h.m2, h.m3, (va_up_ne _ _ h.x3).trans h.fx, (va_up_ne _ _ h.n13).trans h.f1, (va_up_ne _ _ h.n23).trans h.f2, va_up_self _ _ _, h.n12⟩
/-- three rows, one behind the other -/
def nt_fl (g : Nat → Int32) (t : Nat → Nat → Nat) : Prop := ∀ i, i < 3 → ∀ j, j < 509 → g (i * 509 + j) = nI (t i j)
/-- the reference m holds the rows T -/
def nt_MG (cI : ClassId) (L : List Nat) (f : Nat → va_E) (m : Nat) (T : Nat → Nat → Nat) : Prop :=
  ∃ (mw ms mm : Nat) (gw gs gm : Nat → Int32), nt_MS cI L f m mw ms mm gw gs gm ∧ nt_fl gw T ∧ nt_fl gs (fun i => T (3 + i))
theorem nt_fl.row {g : Nat → Int32} {t : Nat → Nat → Nat} (h : nt_fl g t) {r : Nat} {w : Nat → Nat} {g' : Nat → Int32} (hw : ∀ j, j < 509 → g' j = nI (w j)) : nt_fl (nt_w (r * 509) 509 g' g) (nt_row t r w) := by
  intro i hi j hj
  by_cases e : i = r
  · rw [e, nt_w_at hj, nt_row_at, hw j hj]
  · rw [nt_w_out (by omega), nt_row_ne e, h i hi j hj]
theorem nt_fl.one {g : Nat → Int32} {t : Nat → Nat → Nat} (h : nt_fl g t) {r p v : Nat} (hp : p < 509) : nt_fl (upd g (r * 509 + p) (nI v)) (nt_one t r p v) := by
  intro i hi j hj
  show (if i * 509 + j = r * 509 + p then nI v else g (i * 509 + j)) = nI (if i = r then (if j = p then v else t r j) else t i j)
  by_cases e : i = r
  · by_cases e2 : j = p
    · rw [if_pos (by omega), if_pos e, if_pos e2]
    · rw [if_neg (by omega), if_pos e, if_neg e2, ← e, h i hi j hj]
  · rw [if_neg (by omega), if_neg e, h i hi j hj]
/-- rows beside the ones that change -/
theorem nt_fl.keep {g : Nat → Int32} {r : Nat} {w : Nat → Nat} (hr : r < 3) (h : nt_fl g (fun i => T (3 + i))) : nt_fl g (fun i => nt_row T r w (3 + i)) := by
  intro i hi j hj
  show g (i * 509 + j) = nI (nt_row T r w (3 + i) j)
  rw [nt_row_ne (show 3 + i ≠ r by omega)]
  exact h i hi j hj
theorem nt_fl.keepS {g : Nat → Int32} {r : Nat} {w : Nat → Nat} (h : nt_fl g T) : nt_fl g (nt_row T (3 + r) w) := by
  intro i hi j hj
  rw [nt_row_ne (show i ≠ 3 + r by omega)]
  exact h i hi j hj
theorem nt_fl.sm {g : Nat → Int32} {r : Nat} {w : Nat → Nat} (h : nt_fl g (nt_row (fun i => T (3 + i)) r w)) : nt_fl g (fun i => nt_row T (3 + r) w (3 + i)) := by
  intro i hi j hj
  rw [h i hi j hj]
  show nI (if i = r then w j else T (3 + i) j) = nI (if 3 + i = 3 + r then w j else T (3 + i) j)
  by_cases e : i = r
  · rw [if_pos e, if_pos (by omega)]
  · rw [if_neg e, if_neg (by omega)]
theorem nt_MG.w (h : nt_MS cI L f m mw ms mm gw gs gm) (h2 : nt_fl gs (fun i => T (3 + i))) {r : Nat} {w : Nat → Nat} {g' : Nat → Int32} (hr : r < 3) (hw : nt_fl g' (nt_row T r w)) : nt_MG cI L (va_up f mw (.inl (cI, 1527, .inl g'))) m (nt_row T r w) :=
  ⟨mw, ms, mm, g', gs, gm, h.s1 g', hw, nt_fl.keep hr h2⟩
theorem nt_MG.s (h : nt_MS cI L f m mw ms mm gw gs gm) (h1 : nt_fl gw T) {r : Nat} {w : Nat → Nat} {g' : Nat → Int32} (hw : nt_fl g' (nt_row (fun i => T (3 + i)) r w)) : nt_MG cI L (va_up f ms (.inl (cI, 1527, .inl g'))) m (nt_row T (3 + r) w) :=
  ⟨mw, ms, mm, gw, g', gm, h.s2 g', nt_fl.keepS h1, nt_fl.sm hw⟩
theorem nt_by (s : Int32) (i : Nat) : s * nI i + s = s * nI (i + 1) := by
  have e : nI 1 = 1 := by decide +kernel
  rw [← nI_add, e]
  grind
end NTMS

set_option maxHeartbeats 4000000 in
set_option maxRecDepth 100000 in
/-- first: the row, its first place -/
theorem met_X6_first (l : Launch) (D : va_G) (cI cS cP : ClassId) {f0 : Nat → va_E} (k : Int32) :
    nt_Mi l yX6_first (ws_ yX6_first cX6_first 1 (some .int)) ({ frames := 0, cells := 0, slots := 0, locals := 0 } : Room) D cI cS cP [.int k] [] f0 (fun r _ _ => r = nI (nt_u k % 3 * 509)) 0 0 := by
  refine nt_enterI (own := RX6) _ (by decide) rfl [(0, .int k)] rfl (Nat.le_of_ble_eq_true rfl) (fun G F hn hret => ?_)
  refine nx_iload_n F 1 rfl dX6_first_0 0 rfl ?_
  refine nx_ldc F 3 rfl dX6_first_1 q176 ?_
  refine nx_iand F 4 rfl (v := nI (nt_u k)) dX6_first_3 (nt_u_and k) ?_
  refine nx_iconst F 5 rfl (v := nI 3) dX6_first_4 (by decide +kernel) ?_
  refine nx_irem F 6 rfl (v := nI (nt_u k % 3)) dX6_first_5 (by decide +kernel) (nt_rem (nt_u_lt k) (by decide) (by decide)) ?_
  refine nx_sipush F 9 rfl (v := nI 509) dX6_first_6 (by decide +kernel) ?_
  refine nx_imul F 10 rfl dX6_first_9 (pk_mul _ _) ?_
  exact hret dX6_first_10 rfl (Nat.le_refl 0) (Nat.le_refl 0) rfl

set_option maxHeartbeats 4000000 in
set_option maxRecDepth 100000 in
/-- place: the place in a row -/
theorem met_X6_place (l : Launch) (D : va_G) (cI cS cP : ClassId) {f0 : Nat → va_E} (k : Int32) :
    nt_Mi l yX6_place (ws_ yX6_place cX6_place 1 (some .int)) ({ frames := 0, cells := 0, slots := 0, locals := 0 } : Room) D cI cS cP [.int k] [] f0 (fun r _ _ => r = nI (nt_u k % 509)) 0 0 := by
  refine nt_enterI (own := RX6) _ (by decide) rfl [(0, .int k)] rfl (Nat.le_of_ble_eq_true rfl) (fun G F hn hret => ?_)
  refine nx_iload_n F 1 rfl dX6_place_0 0 rfl ?_
  refine nx_ldc F 3 rfl dX6_place_1 q176 ?_
  refine nx_iand F 4 rfl (v := nI (nt_u k)) dX6_place_3 (nt_u_and k) ?_
  refine nx_sipush F 7 rfl (v := nI 509) dX6_place_4 (by decide +kernel) ?_
  refine nx_irem F 8 rfl (v := nI (nt_u k % 509)) dX6_place_7 (by decide +kernel) (nt_rem (nt_u_lt k) (by decide) (by decide)) ?_
  exact hret dX6_place_8 rfl (Nat.le_refl 0) (Nat.le_refl 0) rfl

set_option maxHeartbeats 4000000 in
set_option maxRecDepth 100000 in
/-- wide(k, i, v) -/
theorem met_X6_wide (l : Launch) (D : va_G) (cI cS cP : ClassId) {L : List Nat} {f : Nat → va_E} {m : Nat} {T : Nat → Nat → Nat} (hm : nt_MG cI L f m T) (k i v : Int32) :
    nt_Mv l yX6_wide (ws_ yX6_wide cX6_wide 4 none) ({ frames := 1, cells := 0, slots := 0, locals := 20 } : Room) D cI cS cP [.ref m, .int k, .int i, .int v] L f (fun L' f' => L' = L ∧ nt_MG cI L f' m (nt_tW T k i v)) 0 0 := by
  obtain ⟨mw, ms, mm, gw, gs, gm, h, hw, hs⟩ := hm
  refine nt_enterV (own := RX6) _ (by decide) rfl [(0, .ref m), (1, .int k), (2, .int i), (3, .int v)] rfl (Nat.le_of_ble_eq_true rfl) (fun G F hn hret => ?_)
  obtain ⟨kk, hkk⟩ : ∃ z : Nat, z = nt_u k % 3 := ⟨_, rfl⟩
  have bkk : kk < 3 := by rw [hkk]; exact nt_k3 _
  obtain ⟨ii, hii⟩ : ∃ z : Nat, z = nt_u i % 509 := ⟨_, rfl⟩
  have bii : ii < 509 := by rw [hii]; exact nt_k509 _
  have bv := nt_lo_lt v
  refine nx_aload_n F 1 rfl dX6_wide_0 0 rfl ?_
  refine nx_get F 4 rfl dX6_wide_1 (nt_in1 h.mx h.fx) in_X6 rfl 0 (by decide) q159 rfl rfl ?_
  refine nx_iload_n F 5 rfl dX6_wide_4 1 rfl ?_
  refine nx_iS (st := [.ref mw]) (n := 1) F 8 rfl [.int k] dX6_wide_5 q173 q174 q8 q175 (by decide +kernel) ({ frames := 0, cells := 0, slots := 0, locals := 0 } : Room) rfl rfl ⟨(Nat.le_of_ble_eq_true rfl), (Nat.le_of_ble_eq_true rfl)⟩ ⟨(Nat.le_of_ble_eq_true rfl), (Nat.le_of_ble_eq_true rfl)⟩ (met_X6_first (f0 := f) l D cI cS cP k) rfl rfl (Nat.le_of_ble_eq_true rfl) (fun r L' f' hr => ?_)
  rw [hr, ← hkk]
  refine nx_iload_n F 9 rfl dX6_wide_8 2 rfl ?_
  refine nx_iS (st := [.int (nI (kk * 509)), .ref mw]) (n := 1) F 12 rfl [.int i] dX6_wide_9 q177 q178 q8 q179 (by decide +kernel) ({ frames := 0, cells := 0, slots := 0, locals := 0 } : Room) rfl rfl ⟨(Nat.le_of_ble_eq_true rfl), (Nat.le_of_ble_eq_true rfl)⟩ ⟨(Nat.le_of_ble_eq_true rfl), (Nat.le_of_ble_eq_true rfl)⟩ (met_X6_place (f0 := f) l D cI cS cP i) rfl rfl (Nat.le_of_ble_eq_true rfl) (fun r L' f' hr => ?_)
  rw [hr, ← hii]
  refine nx_iadd F 13 rfl dX6_wide_12 (nt_addN (show (kk * 509) + ii = (kk * 509) + ii by omega)) ?_
  refine nx_iload_n F 14 rfl dX6_wide_13 3 rfl ?_
  refine nx_sipush F 17 rfl (v := nI 2047) dX6_wide_14 (by decide +kernel) ?_
  refine nx_iand F 18 rfl (v := nI (nt_lo v)) dX6_wide_17 (nt_lo_and v) ?_
  refine nx_ast F 19 rfl dX6_wide_18 h.m1 h.f1 (show kk * 509 + ii < 1527 by omega) (by decide) (va_up f mw (.inl (cI, 1527, .inl (upd gw (kk * 509 + ii) (nI (nt_lo v)))))) rfl ?_
  exact hret dX6_wide_19 (Nat.le_refl 0) (Nat.le_refl 0) ⟨rfl, by unfold nt_tW; rw [← hkk, ← hii]; exact nt_MG.w h hs bkk (hw.one bii)⟩

set_option maxHeartbeats 4000000 in
set_option maxRecDepth 100000 in
/-- small(k, i, v) -/
theorem met_X6_small (l : Launch) (D : va_G) (cI cS cP : ClassId) {L : List Nat} {f : Nat → va_E} {m : Nat} {T : Nat → Nat → Nat} (hm : nt_MG cI L f m T) (k i v : Int32) :
    nt_Mv l yX6_small (ws_ yX6_small cX6_small 4 none) ({ frames := 1, cells := 0, slots := 0, locals := 20 } : Room) D cI cS cP [.ref m, .int k, .int i, .int v] L f (fun L' f' => L' = L ∧ nt_MG cI L f' m (nt_tS T k i v)) 0 0 := by
  obtain ⟨mw, ms, mm, gw, gs, gm, h, hw, hs⟩ := hm
  refine nt_enterV (own := RX6) _ (by decide) rfl [(0, .ref m), (1, .int k), (2, .int i), (3, .int v)] rfl (Nat.le_of_ble_eq_true rfl) (fun G F hn hret => ?_)
  obtain ⟨kk, hkk⟩ : ∃ z : Nat, z = nt_u k % 3 := ⟨_, rfl⟩
  have bkk : kk < 3 := by rw [hkk]; exact nt_k3 _
  obtain ⟨ii, hii⟩ : ∃ z : Nat, z = nt_u i % 509 := ⟨_, rfl⟩
  have bii : ii < 509 := by rw [hii]; exact nt_k509 _
  obtain ⟨vv, hvv⟩ : ∃ z : Nat, z = nt_u v % 3 := ⟨_, rfl⟩
  have bvv : vv < 3 := by rw [hvv]; exact nt_k3 _
  have evv : nI (nt_u v) - nI (nt_u v) / nI 3 * nI 3 = nI vv := by rw [hvv]; exact nt_rem (nt_u_lt _) (by decide) (by decide)
  refine nx_iload_n F 1 rfl dX6_small_0 2 rfl ?_
  refine nx_iS (st := []) (n := 1) F 4 rfl [.int i] dX6_small_1 q177 q178 q8 q179 (by decide +kernel) ({ frames := 0, cells := 0, slots := 0, locals := 0 } : Room) rfl rfl ⟨(Nat.le_of_ble_eq_true rfl), (Nat.le_of_ble_eq_true rfl)⟩ ⟨(Nat.le_of_ble_eq_true rfl), (Nat.le_of_ble_eq_true rfl)⟩ (met_X6_place (f0 := f) l D cI cS cP i) rfl rfl (Nat.le_of_ble_eq_true rfl) (fun r L' f' hr => ?_)
  rw [hr, ← hii]
  refine nx_sipush F 7 rfl (v := nI 508) dX6_small_4 (by decide +kernel) ?_
  refine nx_ge F 10 30 rfl dX6_small_7 (by decide) (by omega) (by omega) (fun h1 => ?_) (fun h2 => ?_)
  · exact hret dX6_small_30 (Nat.le_refl 0) (Nat.le_refl 0) ⟨rfl, by rw [show nt_tS T k i v = T from if_neg (by rw [← hii]; omega)]; exact ⟨mw, ms, mm, gw, gs, gm, h, hw, hs⟩⟩
  · refine nx_aload_n F 11 rfl dX6_small_10 0 rfl ?_
    refine nx_get F 14 rfl dX6_small_11 (nt_in1 h.mx h.fx) in_X6 rfl 1 (by decide) q160 rfl rfl ?_
    refine nx_iload_n F 15 rfl dX6_small_14 1 rfl ?_
    refine nx_iS (st := [.ref ms]) (n := 1) F 18 rfl [.int k] dX6_small_15 q173 q174 q8 q175 (by decide +kernel) ({ frames := 0, cells := 0, slots := 0, locals := 0 } : Room) rfl rfl ⟨(Nat.le_of_ble_eq_true rfl), (Nat.le_of_ble_eq_true rfl)⟩ ⟨(Nat.le_of_ble_eq_true rfl), (Nat.le_of_ble_eq_true rfl)⟩ (met_X6_first (f0 := f) l D cI cS cP k) rfl rfl (Nat.le_of_ble_eq_true rfl) (fun r L' f' hr => ?_)
    rw [hr, ← hkk]
    refine nx_iload_n F 19 rfl dX6_small_18 2 rfl ?_
    refine nx_iS (st := [.int (nI (kk * 509)), .ref ms]) (n := 1) F 22 rfl [.int i] dX6_small_19 q177 q178 q8 q179 (by decide +kernel) ({ frames := 0, cells := 0, slots := 0, locals := 0 } : Room) rfl rfl ⟨(Nat.le_of_ble_eq_true rfl), (Nat.le_of_ble_eq_true rfl)⟩ ⟨(Nat.le_of_ble_eq_true rfl), (Nat.le_of_ble_eq_true rfl)⟩ (met_X6_place (f0 := f) l D cI cS cP i) rfl rfl (Nat.le_of_ble_eq_true rfl) (fun r L' f' hr => ?_)
    rw [hr, ← hii]
    refine nx_iadd F 23 rfl dX6_small_22 (nt_addN (show (kk * 509) + ii = (kk * 509) + ii by omega)) ?_
    refine nx_iload_n F 24 rfl dX6_small_23 3 rfl ?_
    refine nx_ldc F 26 rfl dX6_small_24 q176 ?_
    refine nx_iand F 27 rfl (v := nI (nt_u v)) dX6_small_26 (nt_u_and v) ?_
    refine nx_iconst F 28 rfl (v := nI 3) dX6_small_27 (by decide +kernel) ?_
    refine nx_irem F 29 rfl (v := nI vv) dX6_small_28 (by decide +kernel) evv ?_
    refine nx_ast F 30 rfl dX6_small_29 h.m2 h.f2 (show kk * 509 + ii < 1527 by omega) (by decide) (va_up f ms (.inl (cI, 1527, .inl (upd gs (kk * 509 + ii) (nI vv))))) rfl ?_
    exact hret dX6_small_30 (Nat.le_refl 0) (Nat.le_refl 0) ⟨rfl, by rw [show nt_tS T k i v = nt_one T (3 + kk) ii vv from by rw [hkk, hii, hvv]; exact if_pos (by rw [← hii]; omega)]; exact nt_MG.s h hw (hs.one bii)⟩

set_option maxHeartbeats 4000000 in
set_option maxRecDepth 100000 in
/-- wide(k, i) -/
theorem met_X6_wide_2 (l : Launch) (D : va_G) (cI cS cP : ClassId) {L : List Nat} {f : Nat → va_E} {m : Nat} {T : Nat → Nat → Nat} (hm : nt_MG cI L f m T) (k i : Int32) :
    nt_Mi l yX6_wide_2 (ws_ yX6_wide_2 cX6_wide_2 3 (some .int)) ({ frames := 1, cells := 0, slots := 0, locals := 20 } : Room) D cI cS cP [.ref m, .int k, .int i] L f (fun r L' f' => r = nI (T (nt_u k % 3) (nt_u i % 509)) ∧ L' = L ∧ f' = f) 0 0 := by
  obtain ⟨mw, ms, mm, gw, gs, gm, h, hw, hs⟩ := hm
  refine nt_enterI (own := RX6) _ (by decide) rfl [(0, .ref m), (1, .int k), (2, .int i)] rfl (Nat.le_of_ble_eq_true rfl) (fun G F hn hret => ?_)
  obtain ⟨kk, hkk⟩ : ∃ z : Nat, z = nt_u k % 3 := ⟨_, rfl⟩
  have bkk : kk < 3 := by rw [hkk]; exact nt_k3 _
  obtain ⟨ii, hii⟩ : ∃ z : Nat, z = nt_u i % 509 := ⟨_, rfl⟩
  have bii : ii < 509 := by rw [hii]; exact nt_k509 _
  refine nx_aload_n F 1 rfl dX6_wide_2_0 0 rfl ?_
  refine nx_get F 4 rfl dX6_wide_2_1 (nt_in1 h.mx h.fx) in_X6 rfl 0 (by decide) q159 rfl rfl ?_
  refine nx_iload_n F 5 rfl dX6_wide_2_4 1 rfl ?_
  refine nx_iS (st := [.ref mw]) (n := 1) F 8 rfl [.int k] dX6_wide_2_5 q173 q174 q8 q175 (by decide +kernel) ({ frames := 0, cells := 0, slots := 0, locals := 0 } : Room) rfl rfl ⟨(Nat.le_of_ble_eq_true rfl), (Nat.le_of_ble_eq_true rfl)⟩ ⟨(Nat.le_of_ble_eq_true rfl), (Nat.le_of_ble_eq_true rfl)⟩ (met_X6_first (f0 := f) l D cI cS cP k) rfl rfl (Nat.le_of_ble_eq_true rfl) (fun r L' f' hr => ?_)
  rw [hr, ← hkk]
  refine nx_iload_n F 9 rfl dX6_wide_2_8 2 rfl ?_
  refine nx_iS (st := [.int (nI (kk * 509)), .ref mw]) (n := 1) F 12 rfl [.int i] dX6_wide_2_9 q177 q178 q8 q179 (by decide +kernel) ({ frames := 0, cells := 0, slots := 0, locals := 0 } : Room) rfl rfl ⟨(Nat.le_of_ble_eq_true rfl), (Nat.le_of_ble_eq_true rfl)⟩ ⟨(Nat.le_of_ble_eq_true rfl), (Nat.le_of_ble_eq_true rfl)⟩ (met_X6_place (f0 := f) l D cI cS cP i) rfl rfl (Nat.le_of_ble_eq_true rfl) (fun r L' f' hr => ?_)
  rw [hr, ← hii]
  refine nx_iadd F 13 rfl dX6_wide_2_12 (nt_addN (show (kk * 509) + ii = (kk * 509) + ii by omega)) ?_
  refine nx_ald F 14 rfl dX6_wide_2_13 (v := nI (T kk ii)) (nt_in1 h.m1 h.f1) (show kk * 509 + ii < 1527 by omega) (by decide) (hw kk bkk ii bii) ?_
  exact hret dX6_wide_2_14 rfl (Nat.le_refl 0) (Nat.le_refl 0) ⟨by rw [← hkk, ← hii], rfl, rfl⟩

set_option maxHeartbeats 4000000 in
set_option maxRecDepth 100000 in
/-- small(k, i) -/
theorem met_X6_small_2 (l : Launch) (D : va_G) (cI cS cP : ClassId) {L : List Nat} {f : Nat → va_E} {m : Nat} {T : Nat → Nat → Nat} (hm : nt_MG cI L f m T) (k i : Int32) :
    nt_Mi l yX6_small_2 (ws_ yX6_small_2 cX6_small_2 3 (some .int)) ({ frames := 1, cells := 0, slots := 0, locals := 20 } : Room) D cI cS cP [.ref m, .int k, .int i] L f (fun r L' f' => r = nI (T (3 + nt_u k % 3) (nt_u i % 509)) ∧ L' = L ∧ f' = f) 0 0 := by
  obtain ⟨mw, ms, mm, gw, gs, gm, h, hw, hs⟩ := hm
  refine nt_enterI (own := RX6) _ (by decide) rfl [(0, .ref m), (1, .int k), (2, .int i)] rfl (Nat.le_of_ble_eq_true rfl) (fun G F hn hret => ?_)
  obtain ⟨kk, hkk⟩ : ∃ z : Nat, z = nt_u k % 3 := ⟨_, rfl⟩
  have bkk : kk < 3 := by rw [hkk]; exact nt_k3 _
  obtain ⟨ii, hii⟩ : ∃ z : Nat, z = nt_u i % 509 := ⟨_, rfl⟩
  have bii : ii < 509 := by rw [hii]; exact nt_k509 _
  refine nx_aload_n F 1 rfl dX6_small_2_0 0 rfl ?_
  refine nx_get F 4 rfl dX6_small_2_1 (nt_in1 h.mx h.fx) in_X6 rfl 1 (by decide) q160 rfl rfl ?_
  refine nx_iload_n F 5 rfl dX6_small_2_4 1 rfl ?_
  refine nx_iS (st := [.ref ms]) (n := 1) F 8 rfl [.int k] dX6_small_2_5 q173 q174 q8 q175 (by decide +kernel) ({ frames := 0, cells := 0, slots := 0, locals := 0 } : Room) rfl rfl ⟨(Nat.le_of_ble_eq_true rfl), (Nat.le_of_ble_eq_true rfl)⟩ ⟨(Nat.le_of_ble_eq_true rfl), (Nat.le_of_ble_eq_true rfl)⟩ (met_X6_first (f0 := f) l D cI cS cP k) rfl rfl (Nat.le_of_ble_eq_true rfl) (fun r L' f' hr => ?_)
  rw [hr, ← hkk]
  refine nx_iload_n F 9 rfl dX6_small_2_8 2 rfl ?_
  refine nx_iS (st := [.int (nI (kk * 509)), .ref ms]) (n := 1) F 12 rfl [.int i] dX6_small_2_9 q177 q178 q8 q179 (by decide +kernel) ({ frames := 0, cells := 0, slots := 0, locals := 0 } : Room) rfl rfl ⟨(Nat.le_of_ble_eq_true rfl), (Nat.le_of_ble_eq_true rfl)⟩ ⟨(Nat.le_of_ble_eq_true rfl), (Nat.le_of_ble_eq_true rfl)⟩ (met_X6_place (f0 := f) l D cI cS cP i) rfl rfl (Nat.le_of_ble_eq_true rfl) (fun r L' f' hr => ?_)
  rw [hr, ← hii]
  refine nx_iadd F 13 rfl dX6_small_2_12 (nt_addN (show (kk * 509) + ii = (kk * 509) + ii by omega)) ?_
  refine nx_ald F 14 rfl dX6_small_2_13 (v := nI (T (3 + kk) ii)) (nt_in1 h.m2 h.f2) (show kk * 509 + ii < 1527 by omega) (by decide) (hs kk bkk ii bii) ?_
  exact hret dX6_small_2_14 rfl (Nat.le_refl 0) (Nat.le_refl 0) ⟨by rw [← hkk, ← hii], rfl, rfl⟩
end
section
/-! ===== the reference: its start, spread (printed by gen/model.py) ===== -/
set_option maxHeartbeats 4000000 in
set_option maxRecDepth 100000 in
/-- NtruRingModel(): three arrays of zeros -/
theorem met_X6_init (l : Launch) (D : va_G) (cI cS cP : ClassId) {L : List Nat} {f : Nat → va_E} {m : Nat} {v0 v1 v2 : Value} (hm : m ∈ L) (fm : f m = .inr (3, [v0, v1, v2])) :
    nt_Mv l yX6_init (ws_ yX6_init cX6_init 1 none) ({ frames := 1, cells := 3, slots := 3563, locals := 20 } : Room) D cI cS cP [.ref m] L f (fun L' f' => nt_MG cI L' f' m (fun _ _ => 0)) 3 3563 := by
  refine nt_enterV (own := RX6) _ (by decide) rfl [(0, .ref m)] rfl (Nat.le_of_ble_eq_true rfl) (fun G F hn hret => ?_)
  refine nx_aload_n F 1 rfl dX6_init_0 0 rfl ?_
  refine nx_obj F 4 rfl dX6_init_1 q158 (Nat.le_of_ble_eq_true rfl) (Nat.le_of_ble_eq_true rfl) ?_
  refine nx_aload_n F 5 rfl dX6_init_4 0 rfl ?_
  refine nx_sipush F 8 rfl (v := nI 1527) dX6_init_5 (by decide +kernel) ?_
  refine nx_newI1 F 10 rfl dX6_init_8 (by decide) ⟨(Nat.le_of_ble_eq_true rfl), (Nat.le_of_ble_eq_true rfl)⟩ (fun mw hmw => ?_)
  have mx0 := List.mem_append_left [mw] hm
  have nx0 : m ≠ mw := fun e => hmw (e ▸ hm)
  have fk0 : va_up (f) mw (.inl (cI, 1527, .inl (fun _ => 0))) m = .inr (3, [v0, v1, v2]) := (va_up_ne _ _ nx0).trans fm
  obtain ⟨f10, ef10⟩ : ∃ z : Nat → va_E, z = va_up (va_up (f) mw (.inl (cI, 1527, .inl (fun _ => 0)))) m (.inr (3, [.ref mw, v1, v2])) := ⟨_, rfl⟩
  refine nx_putF (ty := .array .int) F hn 13 rfl dX6_init_10 mx0 fk0 in_X6 tyX6 tyX6_ok nmX6 rfl 0 (by decide) q159 rfl rfl rfl (by decide +kernel) rfl rfl (Nat.le_of_ble_eq_true rfl) f10 ef10.symm ?_
  have fm0 : f10 m = .inr (3, [.ref mw, v1, v2]) := by rw [ef10]; exact va_up_self _ _ _
  have fa0 : f10 mw = .inl (cI, 1527, .inl (fun _ => 0)) := by rw [ef10, va_up_ne _ _ nx0.symm]; exact va_up_self _ _ _
  refine nx_aload_n F 14 rfl dX6_init_13 0 rfl ?_
  refine nx_sipush F 17 rfl (v := nI 1527) dX6_init_14 (by decide +kernel) ?_
  refine nx_newI1 F 19 rfl dX6_init_17 (by decide) ⟨(Nat.le_of_ble_eq_true rfl), (Nat.le_of_ble_eq_true rfl)⟩ (fun ms hms => ?_)
  have mx1 := List.mem_append_left [ms] mx0
  have nx1 : m ≠ ms := fun e => hms (e ▸ mx0)
  have fk1 : va_up (f10) ms (.inl (cI, 1527, .inl (fun _ => 0))) m = .inr (3, [.ref mw, v1, v2]) := (va_up_ne _ _ nx1).trans fm0
  obtain ⟨f11, ef11⟩ : ∃ z : Nat → va_E, z = va_up (va_up (f10) ms (.inl (cI, 1527, .inl (fun _ => 0)))) m (.inr (3, [.ref mw, .ref ms, v2])) := ⟨_, rfl⟩
  refine nx_putF (ty := .array .int) F hn 22 rfl dX6_init_19 mx1 fk1 in_X6 tyX6 tyX6_ok nmX6 rfl 1 (by decide) q160 rfl rfl rfl (by decide +kernel) rfl rfl (Nat.le_of_ble_eq_true rfl) f11 ef11.symm ?_
  have fm1 : f11 m = .inr (3, [.ref mw, .ref ms, v2]) := by rw [ef11]; exact va_up_self _ _ _
  have fa1 : f11 ms = .inl (cI, 1527, .inl (fun _ => 0)) := by rw [ef11, va_up_ne _ _ nx1.symm]; exact va_up_self _ _ _
  refine nx_aload_n F 23 rfl dX6_init_22 0 rfl ?_
  refine nx_sipush F 26 rfl (v := nI 509) dX6_init_23 (by decide +kernel) ?_
  refine nx_newI1 F 28 rfl dX6_init_26 (by decide) ⟨(Nat.le_of_ble_eq_true rfl), (Nat.le_of_ble_eq_true rfl)⟩ (fun mm hmm => ?_)
  have mx2 := List.mem_append_left [mm] mx1
  have nx2 : m ≠ mm := fun e => hmm (e ▸ mx1)
  have fk2 : va_up (f11) mm (.inl (cI, 509, .inl (fun _ => 0))) m = .inr (3, [.ref mw, .ref ms, v2]) := (va_up_ne _ _ nx2).trans fm1
  obtain ⟨f12, ef12⟩ : ∃ z : Nat → va_E, z = va_up (va_up (f11) mm (.inl (cI, 509, .inl (fun _ => 0)))) m (.inr (3, [.ref mw, .ref ms, .ref mm])) := ⟨_, rfl⟩
  refine nx_putF (ty := .array .int) F hn 31 rfl dX6_init_28 mx2 fk2 in_X6 tyX6 tyX6_ok nmX6 rfl 2 (by decide) q161 rfl rfl rfl (by decide +kernel) rfl rfl (Nat.le_of_ble_eq_true rfl) f12 ef12.symm ?_
  have fm2 : f12 m = .inr (3, [.ref mw, .ref ms, .ref mm]) := by rw [ef12]; exact va_up_self _ _ _
  have fa2 : f12 mm = .inl (cI, 509, .inl (fun _ => 0)) := by rw [ef12, va_up_ne _ _ nx2.symm]; exact va_up_self _ _ _
  have nx01 : mw ≠ ms := fun e => hms (e ▸ List.mem_append_right _ List.mem_cons_self)
  have nx02 : mw ≠ mm := fun e => hmm (e ▸ List.mem_append_left _ (List.mem_append_right _ List.mem_cons_self))
  have nx12 : ms ≠ mm := fun e => hmm (e ▸ List.mem_append_right _ List.mem_cons_self)
  exact hret dX6_init_31 (Nat.le_of_ble_eq_true rfl) (Nat.le_of_ble_eq_true rfl) ⟨mw, ms, mm, fun _ => 0, fun _ => 0, fun _ => 0, ⟨mx2, List.mem_append_left _ (List.mem_append_left _ (List.mem_append_right _ List.mem_cons_self)), List.mem_append_left _ (List.mem_append_right _ List.mem_cons_self), List.mem_append_right _ List.mem_cons_self, fm2, by rw [ef12, va_up_ne _ _ nx0.symm, va_up_ne _ _ nx02, ef11, va_up_ne _ _ nx0.symm, va_up_ne _ _ nx01]; exact fa0, by rw [ef12, va_up_ne _ _ nx1.symm, va_up_ne _ _ nx12]; exact fa1, fa2, nx01⟩, fun i hi j hj => nI_0.symm, fun i hi j hj => nI_0.symm⟩

set_option maxHeartbeats 4000000 in
set_option maxRecDepth 100000 in
/-- spread(k, from, step) -/
theorem met_X6_spread (l : Launch) (D : va_G) (cI cS cP : ClassId) {L : List Nat} {f : Nat → va_E} {m : Nat} {T : Nat → Nat → Nat} (hm : nt_MG cI L f m T) (k fr sp : Int32) :
    nt_Mv l yX6_spread (ws_ yX6_spread cX6_spread 6 none) ({ frames := 1, cells := 0, slots := 0, locals := 20 } : Room) D cI cS cP [.ref m, .int k, .int fr, .int sp] L f (fun L' f' => L' = L ∧ nt_MG cI L f' m (nt_tP T k fr sp)) 0 0 := by
  obtain ⟨mw, ms, mm, gw, gs, gm, h, hw, hs⟩ := hm
  refine nt_enterV (own := RX6) _ (by decide) rfl [(0, .ref m), (1, .int k), (2, .int fr), (3, .int sp)] rfl (Nat.le_of_ble_eq_true rfl) (fun G F hn hret => ?_)
  obtain ⟨kk, hkk⟩ : ∃ z : Nat, z = nt_u k % 3 := ⟨_, rfl⟩
  have bkk : kk < 3 := by rw [hkk]; exact nt_k3 _
  have HH : ∀ g1 g2 : Nat → Int32, nt_MS cI L (va_up (va_up f mw (.inl (cI, 1527, .inl g1))) ms (.inl (cI, 1527, .inl g2))) m mw ms mm g1 g2 gm := fun g1 g2 => (h.s1 g1).s2 g2
  refine nx_iconst F 1 rfl (v := nI 0) dX6_spread_0 (by decide +kernel) ?_
  refine nx_topi (v' := sp * nI 0) (by rw [nI_0, Int32.mul_zero]) ?_
  refine nx_istore F 3 rfl dX6_spread_1 (by decide) [(4, .int (sp * nI 0)), (0, .ref m), (1, .int k), (2, .int fr), (3, .int sp)] rfl ?_
  refine nx_iconst F 4 rfl (v := nI 0) dX6_spread_3 (by decide +kernel) ?_
  refine nx_istore F 6 rfl dX6_spread_4 (by decide) [(5, .int (nI 0)), (4, .int (sp * nI 0)), (0, .ref m), (1, .int k), (2, .int fr), (3, .int sp)] rfl ?_
  refine nx_f (va_up (va_up f mw (.inl (cI, 1527, .inl (nt_w (kk * 509) 0 (fun j => nI (nt_wv fr sp j)) gw)))) ms (.inl (cI, 1527, .inl (nt_w (kk * 509) 0 (fun j => nI (nt_sv fr sp j)) gs)))) (by rw [nt_w_0, nt_w_0, nt_up_id h.f1, nt_up_id h.f2]) ?_
  refine nt_up (fun i => nt_X l ({ frames := 1, cells := 0, slots := 0, locals := 20 } : Room) D 6 G L (va_up (va_up f mw (.inl (cI, 1527, .inl (nt_w (kk * 509) i (fun j => nI (nt_wv fr sp j)) gw)))) ms (.inl (cI, 1527, .inl (nt_w (kk * 509) i (fun j => nI (nt_sv fr sp j)) gs)))) [] f 0 0 [(5, .int (nI i)), (4, .int (sp * nI i)), (0, .ref m), (1, .int k), (2, .int fr), (3, .int sp)] 6 []) 509 ?_ ?_
  · refine nx_iload F 8 rfl dX6_spread_6 0 rfl ?_
    refine nx_sipush F 11 rfl (v := nI 509) dX6_spread_8 (by decide +kernel) ?_
    refine nx_ge F 14 79 rfl dX6_spread_11 (by decide) (by omega) (by omega) (fun _ => ?_) (fun hh => absurd hh (by omega))
    refine hret dX6_spread_79 (Nat.le_refl 0) (Nat.le_refl 0) ⟨rfl, ?_⟩
    unfold nt_tP
    rw [← hkk]
    exact ⟨mw, ms, mm, _, _, gm, HH _ _, nt_fl.keepS (hw.row (fun j hj => rfl)), nt_fl.sm (T := nt_row T kk (nt_wv fr sp)) (nt_fl.row (nt_fl.keep bkk hs) (fun j hj => rfl))⟩
  · intro i qi ih
    refine nx_iload F 8 rfl dX6_spread_6 0 rfl ?_
    refine nx_sipush F 11 rfl (v := nI 509) dX6_spread_8 (by decide +kernel) ?_
    refine nx_ge F 14 79 rfl dX6_spread_11 (by decide) (by omega) (by omega) (fun hh => absurd hh (by omega)) (fun _ => ?_)
    have H1 := HH (nt_w (kk * 509) i (fun j => nI (nt_wv fr sp j)) gw) (nt_w (kk * 509) i (fun j => nI (nt_sv fr sp j)) gs)
    have H2 := HH (nt_w (kk * 509) (i + 1) (fun j => nI (nt_wv fr sp j)) gw) (nt_w (kk * 509) i (fun j => nI (nt_sv fr sp j)) gs)
    refine nx_aload_n F 15 rfl dX6_spread_14 2 rfl ?_
    refine nx_get F 18 rfl dX6_spread_15 (nt_in1 H1.mx H1.fx) in_X6 rfl 0 (by decide) q159 rfl rfl ?_
    refine nx_iload_n F 19 rfl dX6_spread_18 3 rfl ?_
    refine nx_iS (st := [.ref mw]) (n := 1) F 22 rfl [.int k] dX6_spread_19 q173 q174 q8 q175 (by decide +kernel) ({ frames := 0, cells := 0, slots := 0, locals := 0 } : Room) rfl rfl ⟨(Nat.le_of_ble_eq_true rfl), (Nat.le_of_ble_eq_true rfl)⟩ ⟨(Nat.le_of_ble_eq_true rfl), (Nat.le_of_ble_eq_true rfl)⟩ (met_X6_first (f0 := f) l D cI cS cP k) rfl rfl (Nat.le_of_ble_eq_true rfl) (fun r L' f' hr => ?_)
    rw [hr, ← hkk]
    refine nx_iload F 24 rfl dX6_spread_22 0 rfl ?_
    refine nx_iadd F 25 rfl dX6_spread_24 (nt_addN (show (kk * 509) + i = (kk * 509) + i by omega)) ?_
    refine nx_iload_n F 26 rfl dX6_spread_25 4 rfl ?_
    refine nx_iload F 28 rfl dX6_spread_26 1 rfl ?_
    refine nx_iadd F 29 rfl dX6_spread_28 rfl ?_
    refine nx_sipush F 32 rfl (v := nI 2047) dX6_spread_29 (by decide +kernel) ?_
    refine nx_iand F 33 rfl (v := nI (nt_wv fr sp i)) dX6_spread_32 (nt_lo_and _) ?_
    refine nx_ast F 34 rfl dX6_spread_33 h.m1 H1.f1 (show kk * 509 + i < 1527 by omega) (by decide) (va_up (va_up f mw (.inl (cI, 1527, .inl (nt_w (kk * 509) (i + 1) (fun j => nI (nt_wv fr sp j)) gw)))) ms (.inl (cI, 1527, .inl (nt_w (kk * 509) i (fun j => nI (nt_sv fr sp j)) gs)))) (by rw [nt_uuc h.n12, nt_w_s (kk * 509) i (fun j => nI (nt_wv fr sp j)) gw (p := kk * 509 + i) (v := nI (nt_wv fr sp i)) rfl rfl]) ?_
    refine nx_aload_n F 35 rfl dX6_spread_34 2 rfl ?_
    refine nx_get F 38 rfl dX6_spread_35 (nt_in1 H2.mx H2.fx) in_X6 rfl 1 (by decide) q160 rfl rfl ?_
    refine nx_iload_n F 39 rfl dX6_spread_38 3 rfl ?_
    refine nx_iS (st := [.ref ms]) (n := 1) F 42 rfl [.int k] dX6_spread_39 q173 q174 q8 q175 (by decide +kernel) ({ frames := 0, cells := 0, slots := 0, locals := 0 } : Room) rfl rfl ⟨(Nat.le_of_ble_eq_true rfl), (Nat.le_of_ble_eq_true rfl)⟩ ⟨(Nat.le_of_ble_eq_true rfl), (Nat.le_of_ble_eq_true rfl)⟩ (met_X6_first (f0 := f) l D cI cS cP k) rfl rfl (Nat.le_of_ble_eq_true rfl) (fun r L' f' hr => ?_)
    rw [hr, ← hkk]
    refine nx_iload F 44 rfl dX6_spread_42 0 rfl ?_
    refine nx_iadd F 45 rfl dX6_spread_44 (nt_addN (show (kk * 509) + i = (kk * 509) + i by omega)) ?_
    refine nx_iload F 47 rfl dX6_spread_45 0 rfl ?_
    refine nx_sipush F 50 rfl (v := nI 508) dX6_spread_47 (by decide +kernel) ?_
    refine nx_ge F 53 65 rfl dX6_spread_50 (by decide) (by omega) (by omega) (fun i8 => ?_) (fun i8 => ?_)
    · have es : nt_sv fr sp i = 0 := if_pos (by omega)
      refine nx_iconst F 66 rfl (v := nI 0) dX6_spread_65 (by decide +kernel) ?_
      refine nx_topi (v' := nI (nt_sv fr sp i)) (by rw [es]) ?_
      refine nx_ast F 67 rfl dX6_spread_66 h.m2 H2.f2 (show kk * 509 + i < 1527 by omega) (by decide) (va_up (va_up f mw (.inl (cI, 1527, .inl (nt_w (kk * 509) (i + 1) (fun j => nI (nt_wv fr sp j)) gw)))) ms (.inl (cI, 1527, .inl (nt_w (kk * 509) (i + 1) (fun j => nI (nt_sv fr sp j)) gs)))) (by rw [bx_uu, nt_w_s (kk * 509) i (fun j => nI (nt_sv fr sp j)) gs (p := kk * 509 + i) (v := nI (nt_sv fr sp i)) rfl rfl]) ?_
      refine nx_iload F 69 rfl dX6_spread_67 1 rfl ?_
      refine nx_iload_n F 70 rfl dX6_spread_69 5 rfl ?_
      refine nx_iadd F 71 rfl dX6_spread_70 (nt_by sp i) ?_
      refine nx_istore F 73 rfl dX6_spread_71 (by decide) [(4, .int (sp * nI (i + 1))), (5, .int (nI i)), (0, .ref m), (1, .int k), (2, .int fr), (3, .int sp)] rfl ?_
      refine nx_iinc F 76 rfl dX6_spread_73 1 rfl (nI_1 _) (by decide) [(5, .int (nI (i + 1))), (4, .int (sp * nI (i + 1))), (0, .ref m), (1, .int k), (2, .int fr), (3, .int sp)] rfl ?_
      refine nx_goto F 6 dX6_spread_76 (by decide) ?_
      exact ih
    · have es : nt_sv fr sp i = nt_u (fr ^^^ (sp * nI i)) % 3 := if_neg (by omega)
      refine nx_iload_n F 54 rfl dX6_spread_53 4 rfl ?_
      refine nx_iload F 56 rfl dX6_spread_54 1 rfl ?_
      refine nx_ixor F 57 rfl (v := (fr ^^^ (sp * nI i))) dX6_spread_56 rfl ?_
      refine nx_ldc F 59 rfl dX6_spread_57 q176 ?_
      refine nx_iand F 60 rfl (v := nI (nt_u (fr ^^^ (sp * nI i)))) dX6_spread_59 (nt_u_and (fr ^^^ (sp * nI i))) ?_
      refine nx_iconst F 61 rfl (v := nI 3) dX6_spread_60 (by decide +kernel) ?_
      refine nx_irem F 62 rfl (v := nI (nt_sv fr sp i)) dX6_spread_61 (by decide +kernel) (by rw [es]; exact nt_rem (nt_u_lt _) (by decide) (by decide)) ?_
      refine nx_goto F 66 dX6_spread_62 (by decide) ?_
      refine nx_ast F 67 rfl dX6_spread_66 h.m2 H2.f2 (show kk * 509 + i < 1527 by omega) (by decide) (va_up (va_up f mw (.inl (cI, 1527, .inl (nt_w (kk * 509) (i + 1) (fun j => nI (nt_wv fr sp j)) gw)))) ms (.inl (cI, 1527, .inl (nt_w (kk * 509) (i + 1) (fun j => nI (nt_sv fr sp j)) gs)))) (by rw [bx_uu, nt_w_s (kk * 509) i (fun j => nI (nt_sv fr sp j)) gs (p := kk * 509 + i) (v := nI (nt_sv fr sp i)) rfl rfl]) ?_
      refine nx_iload F 69 rfl dX6_spread_67 1 rfl ?_
      refine nx_iload_n F 70 rfl dX6_spread_69 5 rfl ?_
      refine nx_iadd F 71 rfl dX6_spread_70 (nt_by sp i) ?_
      refine nx_istore F 73 rfl dX6_spread_71 (by decide) [(4, .int (sp * nI (i + 1))), (5, .int (nI i)), (0, .ref m), (1, .int k), (2, .int fr), (3, .int sp)] rfl ?_
      refine nx_iinc F 76 rfl dX6_spread_73 1 rfl (nI_1 _) (by decide) [(5, .int (nI (i + 1))), (4, .int (sp * nI (i + 1))), (0, .ref m), (1, .int k), (2, .int fr), (3, .int sp)] rfl ?_
      refine nx_goto F 6 dX6_spread_76 (by decide) ?_
      exact ih
end
section
/-! ===== the reference: multiplies (printed by gen/model.py) ===== -/
set_option maxHeartbeats 4000000 in
set_option maxRecDepth 100000 in
/-- multiplies: the cyclic product of two rows of one array -/
theorem met_X6_multiplies (l : Launch) (D : va_G) (cI cS cP : ClassId) {L : List Nat} {f : Nat → va_E} {m mw ms mm row a b : Nat} {gw gs gm g : Nat → Int32} {A B : Nat → Nat} (h : nt_MS cI L f m mw ms mm gw gs gm) (hr : row ∈ L) (fr : f row = .inl (cI, 1527, .inl g)) (hA : ∀ j, j < 509 → g (a + j) = nI (A j)) (hB : ∀ j, j < 509 → g (b + j) = nI (B j)) (ba : a + 509 ≤ 1527) (bb : b + 509 ≤ 1527) (hl : ∀ j, j < 509 → A j < 2048) :
    nt_Mv l yX6_multiplies (ws_ yX6_multiplies cX6_multiplies 7 none) ({ frames := 0, cells := 0, slots := 0, locals := 0 } : Room) D cI cS cP [.ref m, .ref row, .int (nI a), .int (nI b)] L f (fun L' f' => L' = L ∧ ∃ g' : Nat → Int32, f' = va_up f mm (.inl (cI, 509, .inl g')) ∧ ∀ k, k < 509 → g' k = nI (nt_cN A B k)) 0 0 := by
  refine nt_enterV (own := RX6) _ (by decide) rfl [(0, .ref m), (1, .ref row), (2, .int (nI a)), (3, .int (nI b))] rfl (Nat.le_of_ble_eq_true rfl) (fun G F hn hret => ?_)
  have nr : row ≠ mm := nt_nek fr h.f3 (by simp)
  refine nx_iconst F 1 rfl (v := nI 0) dX6_multiplies_0 (by decide +kernel) ?_
  refine nx_istore F 3 rfl dX6_multiplies_1 (by decide) [(4, .int (nI 0)), (0, .ref m), (1, .ref row), (2, .int (nI a)), (3, .int (nI b))] rfl ?_
  refine nx_f (va_up f mm (.inl (cI, 509, .inl (nt_w 0 0 (fun _ => 0) gm)))) (by rw [nt_w_0]; exact nt_up_id h.f3) ?_
  refine nt_up (fun i => nt_X l ({ frames := 0, cells := 0, slots := 0, locals := 0 } : Room) D 7 G L (va_up f mm (.inl (cI, 509, .inl (nt_w 0 i (fun _ => 0) gm)))) [] f 0 0 [(4, .int (nI i)), (0, .ref m), (1, .ref row), (2, .int (nI a)), (3, .int (nI b))] 3 []) 509 ?_ ?_
  · refine nx_iload F 5 rfl dX6_multiplies_3 0 rfl ?_
    refine nx_sipush F 8 rfl (v := nI 509) dX6_multiplies_5 (by decide +kernel) ?_
    refine nx_ge F 11 25 rfl dX6_multiplies_8 (by decide) (by omega) (by omega) (fun _ => ?_) (fun hh => absurd hh (by omega))
    refine nx_iconst F 26 rfl (v := nI 0) dX6_multiplies_25 (by decide +kernel) ?_
    refine nx_istore F 28 rfl dX6_multiplies_26 (by decide) [(4, .int (nI 0)), (0, .ref m), (1, .ref row), (2, .int (nI a)), (3, .int (nI b))] rfl ?_
    refine nx_f (va_up f mm (.inl (cI, 509, .inl (nt_mc A B gm 0 0)))) (by rw [← nt_mc_0]) ?_
    refine nt_up (fun i => nt_X l ({ frames := 0, cells := 0, slots := 0, locals := 0 } : Room) D 7 G L (va_up f mm (.inl (cI, 509, .inl (nt_mc A B gm i 0)))) [] f 0 0 [(4, .int (nI i)), (0, .ref m), (1, .ref row), (2, .int (nI a)), (3, .int (nI b))] 28 []) 509 ?_ ?_
    · refine nx_iload F 30 rfl dX6_multiplies_28 0 rfl ?_
      refine nx_sipush F 33 rfl (v := nI 509) dX6_multiplies_30 (by decide +kernel) ?_
      refine nx_ge F 36 148 rfl dX6_multiplies_33 (by decide) (by omega) (by omega) (fun _ => ?_) (fun hh => absurd hh (by omega))
      exact hret dX6_multiplies_148 (Nat.le_refl 0) (Nat.le_refl 0) ⟨rfl, _, rfl, fun k hk => nt_mc_n A B gm hk⟩
    · intro i qi ih
      refine nx_iload F 30 rfl dX6_multiplies_28 0 rfl ?_
      refine nx_sipush F 33 rfl (v := nI 509) dX6_multiplies_30 (by decide +kernel) ?_
      refine nx_ge F 36 148 rfl dX6_multiplies_33 (by decide) (by omega) (by omega) (fun hh => absurd hh (by omega)) (fun _ => ?_)
      have hli := hl i qi
      refine nx_aload_n F 37 rfl dX6_multiplies_36 2 rfl ?_
      refine nx_iload_n F 38 rfl dX6_multiplies_37 3 rfl ?_
      refine nx_iload F 40 rfl dX6_multiplies_38 0 rfl ?_
      refine nx_iadd F 41 rfl dX6_multiplies_40 (nt_addN (show a + i = a + i by omega)) ?_
      refine nx_ald F 42 rfl dX6_multiplies_41 (v := nI (A i)) (nt_in1 hr ((va_up_ne _ _ nr).trans fr)) (show a + i < 1527 by omega) (by decide) (hA i qi) ?_
      refine nx_istore F 44 rfl dX6_multiplies_42 (by decide) [(5, .int (nI (A i))), (4, .int (nI i)), (0, .ref m), (1, .ref row), (2, .int (nI a)), (3, .int (nI b))] rfl ?_
      refine nx_iload F 46 rfl dX6_multiplies_44 0 rfl ?_
      refine nx_ifne F 49 52 rfl dX6_multiplies_46 (by decide) (by omega) (fun hz => ?_) (fun hz => ?_)
      · obtain ⟨u, hu⟩ : ∃ u : Nat, u + i = 509 := ⟨509 - i, by omega⟩
        refine nx_iconst F 53 rfl (v := nI 0) dX6_multiplies_52 (by decide +kernel) ?_
        refine nx_istore F 55 rfl dX6_multiplies_53 (by decide) [(6, .int (nI 0)), (5, .int (nI (A i))), (4, .int (nI i)), (0, .ref m), (1, .ref row), (2, .int (nI a)), (3, .int (nI b))] rfl ?_
        refine nt_up (fun k => nt_X l ({ frames := 0, cells := 0, slots := 0, locals := 0 } : Room) D 7 G L (va_up f mm (.inl (cI, 509, .inl (nt_mc A B gm i k)))) [] f 0 0 [(6, .int (nI k)), (5, .int (nI (A i))), (4, .int (nI i)), (0, .ref m), (1, .ref row), (2, .int (nI a)), (3, .int (nI b))] 55 []) u ?_ ?_
        · refine nx_iload F 57 rfl dX6_multiplies_55 0 rfl ?_
          refine nx_sipush F 60 rfl (v := nI 509) dX6_multiplies_57 (by decide +kernel) ?_
          refine nx_iload F 62 rfl dX6_multiplies_60 2 rfl ?_
          refine nx_isub F 63 rfl dX6_multiplies_62 (nt_subN (show u + i = 509 by omega)) ?_
          refine nx_ge F 66 94 rfl dX6_multiplies_63 (by decide) (by omega) (by omega) (fun _ => ?_) (fun hh => absurd hh (by omega))
          refine nx_sipush F 97 rfl (v := nI 509) dX6_multiplies_94 (by decide +kernel) ?_
          refine nx_iload F 99 rfl dX6_multiplies_97 2 rfl ?_
          refine nx_isub F 100 rfl dX6_multiplies_99 (nt_subN (show u + i = 509 by omega)) ?_
          refine nx_istore F 102 rfl dX6_multiplies_100 (by decide) [(6, .int (nI u)), (5, .int (nI (A i))), (4, .int (nI i)), (0, .ref m), (1, .ref row), (2, .int (nI a)), (3, .int (nI b))] rfl ?_
          refine nt_up (fun k => nt_X l ({ frames := 0, cells := 0, slots := 0, locals := 0 } : Room) D 7 G L (va_up f mm (.inl (cI, 509, .inl (nt_mc A B gm i (u + k))))) [] f 0 0 [(6, .int (nI (u + k))), (5, .int (nI (A i))), (4, .int (nI i)), (0, .ref m), (1, .ref row), (2, .int (nI a)), (3, .int (nI b))] 102 []) i ?_ ?_
          · refine nx_iload F 104 rfl dX6_multiplies_102 0 rfl ?_
            refine nx_sipush F 107 rfl (v := nI 509) dX6_multiplies_104 (by decide +kernel) ?_
            refine nx_ge F 110 142 rfl dX6_multiplies_107 (by decide) (by omega) (by omega) (fun _ => ?_) (fun hh => absurd hh (by omega))
            refine nx_f (va_up f mm (.inl (cI, 509, .inl (nt_mc A B gm (i + 1) 0)))) (by rw [hu, nt_mc_i A B gm qi]) ?_
            refine nx_iinc F 145 rfl dX6_multiplies_142 2 rfl (nI_1 _) (by decide) [(4, .int (nI (i + 1))), (6, .int (nI (u + i))), (5, .int (nI (A i))), (0, .ref m), (1, .ref row), (2, .int (nI a)), (3, .int (nI b))] rfl ?_
            refine nx_goto F 28 dX6_multiplies_145 (by decide) ?_
            refine nx_lv [0, 3, 4, 5, 6] [(4, .int (nI (i + 1))), (0, .ref m), (1, .ref row), (2, .int (nI a)), (3, .int (nI b))] rfl ?_
            exact ih
          · intro k qk ihk
            refine nx_iload F 104 rfl dX6_multiplies_102 0 rfl ?_
            refine nx_sipush F 107 rfl (v := nI 509) dX6_multiplies_104 (by decide +kernel) ?_
            refine nx_ge F 110 142 rfl dX6_multiplies_107 (by decide) (by omega) (by omega) (fun hh => absurd hh (by omega)) (fun _ => ?_)
            refine nx_aload_n F 111 rfl dX6_multiplies_110 3 rfl ?_
            refine nx_get F 114 rfl dX6_multiplies_111 (nt_in1 h.mx ((va_up_ne _ _ h.x3).trans h.fx)) in_X6 rfl 2 (by decide) q161 rfl rfl ?_
            refine nx_iload F 116 rfl dX6_multiplies_114 2 rfl ?_
            refine nx_iload F 118 rfl dX6_multiplies_116 0 rfl ?_
            refine nx_iadd F 119 rfl dX6_multiplies_118 (nt_addN (show i + (u + k) = i + (u + k) by omega)) ?_
            refine nx_sipush F 122 rfl (v := nI 509) dX6_multiplies_119 (by decide +kernel) ?_
            refine nx_isub F 123 rfl dX6_multiplies_122 (nt_subN (show k + 509 = (i + (u + k)) by omega)) ?_
            refine nx_dup2 F 124 rfl dX6_multiplies_123 rfl rfl ?_
            refine nx_ald F 125 rfl dX6_multiplies_124 (v := nt_mc A B gm i (u + k) k) (nt_in1 h.m3 (va_up_self _ _ _)) (show k < 509 by omega) (by decide) rfl ?_
            refine nx_iload F 127 rfl dX6_multiplies_125 1 rfl ?_
            refine nx_aload_n F 128 rfl dX6_multiplies_127 4 rfl ?_
            refine nx_iload_n F 129 rfl dX6_multiplies_128 6 rfl ?_
            refine nx_iload F 131 rfl dX6_multiplies_129 0 rfl ?_
            refine nx_iadd F 132 rfl dX6_multiplies_131 (nt_addN (show b + (u + k) = b + (u + k) by omega)) ?_
            refine nx_ald F 133 rfl dX6_multiplies_132 (v := nI (B (u + k))) (nt_in1 hr ((va_up_ne _ _ nr).trans fr)) (show b + (u + k) < 1527 by omega) (by decide) (hB (u + k) (by omega)) ?_
            refine nx_imul F 134 rfl dX6_multiplies_133 rfl ?_
            refine nx_iadd F 135 rfl dX6_multiplies_134 rfl ?_
            refine nx_ast F 136 rfl dX6_multiplies_135 h.m3 (va_up_self _ _ _) (show k < 509 by omega) (by decide) (va_up f mm (.inl (cI, 509, .inl (nt_mc A B gm i (u + (k + 1)))))) (by rw [bx_uu, show u + (k + 1) = u + k + 1 from rfl, nt_mc_k A B gm qi (show u + k < 509 by omega) (show k < 509 by omega) (Or.inr (by omega)) rfl]) ?_
            refine nx_iinc F 139 rfl dX6_multiplies_136 0 rfl (nI_1 _) (by decide) [(6, .int (nI (u + (k + 1)))), (5, .int (nI (A i))), (4, .int (nI i)), (0, .ref m), (1, .ref row), (2, .int (nI a)), (3, .int (nI b))] rfl ?_
            refine nx_goto F 102 dX6_multiplies_139 (by decide) ?_
            exact ihk
        · intro k qk ihk
          refine nx_iload F 57 rfl dX6_multiplies_55 0 rfl ?_
          refine nx_sipush F 60 rfl (v := nI 509) dX6_multiplies_57 (by decide +kernel) ?_
          refine nx_iload F 62 rfl dX6_multiplies_60 2 rfl ?_
          refine nx_isub F 63 rfl dX6_multiplies_62 (nt_subN (show u + i = 509 by omega)) ?_
          refine nx_ge F 66 94 rfl dX6_multiplies_63 (by decide) (by omega) (by omega) (fun hh => absurd hh (by omega)) (fun _ => ?_)
          refine nx_aload_n F 67 rfl dX6_multiplies_66 3 rfl ?_
          refine nx_get F 70 rfl dX6_multiplies_67 (nt_in1 h.mx ((va_up_ne _ _ h.x3).trans h.fx)) in_X6 rfl 2 (by decide) q161 rfl rfl ?_
          refine nx_iload F 72 rfl dX6_multiplies_70 2 rfl ?_
          refine nx_iload F 74 rfl dX6_multiplies_72 0 rfl ?_
          refine nx_iadd F 75 rfl dX6_multiplies_74 (nt_addN (show i + k = i + k by omega)) ?_
          refine nx_dup2 F 76 rfl dX6_multiplies_75 rfl rfl ?_
          refine nx_ald F 77 rfl dX6_multiplies_76 (v := nt_mc A B gm i k (i + k)) (nt_in1 h.m3 (va_up_self _ _ _)) (show i + k < 509 by omega) (by decide) rfl ?_
          refine nx_iload F 79 rfl dX6_multiplies_77 1 rfl ?_
          refine nx_aload_n F 80 rfl dX6_multiplies_79 4 rfl ?_
          refine nx_iload_n F 81 rfl dX6_multiplies_80 6 rfl ?_
          refine nx_iload F 83 rfl dX6_multiplies_81 0 rfl ?_
          refine nx_iadd F 84 rfl dX6_multiplies_83 (nt_addN (show b + k = b + k by omega)) ?_
          refine nx_ald F 85 rfl dX6_multiplies_84 (v := nI (B k)) (nt_in1 hr ((va_up_ne _ _ nr).trans fr)) (show b + k < 1527 by omega) (by decide) (hB k (by omega)) ?_
          refine nx_imul F 86 rfl dX6_multiplies_85 rfl ?_
          refine nx_iadd F 87 rfl dX6_multiplies_86 rfl ?_
          refine nx_ast F 88 rfl dX6_multiplies_87 h.m3 (va_up_self _ _ _) (show i + k < 509 by omega) (by decide) (va_up f mm (.inl (cI, 509, .inl (nt_mc A B gm i (k + 1))))) (by rw [bx_uu, nt_mc_k A B gm qi (show k < 509 by omega) (show i + k < 509 by omega) (Or.inl rfl) rfl]) ?_
          refine nx_iinc F 91 rfl dX6_multiplies_88 0 rfl (nI_1 _) (by decide) [(6, .int (nI (k + 1))), (5, .int (nI (A i))), (4, .int (nI i)), (0, .ref m), (1, .ref row), (2, .int (nI a)), (3, .int (nI b))] rfl ?_
          refine nx_goto F 55 dX6_multiplies_91 (by decide) ?_
          exact ihk
      · refine nx_goto F 142 dX6_multiplies_49 (by decide) ?_
        refine nx_f (va_up f mm (.inl (cI, 509, .inl (nt_mc A B gm (i + 1) 0)))) (by rw [nt_mc_z A B gm qi hz]) ?_
        refine nx_iinc F 145 rfl dX6_multiplies_142 1 rfl (nI_1 _) (by decide) [(4, .int (nI (i + 1))), (5, .int (nI (A i))), (0, .ref m), (1, .ref row), (2, .int (nI a)), (3, .int (nI b))] rfl ?_
        refine nx_goto F 28 dX6_multiplies_145 (by decide) ?_
        refine nx_lv [0, 2, 3, 4, 5] [(4, .int (nI (i + 1))), (0, .ref m), (1, .ref row), (2, .int (nI a)), (3, .int (nI b))] rfl ?_
        exact ih
  · intro i qi ih
    refine nx_iload F 5 rfl dX6_multiplies_3 0 rfl ?_
    refine nx_sipush F 8 rfl (v := nI 509) dX6_multiplies_5 (by decide +kernel) ?_
    refine nx_ge F 11 25 rfl dX6_multiplies_8 (by decide) (by omega) (by omega) (fun hh => absurd hh (by omega)) (fun _ => ?_)
    refine nx_aload_n F 12 rfl dX6_multiplies_11 1 rfl ?_
    refine nx_get F 15 rfl dX6_multiplies_12 (nt_in1 h.mx ((va_up_ne _ _ h.x3).trans h.fx)) in_X6 rfl 2 (by decide) q161 rfl rfl ?_
    refine nx_iload F 17 rfl dX6_multiplies_15 0 rfl ?_
    refine nx_iconst F 18 rfl (v := nI 0) dX6_multiplies_17 (by decide +kernel) ?_
    refine nx_ast F 19 rfl dX6_multiplies_18 h.m3 (va_up_self _ _ _) (show i < 509 by omega) (by decide) (va_up f mm (.inl (cI, 509, .inl (nt_w 0 (i + 1) (fun _ => 0) gm)))) (by rw [bx_uu, nt_w_s 0 i (fun _ => 0) gm (p := i) (v := nI 0) (Nat.zero_add i).symm nI_0]) ?_
    refine nx_iinc F 22 rfl dX6_multiplies_19 0 rfl (nI_1 _) (by decide) [(4, .int (nI (i + 1))), (0, .ref m), (1, .ref row), (2, .int (nI a)), (3, .int (nI b))] rfl ?_
    refine nx_goto F 3 dX6_multiplies_22 (by decide) ?_
    exact ih
end
section
/-! ===== the reference: times, timesPhi, timesThree (printed by gen/model.py) ===== -/
set_option maxHeartbeats 4000000 in
set_option maxRecDepth 100000 in
/-- times(to, a, b) -/
theorem met_X6_times (l : Launch) (D : va_G) (cI cS cP : ClassId) {L : List Nat} {f : Nat → va_E} {m : Nat} {T : Nat → Nat → Nat} (hm : nt_MG cI L f m T) (hT : nt_bd T) (k a b : Int32) :
    nt_Mv l yX6_times (ws_ yX6_times cX6_times 5 none) ({ frames := 1, cells := 0, slots := 0, locals := 40 } : Room) D cI cS cP [.ref m, .int k, .int a, .int b] L f (fun L' f' => L' = L ∧ nt_MG cI L f' m (nt_tT T k a b)) 0 0 := by
  obtain ⟨mw, ms, mm, gw, gs, gm, h, hw, hs⟩ := hm
  refine nt_enterV (own := RX6) _ (by decide) rfl [(0, .ref m), (1, .int k), (2, .int a), (3, .int b)] rfl (Nat.le_of_ble_eq_true rfl) (fun G F hn hret => ?_)
  obtain ⟨kk, hkk⟩ : ∃ z : Nat, z = nt_u k % 3 := ⟨_, rfl⟩
  have bkk : kk < 3 := by rw [hkk]; exact nt_k3 _
  obtain ⟨ka, hka⟩ : ∃ z : Nat, z = nt_u a % 3 := ⟨_, rfl⟩
  have bka : ka < 3 := by rw [hka]; exact nt_k3 _
  obtain ⟨kb, hkb⟩ : ∃ z : Nat, z = nt_u b % 3 := ⟨_, rfl⟩
  have bkb : kb < 3 := by rw [hkb]; exact nt_k3 _
  obtain ⟨c, hc⟩ : ∃ z : Nat → Nat, z = nt_cN (T ka) (T kb) := ⟨_, rfl⟩
  have hB : ∀ j, c j < 2147483648 := fun j => by rw [hc]; exact hT.cW bka bkb j
  refine nx_aload_n F 1 rfl dX6_times_0 0 rfl ?_
  refine nx_aload_n F 2 rfl dX6_times_1 0 rfl ?_
  refine nx_get F 5 rfl dX6_times_2 (nt_in1 h.mx h.fx) in_X6 rfl 0 (by decide) q159 rfl rfl ?_
  refine nx_iload_n F 6 rfl dX6_times_5 2 rfl ?_
  refine nx_iS (st := [.ref mw, .ref m]) (n := 1) F 9 rfl [.int a] dX6_times_6 q173 q174 q8 q175 (by decide +kernel) ({ frames := 0, cells := 0, slots := 0, locals := 0 } : Room) rfl rfl ⟨(Nat.le_of_ble_eq_true rfl), (Nat.le_of_ble_eq_true rfl)⟩ ⟨(Nat.le_of_ble_eq_true rfl), (Nat.le_of_ble_eq_true rfl)⟩ (met_X6_first (f0 := f) l D cI cS cP a) rfl rfl (Nat.le_of_ble_eq_true rfl) (fun r L' f' hr => ?_)
  rw [hr, ← hka]
  refine nx_iload_n F 10 rfl dX6_times_9 3 rfl ?_
  refine nx_iS (st := [.int (nI (ka * 509)), .ref mw, .ref m]) (n := 1) F 13 rfl [.int b] dX6_times_10 q173 q174 q8 q175 (by decide +kernel) ({ frames := 0, cells := 0, slots := 0, locals := 0 } : Room) rfl rfl ⟨(Nat.le_of_ble_eq_true rfl), (Nat.le_of_ble_eq_true rfl)⟩ ⟨(Nat.le_of_ble_eq_true rfl), (Nat.le_of_ble_eq_true rfl)⟩ (met_X6_first (f0 := f) l D cI cS cP b) rfl rfl (Nat.le_of_ble_eq_true rfl) (fun r L' f' hr => ?_)
  rw [hr, ← hkb]
  refine nx_vV1 (st := []) (n := 3) F 16 rfl [.ref mw, .int (nI (ka * 509)), .int (nI (kb * 509))] dX6_times_13 q192 q194 qs0 q8 q195 (by decide +kernel) ({ frames := 0, cells := 0, slots := 0, locals := 0 } : Room) rfl rfl ⟨(Nat.le_of_ble_eq_true rfl), (Nat.le_of_ble_eq_true rfl)⟩ ⟨(Nat.le_of_ble_eq_true rfl), (Nat.le_of_ble_eq_true rfl)⟩ (nt_in1 h.mx h.fx) rfl (met_X6_multiplies (A := T ka) (B := T kb) l D cI cS cP h h.m1 h.f1 (hw ka bka) (hw kb bkb) (by omega) (by omega) (hT.1 ka bka)) rfl rfl (Nat.le_of_ble_eq_true rfl) (fun L' f' hk => ?_)
  obtain ⟨hk1, g1, hk2, hg1⟩ := hk
  rw [hk1, hk2]
  rw [← hc] at hg1
  have h1 := h.s3 g1
  refine nx_iconst F 17 rfl (v := nI 0) dX6_times_16 (by decide +kernel) ?_
  refine nx_istore F 19 rfl dX6_times_17 (by decide) [(4, .int (nI 0)), (0, .ref m), (1, .int k), (2, .int a), (3, .int b)] rfl ?_
  refine nx_f (va_up (va_up f mm (.inl (cI, 509, .inl g1))) mw (.inl (cI, 1527, .inl (nt_w (kk * 509) 0 (fun j => nI (c j % 2048)) gw)))) (by rw [nt_w_0]; exact nt_up_id h1.f1) ?_
  refine nt_up (fun i => nt_X l ({ frames := 1, cells := 0, slots := 0, locals := 40 } : Room) D 5 G L (va_up (va_up f mm (.inl (cI, 509, .inl g1))) mw (.inl (cI, 1527, .inl (nt_w (kk * 509) i (fun j => nI (c j % 2048)) gw)))) [] f 0 0 [(4, .int (nI i)), (0, .ref m), (1, .int k), (2, .int a), (3, .int b)] 19 []) 509 ?_ ?_
  · refine nx_iload F 21 rfl dX6_times_19 0 rfl ?_
    refine nx_sipush F 24 rfl (v := nI 509) dX6_times_21 (by decide +kernel) ?_
    refine nx_ge F 27 56 rfl dX6_times_24 (by decide) (by omega) (by omega) (fun _ => ?_) (fun hh => absurd hh (by omega))
    refine hret dX6_times_56 (Nat.le_refl 0) (Nat.le_refl 0) ⟨rfl, ?_⟩
    unfold nt_tT
    rw [← hkk, ← hka, ← hkb, ← hc]
    exact nt_MG.w h1 hs bkk (hw.row (fun j hj => rfl))
  · intro i qi ih
    refine nx_iload F 21 rfl dX6_times_19 0 rfl ?_
    refine nx_sipush F 24 rfl (v := nI 509) dX6_times_21 (by decide +kernel) ?_
    refine nx_ge F 27 56 rfl dX6_times_24 (by decide) (by omega) (by omega) (fun hh => absurd hh (by omega)) (fun _ => ?_)
    have H1 := h1.s1 (nt_w (kk * 509) i (fun j => nI (c j % 2048)) gw)
    refine nx_aload_n F 28 rfl dX6_times_27 1 rfl ?_
    refine nx_get F 31 rfl dX6_times_28 (nt_in1 H1.mx H1.fx) in_X6 rfl 0 (by decide) q159 rfl rfl ?_
    refine nx_iload_n F 32 rfl dX6_times_31 2 rfl ?_
    refine nx_iS (st := [.ref mw]) (n := 1) F 35 rfl [.int k] dX6_times_32 q173 q174 q8 q175 (by decide +kernel) ({ frames := 0, cells := 0, slots := 0, locals := 0 } : Room) rfl rfl ⟨(Nat.le_of_ble_eq_true rfl), (Nat.le_of_ble_eq_true rfl)⟩ ⟨(Nat.le_of_ble_eq_true rfl), (Nat.le_of_ble_eq_true rfl)⟩ (met_X6_first (f0 := f) l D cI cS cP k) rfl rfl (Nat.le_of_ble_eq_true rfl) (fun r L' f' hr => ?_)
    rw [hr, ← hkk]
    refine nx_iload F 37 rfl dX6_times_35 0 rfl ?_
    refine nx_iadd F 38 rfl dX6_times_37 (nt_addN (show (kk * 509) + i = (kk * 509) + i by omega)) ?_
    refine nx_aload_n F 39 rfl dX6_times_38 1 rfl ?_
    refine nx_get F 42 rfl dX6_times_39 (nt_in1 H1.mx H1.fx) in_X6 rfl 2 (by decide) q161 rfl rfl ?_
    refine nx_iload F 44 rfl dX6_times_42 0 rfl ?_
    refine nx_ald F 45 rfl dX6_times_44 (v := nI (c i)) (nt_in1 H1.m3 H1.f3) (show i < 509 by omega) (by decide) (hg1 i qi) ?_
    refine nx_sipush F 48 rfl (v := nI 2048) dX6_times_45 (by decide +kernel) ?_
    refine nx_irem F 49 rfl (v := nI (c i % 2048)) dX6_times_48 (by decide +kernel) (nt_rem (hB _) (by decide) (by decide)) ?_
    refine nx_ast F 50 rfl dX6_times_49 h.m1 H1.f1 (show kk * 509 + i < 1527 by omega) (by decide) (va_up (va_up f mm (.inl (cI, 509, .inl g1))) mw (.inl (cI, 1527, .inl (nt_w (kk * 509) (i + 1) (fun j => nI (c j % 2048)) gw)))) (by rw [bx_uu, nt_w_s (kk * 509) i (fun j => nI (c j % 2048)) gw (p := kk * 509 + i) (v := nI (c i % 2048)) rfl rfl]) ?_
    refine nx_iinc F 53 rfl dX6_times_50 0 rfl (nI_1 _) (by decide) [(4, .int (nI (i + 1))), (0, .ref m), (1, .int k), (2, .int a), (3, .int b)] rfl ?_
    refine nx_goto F 19 dX6_times_53 (by decide) ?_
    exact ih

set_option maxHeartbeats 4000000 in
set_option maxRecDepth 100000 in
/-- timesPhi(to, a, b) -/
theorem met_X6_timesPhi (l : Launch) (D : va_G) (cI cS cP : ClassId) {L : List Nat} {f : Nat → va_E} {m : Nat} {T : Nat → Nat → Nat} (hm : nt_MG cI L f m T) (hT : nt_bd T) (k a b : Int32) :
    nt_Mv l yX6_timesPhi (ws_ yX6_timesPhi cX6_timesPhi 6 none) ({ frames := 1, cells := 0, slots := 0, locals := 40 } : Room) D cI cS cP [.ref m, .int k, .int a, .int b] L f (fun L' f' => L' = L ∧ nt_MG cI L f' m (nt_tF T k a b)) 0 0 := by
  obtain ⟨mw, ms, mm, gw, gs, gm, h, hw, hs⟩ := hm
  refine nt_enterV (own := RX6) _ (by decide) rfl [(0, .ref m), (1, .int k), (2, .int a), (3, .int b)] rfl (Nat.le_of_ble_eq_true rfl) (fun G F hn hret => ?_)
  obtain ⟨kk, hkk⟩ : ∃ z : Nat, z = nt_u k % 3 := ⟨_, rfl⟩
  have bkk : kk < 3 := by rw [hkk]; exact nt_k3 _
  obtain ⟨ka, hka⟩ : ∃ z : Nat, z = nt_u a % 3 := ⟨_, rfl⟩
  have bka : ka < 3 := by rw [hka]; exact nt_k3 _
  obtain ⟨kb, hkb⟩ : ∃ z : Nat, z = nt_u b % 3 := ⟨_, rfl⟩
  have bkb : kb < 3 := by rw [hkb]; exact nt_k3 _
  obtain ⟨c, hc⟩ : ∃ z : Nat → Nat, z = nt_cN (T ka) (T kb) := ⟨_, rfl⟩
  have hB : ∀ j, c j < 2147483648 := fun j => by rw [hc]; exact hT.cW bka bkb j
  refine nx_aload_n F 1 rfl dX6_timesPhi_0 0 rfl ?_
  refine nx_aload_n F 2 rfl dX6_timesPhi_1 0 rfl ?_
  refine nx_get F 5 rfl dX6_timesPhi_2 (nt_in1 h.mx h.fx) in_X6 rfl 0 (by decide) q159 rfl rfl ?_
  refine nx_iload_n F 6 rfl dX6_timesPhi_5 2 rfl ?_
  refine nx_iS (st := [.ref mw, .ref m]) (n := 1) F 9 rfl [.int a] dX6_timesPhi_6 q173 q174 q8 q175 (by decide +kernel) ({ frames := 0, cells := 0, slots := 0, locals := 0 } : Room) rfl rfl ⟨(Nat.le_of_ble_eq_true rfl), (Nat.le_of_ble_eq_true rfl)⟩ ⟨(Nat.le_of_ble_eq_true rfl), (Nat.le_of_ble_eq_true rfl)⟩ (met_X6_first (f0 := f) l D cI cS cP a) rfl rfl (Nat.le_of_ble_eq_true rfl) (fun r L' f' hr => ?_)
  rw [hr, ← hka]
  refine nx_iload_n F 10 rfl dX6_timesPhi_9 3 rfl ?_
  refine nx_iS (st := [.int (nI (ka * 509)), .ref mw, .ref m]) (n := 1) F 13 rfl [.int b] dX6_timesPhi_10 q173 q174 q8 q175 (by decide +kernel) ({ frames := 0, cells := 0, slots := 0, locals := 0 } : Room) rfl rfl ⟨(Nat.le_of_ble_eq_true rfl), (Nat.le_of_ble_eq_true rfl)⟩ ⟨(Nat.le_of_ble_eq_true rfl), (Nat.le_of_ble_eq_true rfl)⟩ (met_X6_first (f0 := f) l D cI cS cP b) rfl rfl (Nat.le_of_ble_eq_true rfl) (fun r L' f' hr => ?_)
  rw [hr, ← hkb]
  refine nx_vV1 (st := []) (n := 3) F 16 rfl [.ref mw, .int (nI (ka * 509)), .int (nI (kb * 509))] dX6_timesPhi_13 q192 q194 qs0 q8 q195 (by decide +kernel) ({ frames := 0, cells := 0, slots := 0, locals := 0 } : Room) rfl rfl ⟨(Nat.le_of_ble_eq_true rfl), (Nat.le_of_ble_eq_true rfl)⟩ ⟨(Nat.le_of_ble_eq_true rfl), (Nat.le_of_ble_eq_true rfl)⟩ (nt_in1 h.mx h.fx) rfl (met_X6_multiplies (A := T ka) (B := T kb) l D cI cS cP h h.m1 h.f1 (hw ka bka) (hw kb bkb) (by omega) (by omega) (hT.1 ka bka)) rfl rfl (Nat.le_of_ble_eq_true rfl) (fun L' f' hk => ?_)
  obtain ⟨hk1, g1, hk2, hg1⟩ := hk
  rw [hk1, hk2]
  rw [← hc] at hg1
  have h1 := h.s3 g1
  obtain ⟨d, hd⟩ : ∃ z : Nat, z = c 508 % 2048 := ⟨_, rfl⟩
  have bd : d < 2048 := by rw [hd]; exact Nat.mod_lt _ (by decide)
  refine nx_aload_n F 17 rfl dX6_timesPhi_16 0 rfl ?_
  refine nx_get F 20 rfl dX6_timesPhi_17 (nt_in1 h1.mx h1.fx) in_X6 rfl 2 (by decide) q161 rfl rfl ?_
  refine nx_sipush F 23 rfl (v := nI 508) dX6_timesPhi_20 (by decide +kernel) ?_
  refine nx_ald F 24 rfl dX6_timesPhi_23 (v := nI (c 508)) (nt_in1 h1.m3 h1.f3) (show 508 < 509 by omega) (by decide) (hg1 508 (by decide)) ?_
  refine nx_sipush F 27 rfl (v := nI 2048) dX6_timesPhi_24 (by decide +kernel) ?_
  refine nx_irem F 28 rfl (v := nI d) dX6_timesPhi_27 (by decide +kernel) (by rw [hd]; exact nt_rem (hB _) (by decide) (by decide)) ?_
  refine nx_istore F 30 rfl dX6_timesPhi_28 (by decide) [(4, .int (nI d)), (0, .ref m), (1, .int k), (2, .int a), (3, .int b)] rfl ?_
  refine nx_iconst F 31 rfl (v := nI 0) dX6_timesPhi_30 (by decide +kernel) ?_
  refine nx_istore F 33 rfl dX6_timesPhi_31 (by decide) [(5, .int (nI 0)), (4, .int (nI d)), (0, .ref m), (1, .int k), (2, .int a), (3, .int b)] rfl ?_
  refine nx_f (va_up (va_up f mm (.inl (cI, 509, .inl g1))) mw (.inl (cI, 1527, .inl (nt_w (kk * 509) 0 (fun j => nI ((c j % 2048 + 2048 - d) % 2048)) gw)))) (by rw [nt_w_0]; exact nt_up_id h1.f1) ?_
  refine nt_up (fun i => nt_X l ({ frames := 1, cells := 0, slots := 0, locals := 40 } : Room) D 6 G L (va_up (va_up f mm (.inl (cI, 509, .inl g1))) mw (.inl (cI, 1527, .inl (nt_w (kk * 509) i (fun j => nI ((c j % 2048 + 2048 - d) % 2048)) gw)))) [] f 0 0 [(5, .int (nI i)), (4, .int (nI d)), (0, .ref m), (1, .int k), (2, .int a), (3, .int b)] 33 []) 509 ?_ ?_
  · refine nx_iload F 35 rfl dX6_timesPhi_33 0 rfl ?_
    refine nx_sipush F 38 rfl (v := nI 509) dX6_timesPhi_35 (by decide +kernel) ?_
    refine nx_ge F 41 81 rfl dX6_timesPhi_38 (by decide) (by omega) (by omega) (fun _ => ?_) (fun hh => absurd hh (by omega))
    refine hret dX6_timesPhi_81 (Nat.le_refl 0) (Nat.le_refl 0) ⟨rfl, ?_⟩
    unfold nt_tF
    rw [← hkk, ← hka, ← hkb, ← hc]
    rw [← hd]
    exact nt_MG.w h1 hs bkk (hw.row (fun j hj => rfl))
  · intro i qi ih
    refine nx_iload F 35 rfl dX6_timesPhi_33 0 rfl ?_
    refine nx_sipush F 38 rfl (v := nI 509) dX6_timesPhi_35 (by decide +kernel) ?_
    refine nx_ge F 41 81 rfl dX6_timesPhi_38 (by decide) (by omega) (by omega) (fun hh => absurd hh (by omega)) (fun _ => ?_)
    have H1 := h1.s1 (nt_w (kk * 509) i (fun j => nI ((c j % 2048 + 2048 - d) % 2048)) gw)
    refine nx_aload_n F 42 rfl dX6_timesPhi_41 2 rfl ?_
    refine nx_get F 45 rfl dX6_timesPhi_42 (nt_in1 H1.mx H1.fx) in_X6 rfl 0 (by decide) q159 rfl rfl ?_
    refine nx_iload_n F 46 rfl dX6_timesPhi_45 3 rfl ?_
    refine nx_iS (st := [.ref mw]) (n := 1) F 49 rfl [.int k] dX6_timesPhi_46 q173 q174 q8 q175 (by decide +kernel) ({ frames := 0, cells := 0, slots := 0, locals := 0 } : Room) rfl rfl ⟨(Nat.le_of_ble_eq_true rfl), (Nat.le_of_ble_eq_true rfl)⟩ ⟨(Nat.le_of_ble_eq_true rfl), (Nat.le_of_ble_eq_true rfl)⟩ (met_X6_first (f0 := f) l D cI cS cP k) rfl rfl (Nat.le_of_ble_eq_true rfl) (fun r L' f' hr => ?_)
    rw [hr, ← hkk]
    obtain ⟨y, hy⟩ : ∃ z : Nat, z = c i % 2048 := ⟨_, rfl⟩
    have by1 : y < 2048 := by rw [hy]; exact Nat.mod_lt _ (by decide)
    refine nx_iload F 51 rfl dX6_timesPhi_49 0 rfl ?_
    refine nx_iadd F 52 rfl dX6_timesPhi_51 (nt_addN (show (kk * 509) + i = (kk * 509) + i by omega)) ?_
    refine nx_aload_n F 53 rfl dX6_timesPhi_52 2 rfl ?_
    refine nx_get F 56 rfl dX6_timesPhi_53 (nt_in1 H1.mx H1.fx) in_X6 rfl 2 (by decide) q161 rfl rfl ?_
    refine nx_iload F 58 rfl dX6_timesPhi_56 0 rfl ?_
    refine nx_ald F 59 rfl dX6_timesPhi_58 (v := nI (c i)) (nt_in1 H1.m3 H1.f3) (show i < 509 by omega) (by decide) (hg1 i qi) ?_
    refine nx_sipush F 62 rfl (v := nI 2048) dX6_timesPhi_59 (by decide +kernel) ?_
    refine nx_irem F 63 rfl (v := nI y) dX6_timesPhi_62 (by decide +kernel) (by rw [hy]; exact nt_rem (hB _) (by decide) (by decide)) ?_
    refine nx_sipush F 66 rfl (v := nI 2048) dX6_timesPhi_63 (by decide +kernel) ?_
    refine nx_iadd F 67 rfl dX6_timesPhi_66 (nt_addN (show y + 2048 = y + 2048 by omega)) ?_
    refine nx_iload F 69 rfl dX6_timesPhi_67 1 rfl ?_
    refine nx_isub F 70 rfl dX6_timesPhi_69 (nt_subN (show ((y + 2048) - d) + d = (y + 2048) by omega)) ?_
    refine nx_sipush F 73 rfl (v := nI 2048) dX6_timesPhi_70 (by decide +kernel) ?_
    refine nx_irem F 74 rfl (v := nI ((y + 2048 - d) % 2048)) dX6_timesPhi_73 (by decide +kernel) (nt_rem (by omega) (by decide) (by decide)) ?_
    refine nx_ast F 75 rfl dX6_timesPhi_74 h.m1 H1.f1 (show kk * 509 + i < 1527 by omega) (by decide) (va_up (va_up f mm (.inl (cI, 509, .inl g1))) mw (.inl (cI, 1527, .inl (nt_w (kk * 509) (i + 1) (fun j => nI ((c j % 2048 + 2048 - d) % 2048)) gw)))) (by rw [bx_uu, nt_w_s (kk * 509) i (fun j => nI ((c j % 2048 + 2048 - d) % 2048)) gw (p := kk * 509 + i) (v := nI ((y + 2048 - d) % 2048)) rfl (by rw [hy])]) ?_
    refine nx_iinc F 78 rfl dX6_timesPhi_75 0 rfl (nI_1 _) (by decide) [(5, .int (nI (i + 1))), (4, .int (nI d)), (0, .ref m), (1, .int k), (2, .int a), (3, .int b)] rfl ?_
    refine nx_goto F 33 dX6_timesPhi_78 (by decide) ?_
    exact ih

set_option maxHeartbeats 4000000 in
set_option maxRecDepth 100000 in
/-- timesThree(to, a, b) -/
theorem met_X6_timesThree (l : Launch) (D : va_G) (cI cS cP : ClassId) {L : List Nat} {f : Nat → va_E} {m : Nat} {T : Nat → Nat → Nat} (hm : nt_MG cI L f m T) (hT : nt_bd T) (k a b : Int32) :
    nt_Mv l yX6_timesThree (ws_ yX6_timesThree cX6_timesThree 6 none) ({ frames := 1, cells := 0, slots := 0, locals := 40 } : Room) D cI cS cP [.ref m, .int k, .int a, .int b] L f (fun L' f' => L' = L ∧ nt_MG cI L f' m (nt_tH T k a b)) 0 0 := by
  obtain ⟨mw, ms, mm, gw, gs, gm, h, hw, hs⟩ := hm
  refine nt_enterV (own := RX6) _ (by decide) rfl [(0, .ref m), (1, .int k), (2, .int a), (3, .int b)] rfl (Nat.le_of_ble_eq_true rfl) (fun G F hn hret => ?_)
  obtain ⟨kk, hkk⟩ : ∃ z : Nat, z = nt_u k % 3 := ⟨_, rfl⟩
  have bkk : kk < 3 := by rw [hkk]; exact nt_k3 _
  obtain ⟨ka, hka⟩ : ∃ z : Nat, z = nt_u a % 3 := ⟨_, rfl⟩
  have bka : ka < 3 := by rw [hka]; exact nt_k3 _
  obtain ⟨kb, hkb⟩ : ∃ z : Nat, z = nt_u b % 3 := ⟨_, rfl⟩
  have bkb : kb < 3 := by rw [hkb]; exact nt_k3 _
  obtain ⟨c, hc⟩ : ∃ z : Nat → Nat, z = nt_cN (T (3 + ka)) (T (3 + kb)) := ⟨_, rfl⟩
  have hB : ∀ j, c j < 2147483648 := fun j => by rw [hc]; exact Nat.lt_trans (hT.cS bka bkb j) (by decide)
  refine nx_aload_n F 1 rfl dX6_timesThree_0 0 rfl ?_
  refine nx_aload_n F 2 rfl dX6_timesThree_1 0 rfl ?_
  refine nx_get F 5 rfl dX6_timesThree_2 (nt_in1 h.mx h.fx) in_X6 rfl 1 (by decide) q160 rfl rfl ?_
  refine nx_iload_n F 6 rfl dX6_timesThree_5 2 rfl ?_
  refine nx_iS (st := [.ref ms, .ref m]) (n := 1) F 9 rfl [.int a] dX6_timesThree_6 q173 q174 q8 q175 (by decide +kernel) ({ frames := 0, cells := 0, slots := 0, locals := 0 } : Room) rfl rfl ⟨(Nat.le_of_ble_eq_true rfl), (Nat.le_of_ble_eq_true rfl)⟩ ⟨(Nat.le_of_ble_eq_true rfl), (Nat.le_of_ble_eq_true rfl)⟩ (met_X6_first (f0 := f) l D cI cS cP a) rfl rfl (Nat.le_of_ble_eq_true rfl) (fun r L' f' hr => ?_)
  rw [hr, ← hka]
  refine nx_iload_n F 10 rfl dX6_timesThree_9 3 rfl ?_
  refine nx_iS (st := [.int (nI (ka * 509)), .ref ms, .ref m]) (n := 1) F 13 rfl [.int b] dX6_timesThree_10 q173 q174 q8 q175 (by decide +kernel) ({ frames := 0, cells := 0, slots := 0, locals := 0 } : Room) rfl rfl ⟨(Nat.le_of_ble_eq_true rfl), (Nat.le_of_ble_eq_true rfl)⟩ ⟨(Nat.le_of_ble_eq_true rfl), (Nat.le_of_ble_eq_true rfl)⟩ (met_X6_first (f0 := f) l D cI cS cP b) rfl rfl (Nat.le_of_ble_eq_true rfl) (fun r L' f' hr => ?_)
  rw [hr, ← hkb]
  refine nx_vV1 (st := []) (n := 3) F 16 rfl [.ref ms, .int (nI (ka * 509)), .int (nI (kb * 509))] dX6_timesThree_13 q192 q194 qs0 q8 q195 (by decide +kernel) ({ frames := 0, cells := 0, slots := 0, locals := 0 } : Room) rfl rfl ⟨(Nat.le_of_ble_eq_true rfl), (Nat.le_of_ble_eq_true rfl)⟩ ⟨(Nat.le_of_ble_eq_true rfl), (Nat.le_of_ble_eq_true rfl)⟩ (nt_in1 h.mx h.fx) rfl (met_X6_multiplies (A := T (3 + ka)) (B := T (3 + kb)) l D cI cS cP h h.m2 h.f2 (hs ka bka) (hs kb bkb) (by omega) (by omega) (fun j hj => Nat.lt_trans (hT.2 ka bka j hj) (by decide))) rfl rfl (Nat.le_of_ble_eq_true rfl) (fun L' f' hk => ?_)
  obtain ⟨hk1, g1, hk2, hg1⟩ := hk
  rw [hk1, hk2]
  rw [← hc] at hg1
  have h1 := h.s3 g1
  obtain ⟨d, hd⟩ : ∃ z : Nat, z = c 508 % 3 := ⟨_, rfl⟩
  have bd : d < 3 := by rw [hd]; exact Nat.mod_lt _ (by decide)
  refine nx_aload_n F 17 rfl dX6_timesThree_16 0 rfl ?_
  refine nx_get F 20 rfl dX6_timesThree_17 (nt_in1 h1.mx h1.fx) in_X6 rfl 2 (by decide) q161 rfl rfl ?_
  refine nx_sipush F 23 rfl (v := nI 508) dX6_timesThree_20 (by decide +kernel) ?_
  refine nx_ald F 24 rfl dX6_timesThree_23 (v := nI (c 508)) (nt_in1 h1.m3 h1.f3) (show 508 < 509 by omega) (by decide) (hg1 508 (by decide)) ?_
  refine nx_iconst F 25 rfl (v := nI 3) dX6_timesThree_24 (by decide +kernel) ?_
  refine nx_irem F 26 rfl (v := nI d) dX6_timesThree_25 (by decide +kernel) (by rw [hd]; exact nt_rem (hB _) (by decide) (by decide)) ?_
  refine nx_istore F 28 rfl dX6_timesThree_26 (by decide) [(4, .int (nI d)), (0, .ref m), (1, .int k), (2, .int a), (3, .int b)] rfl ?_
  refine nx_iconst F 29 rfl (v := nI 0) dX6_timesThree_28 (by decide +kernel) ?_
  refine nx_istore F 31 rfl dX6_timesThree_29 (by decide) [(5, .int (nI 0)), (4, .int (nI d)), (0, .ref m), (1, .int k), (2, .int a), (3, .int b)] rfl ?_
  refine nx_f (va_up (va_up f mm (.inl (cI, 509, .inl g1))) ms (.inl (cI, 1527, .inl (nt_w (kk * 509) 0 (fun j => nI ((c j % 3 + 3 - d) % 3)) gs)))) (by rw [nt_w_0]; exact nt_up_id h1.f2) ?_
  refine nt_up (fun i => nt_X l ({ frames := 1, cells := 0, slots := 0, locals := 40 } : Room) D 6 G L (va_up (va_up f mm (.inl (cI, 509, .inl g1))) ms (.inl (cI, 1527, .inl (nt_w (kk * 509) i (fun j => nI ((c j % 3 + 3 - d) % 3)) gs)))) [] f 0 0 [(5, .int (nI i)), (4, .int (nI d)), (0, .ref m), (1, .int k), (2, .int a), (3, .int b)] 31 []) 509 ?_ ?_
  · refine nx_iload F 33 rfl dX6_timesThree_31 0 rfl ?_
    refine nx_sipush F 36 rfl (v := nI 509) dX6_timesThree_33 (by decide +kernel) ?_
    refine nx_ge F 39 73 rfl dX6_timesThree_36 (by decide) (by omega) (by omega) (fun _ => ?_) (fun hh => absurd hh (by omega))
    refine hret dX6_timesThree_73 (Nat.le_refl 0) (Nat.le_refl 0) ⟨rfl, ?_⟩
    unfold nt_tH
    rw [← hkk, ← hka, ← hkb, ← hc]
    rw [← hd]
    exact nt_MG.s h1 hw (hs.row (fun j hj => rfl))
  · intro i qi ih
    refine nx_iload F 33 rfl dX6_timesThree_31 0 rfl ?_
    refine nx_sipush F 36 rfl (v := nI 509) dX6_timesThree_33 (by decide +kernel) ?_
    refine nx_ge F 39 73 rfl dX6_timesThree_36 (by decide) (by omega) (by omega) (fun hh => absurd hh (by omega)) (fun _ => ?_)
    have H1 := h1.s2 (nt_w (kk * 509) i (fun j => nI ((c j % 3 + 3 - d) % 3)) gs)
    refine nx_aload_n F 40 rfl dX6_timesThree_39 2 rfl ?_
    refine nx_get F 43 rfl dX6_timesThree_40 (nt_in1 H1.mx H1.fx) in_X6 rfl 1 (by decide) q160 rfl rfl ?_
    refine nx_iload_n F 44 rfl dX6_timesThree_43 3 rfl ?_
    refine nx_iS (st := [.ref ms]) (n := 1) F 47 rfl [.int k] dX6_timesThree_44 q173 q174 q8 q175 (by decide +kernel) ({ frames := 0, cells := 0, slots := 0, locals := 0 } : Room) rfl rfl ⟨(Nat.le_of_ble_eq_true rfl), (Nat.le_of_ble_eq_true rfl)⟩ ⟨(Nat.le_of_ble_eq_true rfl), (Nat.le_of_ble_eq_true rfl)⟩ (met_X6_first (f0 := f) l D cI cS cP k) rfl rfl (Nat.le_of_ble_eq_true rfl) (fun r L' f' hr => ?_)
    rw [hr, ← hkk]
    obtain ⟨y, hy⟩ : ∃ z : Nat, z = c i % 3 := ⟨_, rfl⟩
    have by1 : y < 3 := by rw [hy]; exact Nat.mod_lt _ (by decide)
    refine nx_iload F 49 rfl dX6_timesThree_47 0 rfl ?_
    refine nx_iadd F 50 rfl dX6_timesThree_49 (nt_addN (show (kk * 509) + i = (kk * 509) + i by omega)) ?_
    refine nx_aload_n F 51 rfl dX6_timesThree_50 2 rfl ?_
    refine nx_get F 54 rfl dX6_timesThree_51 (nt_in1 H1.mx H1.fx) in_X6 rfl 2 (by decide) q161 rfl rfl ?_
    refine nx_iload F 56 rfl dX6_timesThree_54 0 rfl ?_
    refine nx_ald F 57 rfl dX6_timesThree_56 (v := nI (c i)) (nt_in1 H1.m3 H1.f3) (show i < 509 by omega) (by decide) (hg1 i qi) ?_
    refine nx_iconst F 58 rfl (v := nI 3) dX6_timesThree_57 (by decide +kernel) ?_
    refine nx_irem F 59 rfl (v := nI y) dX6_timesThree_58 (by decide +kernel) (by rw [hy]; exact nt_rem (hB _) (by decide) (by decide)) ?_
    refine nx_iconst F 60 rfl (v := nI 3) dX6_timesThree_59 (by decide +kernel) ?_
    refine nx_iadd F 61 rfl dX6_timesThree_60 (nt_addN (show y + 3 = y + 3 by omega)) ?_
    refine nx_iload F 63 rfl dX6_timesThree_61 1 rfl ?_
    refine nx_isub F 64 rfl dX6_timesThree_63 (nt_subN (show ((y + 3) - d) + d = (y + 3) by omega)) ?_
    refine nx_iconst F 65 rfl (v := nI 3) dX6_timesThree_64 (by decide +kernel) ?_
    refine nx_irem F 66 rfl (v := nI ((y + 3 - d) % 3)) dX6_timesThree_65 (by decide +kernel) (nt_rem (by omega) (by decide) (by decide)) ?_
    refine nx_ast F 67 rfl dX6_timesThree_66 h.m2 H1.f2 (show kk * 509 + i < 1527 by omega) (by decide) (va_up (va_up f mm (.inl (cI, 509, .inl g1))) ms (.inl (cI, 1527, .inl (nt_w (kk * 509) (i + 1) (fun j => nI ((c j % 3 + 3 - d) % 3)) gs)))) (by rw [bx_uu, nt_w_s (kk * 509) i (fun j => nI ((c j % 3 + 3 - d) % 3)) gs (p := kk * 509 + i) (v := nI ((y + 3 - d) % 3)) rfl (by rw [hy])]) ?_
    refine nx_iinc F 70 rfl dX6_timesThree_67 0 rfl (nI_1 _) (by decide) [(5, .int (nI (i + 1))), (4, .int (nI d)), (0, .ref m), (1, .int k), (2, .int a), (3, .int b)] rfl ?_
    refine nx_goto F 31 dX6_timesThree_70 (by decide) ?_
    exact ih
end
section
/-! ===== THE LAW: rows for the script and the switch (printed by gen/law.py) ===== -/
section LAWX
variable {l : Launch} {R : Room} {D : va_G} {nL : Nat} {G : nt_G} {L L2 : List Nat} {f f2 : Nat → va_E} {kc ks : Nat} {lv : List (Nat × Value)} {pc : Nat} {st : List Value}
variable {cI cS cP : ClassId} {cc : ByteArray} {own : String}
/-- the script: n ints xs in the cell b, which nothing writes -/
def nt_XX (G : nt_G) (b n : Nat) (xs : Nat → Int32) : Prop := va_X b n xs (nt_sO G) (nt_sO G).heap ∧ b < (nt_sO G).heap.size ∧ ¬ nt_AO G b
theorem nx_xld (F : nt_F G D cI cS cP cc own nL) (pc' : Nat) (hpc : pc + 1 = pc') {b k n : Nat} {xs : Nat → Int32} {v : Int32} (hdg : decode cc pc = .ok (.iaload, 1)) (hX : nt_XX G b n xs) (hk : k < n) (hn : n < 2147483648) (hv : xs k = v)
    (K : nt_X l R D nL G L f L2 f2 kc ks lv pc' (.int v :: st)) : nt_X l R D nL G L f L2 f2 kc ks lv pc (.int (nI k) :: .ref b :: st) := by
  subst hpc hv
  intro H locs ls hP hD hS hl
  refine va_sld F.1 F.2.1 hX.1 hX.2.1 hX.2.2 hS (vp_in_nI hk hn) hdg ?_
  rw [nI_clamp (show k < 2 ^ 31 by omega)]
  exact K H locs ls hP hD hS hl
theorem nx_xlen (F : nt_F G D cI cS cP cc own nL) (pc' : Nat) (hpc : pc + 1 = pc') {b n : Nat} {xs : Nat → Int32} (hdg : decode cc pc = .ok (.arraylength, 1)) (hX : nt_XX G b n xs)
    (K : nt_X l R D nL G L f L2 f2 kc ks lv pc' (.int (nI n) :: st)) : nt_X l R D nL G L f L2 f2 kc ks lv pc (.ref b :: st) := by
  subst hpc
  intro H locs ls hP hD hS hl
  exact va_slen F.1 F.2.1 hX.1 hX.2.1 hX.2.2 hS hdg (K H locs ls hP hD hS hl)
theorem nx_gtq (F : nt_F G D cI cS cP cc own nL) (tgt : Nat) {x y : Int32} {off : Int} (hdg : decode cc pc = .ok (.if_icmp .gt off, 3)) (ht : (pc : Int) + off = (tgt : Int)) (hlt : y < x)
    (kt : nt_X l R D nL G L f L2 f2 kc ks lv tgt st) : nt_X l R D nL G L f L2 f2 kc ks lv pc (.int y :: .int x :: st) :=
  fun H locs ls hP hD hS hl => lv_icmp_gt F.1 F.2.1 hdg ht (fun _ => kt H locs ls hP hD hS hl) (fun h => absurd hlt h)
theorem nx_table (F : nt_F G D cI cS cP cc own nL) (tgt : Nat) {dflt lo hi : Int} {offs : Array Int} {len : Nat} {x : Int32} {off : Int} (hdg : decode cc pc = .ok (.tableswitch dflt lo hi offs, len)) (h1 : ¬ x.toInt < lo) (h2 : ¬ hi < x.toInt) (ho : offs[(x.toInt - lo).toNat]? = some off) (ht : (pc : Int) + off = (tgt : Int))
    (kt : nt_X l R D nL G L f L2 f2 kc ks lv tgt st) : nt_X l R D nL G L f L2 f2 kc ks lv pc (.int x :: st) :=
  fun H locs ls hP hD hS hl => lv_tableIn F.1 F.2.1 hdg h1 h2 ho ht (kt H locs ls hP hD hS hl)
theorem nt_RG.here {x : Nat} {T : Nat → Nat → Nat} (h : nt_RG cS cP L f x T) : ∃ fs : List Value, x ∈ L ∧ f x = .inr (0, fs) := by
  obtain ⟨wa, sa, W, S, pp, cc, qq, gg, h, hg⟩ := h
  exact ⟨_, h.mx, h.fx⟩
theorem nt_MG.here {m : Nat} {T : Nat → Nat → Nat} (h : nt_MG cI L f m T) : ∃ fs : List Value, m ∈ L ∧ f m = .inr (3, fs) := by
  obtain ⟨mw, ms, mm, gw, gs, gm, h, hw, hs⟩ := h
  exact ⟨_, h.mx, h.fx⟩
end LAWX

set_option maxHeartbeats 4000000 in
set_option maxRecDepth 100000 in
/-- the law, one call: wide -/
theorem law_wide {l : Launch} {R : Room} {D : va_G} {G : nt_G} {L L2 : List Nat} {f f2 : Nat → va_E} {kc ks : Nat} {cI cS cP : ClassId} {b n x m i : Nat} {xs : Nat → Int32} {T : Nat → Nat → Nat} (F : nt_F G D cI cS cP cL_law "NtruRingLaw" 4) (hX : nt_XX G b n xs) (hn : n ≤ 72) (hi : i + 6 ≤ n) (hRc : kc + 7 ≤ R.cells) (hRs : ks + 7133 ≤ R.slots) (hRf : 8 ≤ R.frames) (hRl : 1000 ≤ R.locals) (hx : nt_RG cS cP L f x T) (hm : nt_MG cI L2 f2 m T) (hT : nt_bd T)
    (K : ∀ (L' : List Nat) (f' : Nat → va_E) (L2' : List Nat) (f2' : Nat → va_E) (T' : Nat → Nat → Nat), nt_RG cS cP L' f' x T' → nt_MG cI L2' f2' m T' → nt_bd T' → nt_X l R D 4 G L' f' L2' f2' (kc + 7) (ks + 7133) [(3, .int (nI i)), (0, .ref b), (1, .ref x), (2, .ref m)] 392 []) :
    nt_X l R D 4 G L f L2 f2 kc ks [(3, .int (nI i)), (0, .ref b), (1, .ref x), (2, .ref m)] 80 [] := by
  obtain ⟨fx, x1, x2⟩ := hx.here
  obtain ⟨fm, m1, m2⟩ := hm.here
  refine nx_aload_n F 81 rfl dL_law_80 2 rfl ?_
  refine nx_aload_n F 82 rfl dL_law_81 1 rfl ?_
  refine nx_iload_n F 83 rfl dL_law_82 0 rfl ?_
  refine nx_iconst F 84 rfl (v := nI 1) dL_law_83 (by decide +kernel) ?_
  refine nx_iadd F 85 rfl dL_law_84 (nt_addN (show i + 1 = i + 1 by omega)) ?_
  refine nx_xld F 86 rfl dL_law_85 (v := xs (i + 1)) hX (show i + 1 < n by omega) (by omega) rfl ?_
  refine nx_aload_n F 87 rfl dL_law_86 1 rfl ?_
  refine nx_iload_n F 88 rfl dL_law_87 0 rfl ?_
  refine nx_iconst F 89 rfl (v := nI 2) dL_law_88 (by decide +kernel) ?_
  refine nx_iadd F 90 rfl dL_law_89 (nt_addN (show i + 2 = i + 2 by omega)) ?_
  refine nx_xld F 91 rfl dL_law_90 (v := xs (i + 2)) hX (show i + 2 < n by omega) (by omega) rfl ?_
  refine nx_aload_n F 92 rfl dL_law_91 1 rfl ?_
  refine nx_iload_n F 93 rfl dL_law_92 0 rfl ?_
  refine nx_iconst F 94 rfl (v := nI 3) dL_law_93 (by decide +kernel) ?_
  refine nx_iadd F 95 rfl dL_law_94 (nt_addN (show i + 3 = i + 3 by omega)) ?_
  refine nx_xld F 96 rfl dL_law_95 (v := xs (i + 3)) hX (show i + 3 < n by omega) (by omega) rfl ?_
  refine nx_vV1 (st := []) (n := 3) F 99 rfl [.int (xs (i + 1)), .int (xs (i + 2)), .int (xs (i + 3))] dL_law_96 q80 q81 q82 q2 q83 (by decide +kernel) ({ frames := 1, cells := 0, slots := 0, locals := 20 } : Room) rfl rfl ⟨Nat.le_trans (show 1 + 1 ≤ 8 from (Nat.le_of_ble_eq_true rfl)) hRf, Nat.le_trans (show 8 + (4 + 11) + 20 ≤ 1000 from (Nat.le_of_ble_eq_true rfl)) hRl⟩ ⟨by show kc + 0 ≤ R.cells; omega, by show ks + 0 ≤ R.slots; omega⟩ (nt_in1 x1 x2) rfl (met_X0_wide l D cI cS cP hx (xs (i + 1)) (xs (i + 2)) (xs (i + 3))) rfl rfl (Nat.le_of_ble_eq_true rfl) (fun L' f' hx' => ?_)
  refine nx_aload_n F 100 rfl dL_law_99 3 rfl ?_
  refine nx_aload_n F 101 rfl dL_law_100 1 rfl ?_
  refine nx_iload_n F 102 rfl dL_law_101 0 rfl ?_
  refine nx_iconst F 103 rfl (v := nI 1) dL_law_102 (by decide +kernel) ?_
  refine nx_iadd F 104 rfl dL_law_103 (nt_addN (show i + 1 = i + 1 by omega)) ?_
  refine nx_xld F 105 rfl dL_law_104 (v := xs (i + 1)) hX (show i + 1 < n by omega) (by omega) rfl ?_
  refine nx_aload_n F 106 rfl dL_law_105 1 rfl ?_
  refine nx_iload_n F 107 rfl dL_law_106 0 rfl ?_
  refine nx_iconst F 108 rfl (v := nI 2) dL_law_107 (by decide +kernel) ?_
  refine nx_iadd F 109 rfl dL_law_108 (nt_addN (show i + 2 = i + 2 by omega)) ?_
  refine nx_xld F 110 rfl dL_law_109 (v := xs (i + 2)) hX (show i + 2 < n by omega) (by omega) rfl ?_
  refine nx_aload_n F 111 rfl dL_law_110 1 rfl ?_
  refine nx_iload_n F 112 rfl dL_law_111 0 rfl ?_
  refine nx_iconst F 113 rfl (v := nI 3) dL_law_112 (by decide +kernel) ?_
  refine nx_iadd F 114 rfl dL_law_113 (nt_addN (show i + 3 = i + 3 by omega)) ?_
  refine nx_xld F 115 rfl dL_law_114 (v := xs (i + 3)) hX (show i + 3 < n by omega) (by omega) rfl ?_
  refine nx_vV2 (st := []) (n := 3) F 118 rfl [.int (xs (i + 1)), .int (xs (i + 2)), .int (xs (i + 3))] dL_law_115 q169 q170 q171 q8 q172 (by decide +kernel) ({ frames := 1, cells := 0, slots := 0, locals := 20 } : Room) rfl rfl ⟨Nat.le_trans (show 1 + 1 ≤ 8 from (Nat.le_of_ble_eq_true rfl)) hRf, Nat.le_trans (show 8 + (4 + 11) + 20 ≤ 1000 from (Nat.le_of_ble_eq_true rfl)) hRl⟩ ⟨by show kc + 0 + 0 ≤ R.cells; omega, by show ks + 0 + 0 ≤ R.slots; omega⟩ (nt_in2 m1 m2) rfl (met_X6_wide l D cI cS cP hm (xs (i + 1)) (xs (i + 2)) (xs (i + 3))) rfl rfl (Nat.le_of_ble_eq_true rfl) (fun L2' f2' hm' => ?_)
  obtain ⟨hm1, hm2⟩ := hm'
  refine nx_goto F 392 dL_law_118 (by decide) ?_
  refine nx_wide (kc' := kc + 7) (ks' := ks + 7133) (by show kc + 0 + 0 ≤ kc + 7; omega) (by show ks + 0 + 0 ≤ ks + 7133; omega) ?_
  exact K _ _ _ _ _ hx' (hm1 ▸ hm2) (hT.tW (xs (i + 1)) (xs (i + 2)) (xs (i + 3)))

set_option maxHeartbeats 4000000 in
set_option maxRecDepth 100000 in
/-- the law, one call: small -/
theorem law_small {l : Launch} {R : Room} {D : va_G} {G : nt_G} {L L2 : List Nat} {f f2 : Nat → va_E} {kc ks : Nat} {cI cS cP : ClassId} {b n x m i : Nat} {xs : Nat → Int32} {T : Nat → Nat → Nat} (F : nt_F G D cI cS cP cL_law "NtruRingLaw" 4) (hX : nt_XX G b n xs) (hn : n ≤ 72) (hi : i + 6 ≤ n) (hRc : kc + 7 ≤ R.cells) (hRs : ks + 7133 ≤ R.slots) (hRf : 8 ≤ R.frames) (hRl : 1000 ≤ R.locals) (hx : nt_RG cS cP L f x T) (hm : nt_MG cI L2 f2 m T) (hT : nt_bd T)
    (K : ∀ (L' : List Nat) (f' : Nat → va_E) (L2' : List Nat) (f2' : Nat → va_E) (T' : Nat → Nat → Nat), nt_RG cS cP L' f' x T' → nt_MG cI L2' f2' m T' → nt_bd T' → nt_X l R D 4 G L' f' L2' f2' (kc + 7) (ks + 7133) [(3, .int (nI i)), (0, .ref b), (1, .ref x), (2, .ref m)] 392 []) :
    nt_X l R D 4 G L f L2 f2 kc ks [(3, .int (nI i)), (0, .ref b), (1, .ref x), (2, .ref m)] 121 [] := by
  obtain ⟨fx, x1, x2⟩ := hx.here
  obtain ⟨fm, m1, m2⟩ := hm.here
  refine nx_aload_n F 122 rfl dL_law_121 2 rfl ?_
  refine nx_aload_n F 123 rfl dL_law_122 1 rfl ?_
  refine nx_iload_n F 124 rfl dL_law_123 0 rfl ?_
  refine nx_iconst F 125 rfl (v := nI 1) dL_law_124 (by decide +kernel) ?_
  refine nx_iadd F 126 rfl dL_law_125 (nt_addN (show i + 1 = i + 1 by omega)) ?_
  refine nx_xld F 127 rfl dL_law_126 (v := xs (i + 1)) hX (show i + 1 < n by omega) (by omega) rfl ?_
  refine nx_aload_n F 128 rfl dL_law_127 1 rfl ?_
  refine nx_iload_n F 129 rfl dL_law_128 0 rfl ?_
  refine nx_iconst F 130 rfl (v := nI 2) dL_law_129 (by decide +kernel) ?_
  refine nx_iadd F 131 rfl dL_law_130 (nt_addN (show i + 2 = i + 2 by omega)) ?_
  refine nx_xld F 132 rfl dL_law_131 (v := xs (i + 2)) hX (show i + 2 < n by omega) (by omega) rfl ?_
  refine nx_aload_n F 133 rfl dL_law_132 1 rfl ?_
  refine nx_iload_n F 134 rfl dL_law_133 0 rfl ?_
  refine nx_iconst F 135 rfl (v := nI 3) dL_law_134 (by decide +kernel) ?_
  refine nx_iadd F 136 rfl dL_law_135 (nt_addN (show i + 3 = i + 3 by omega)) ?_
  refine nx_xld F 137 rfl dL_law_136 (v := xs (i + 3)) hX (show i + 3 < n by omega) (by omega) rfl ?_
  refine nx_vV1 (st := []) (n := 3) F 140 rfl [.int (xs (i + 1)), .int (xs (i + 2)), .int (xs (i + 3))] dL_law_137 q88 q89 q90 q2 q91 (by decide +kernel) ({ frames := 1, cells := 0, slots := 0, locals := 20 } : Room) rfl rfl ⟨Nat.le_trans (show 1 + 1 ≤ 8 from (Nat.le_of_ble_eq_true rfl)) hRf, Nat.le_trans (show 8 + (5 + 11) + 20 ≤ 1000 from (Nat.le_of_ble_eq_true rfl)) hRl⟩ ⟨by show kc + 0 ≤ R.cells; omega, by show ks + 0 ≤ R.slots; omega⟩ (nt_in1 x1 x2) rfl (met_X0_small l D cI cS cP hx (xs (i + 1)) (xs (i + 2)) (xs (i + 3))) rfl rfl (Nat.le_of_ble_eq_true rfl) (fun L' f' hx' => ?_)
  refine nx_aload_n F 141 rfl dL_law_140 3 rfl ?_
  refine nx_aload_n F 142 rfl dL_law_141 1 rfl ?_
  refine nx_iload_n F 143 rfl dL_law_142 0 rfl ?_
  refine nx_iconst F 144 rfl (v := nI 1) dL_law_143 (by decide +kernel) ?_
  refine nx_iadd F 145 rfl dL_law_144 (nt_addN (show i + 1 = i + 1 by omega)) ?_
  refine nx_xld F 146 rfl dL_law_145 (v := xs (i + 1)) hX (show i + 1 < n by omega) (by omega) rfl ?_
  refine nx_aload_n F 147 rfl dL_law_146 1 rfl ?_
  refine nx_iload_n F 148 rfl dL_law_147 0 rfl ?_
  refine nx_iconst F 149 rfl (v := nI 2) dL_law_148 (by decide +kernel) ?_
  refine nx_iadd F 150 rfl dL_law_149 (nt_addN (show i + 2 = i + 2 by omega)) ?_
  refine nx_xld F 151 rfl dL_law_150 (v := xs (i + 2)) hX (show i + 2 < n by omega) (by omega) rfl ?_
  refine nx_aload_n F 152 rfl dL_law_151 1 rfl ?_
  refine nx_iload_n F 153 rfl dL_law_152 0 rfl ?_
  refine nx_iconst F 154 rfl (v := nI 3) dL_law_153 (by decide +kernel) ?_
  refine nx_iadd F 155 rfl dL_law_154 (nt_addN (show i + 3 = i + 3 by omega)) ?_
  refine nx_xld F 156 rfl dL_law_155 (v := xs (i + 3)) hX (show i + 3 < n by omega) (by omega) rfl ?_
  refine nx_vV2 (st := []) (n := 3) F 159 rfl [.int (xs (i + 1)), .int (xs (i + 2)), .int (xs (i + 3))] dL_law_156 q180 q181 q182 q8 q183 (by decide +kernel) ({ frames := 1, cells := 0, slots := 0, locals := 20 } : Room) rfl rfl ⟨Nat.le_trans (show 1 + 1 ≤ 8 from (Nat.le_of_ble_eq_true rfl)) hRf, Nat.le_trans (show 8 + (4 + 11) + 20 ≤ 1000 from (Nat.le_of_ble_eq_true rfl)) hRl⟩ ⟨by show kc + 0 + 0 ≤ R.cells; omega, by show ks + 0 + 0 ≤ R.slots; omega⟩ (nt_in2 m1 m2) rfl (met_X6_small l D cI cS cP hm (xs (i + 1)) (xs (i + 2)) (xs (i + 3))) rfl rfl (Nat.le_of_ble_eq_true rfl) (fun L2' f2' hm' => ?_)
  obtain ⟨hm1, hm2⟩ := hm'
  refine nx_goto F 392 dL_law_159 (by decide) ?_
  refine nx_wide (kc' := kc + 7) (ks' := ks + 7133) (by show kc + 0 + 0 ≤ kc + 7; omega) (by show ks + 0 + 0 ≤ ks + 7133; omega) ?_
  exact K _ _ _ _ _ hx' (hm1 ▸ hm2) (hT.tS (xs (i + 1)) (xs (i + 2)) (xs (i + 3)))

set_option maxHeartbeats 4000000 in
set_option maxRecDepth 100000 in
/-- the law, one call: spread -/
theorem law_spread {l : Launch} {R : Room} {D : va_G} {G : nt_G} {L L2 : List Nat} {f f2 : Nat → va_E} {kc ks : Nat} {cI cS cP : ClassId} {b n x m i : Nat} {xs : Nat → Int32} {T : Nat → Nat → Nat} (F : nt_F G D cI cS cP cL_law "NtruRingLaw" 4) (hX : nt_XX G b n xs) (hn : n ≤ 72) (hi : i + 6 ≤ n) (hRc : kc + 7 ≤ R.cells) (hRs : ks + 7133 ≤ R.slots) (hRf : 8 ≤ R.frames) (hRl : 1000 ≤ R.locals) (hx : nt_RG cS cP L f x T) (hm : nt_MG cI L2 f2 m T) (hT : nt_bd T)
    (K : ∀ (L' : List Nat) (f' : Nat → va_E) (L2' : List Nat) (f2' : Nat → va_E) (T' : Nat → Nat → Nat), nt_RG cS cP L' f' x T' → nt_MG cI L2' f2' m T' → nt_bd T' → nt_X l R D 4 G L' f' L2' f2' (kc + 7) (ks + 7133) [(3, .int (nI i)), (0, .ref b), (1, .ref x), (2, .ref m)] 392 []) :
    nt_X l R D 4 G L f L2 f2 kc ks [(3, .int (nI i)), (0, .ref b), (1, .ref x), (2, .ref m)] 162 [] := by
  obtain ⟨fx, x1, x2⟩ := hx.here
  obtain ⟨fm, m1, m2⟩ := hm.here
  refine nx_aload_n F 163 rfl dL_law_162 2 rfl ?_
  refine nx_aload_n F 164 rfl dL_law_163 1 rfl ?_
  refine nx_iload_n F 165 rfl dL_law_164 0 rfl ?_
  refine nx_iconst F 166 rfl (v := nI 1) dL_law_165 (by decide +kernel) ?_
  refine nx_iadd F 167 rfl dL_law_166 (nt_addN (show i + 1 = i + 1 by omega)) ?_
  refine nx_xld F 168 rfl dL_law_167 (v := xs (i + 1)) hX (show i + 1 < n by omega) (by omega) rfl ?_
  refine nx_aload_n F 169 rfl dL_law_168 1 rfl ?_
  refine nx_iload_n F 170 rfl dL_law_169 0 rfl ?_
  refine nx_iconst F 171 rfl (v := nI 2) dL_law_170 (by decide +kernel) ?_
  refine nx_iadd F 172 rfl dL_law_171 (nt_addN (show i + 2 = i + 2 by omega)) ?_
  refine nx_xld F 173 rfl dL_law_172 (v := xs (i + 2)) hX (show i + 2 < n by omega) (by omega) rfl ?_
  refine nx_aload_n F 174 rfl dL_law_173 1 rfl ?_
  refine nx_iload_n F 175 rfl dL_law_174 0 rfl ?_
  refine nx_iconst F 176 rfl (v := nI 3) dL_law_175 (by decide +kernel) ?_
  refine nx_iadd F 177 rfl dL_law_176 (nt_addN (show i + 3 = i + 3 by omega)) ?_
  refine nx_xld F 178 rfl dL_law_177 (v := xs (i + 3)) hX (show i + 3 < n by omega) (by omega) rfl ?_
  refine nx_vV1 (st := []) (n := 3) F 181 rfl [.int (xs (i + 1)), .int (xs (i + 2)), .int (xs (i + 3))] dL_law_178 q92 q93 q94 q2 q95 (by decide +kernel) ({ frames := 1, cells := 0, slots := 0, locals := 20 } : Room) rfl rfl ⟨Nat.le_trans (show 1 + 1 ≤ 8 from (Nat.le_of_ble_eq_true rfl)) hRf, Nat.le_trans (show 8 + (5 + 11) + 20 ≤ 1000 from (Nat.le_of_ble_eq_true rfl)) hRl⟩ ⟨by show kc + 0 ≤ R.cells; omega, by show ks + 0 ≤ R.slots; omega⟩ (nt_in1 x1 x2) rfl (met_X0_spread l D cI cS cP hx (xs (i + 1)) (xs (i + 2)) (xs (i + 3))) rfl rfl (Nat.le_of_ble_eq_true rfl) (fun L' f' hx' => ?_)
  refine nx_aload_n F 182 rfl dL_law_181 3 rfl ?_
  refine nx_aload_n F 183 rfl dL_law_182 1 rfl ?_
  refine nx_iload_n F 184 rfl dL_law_183 0 rfl ?_
  refine nx_iconst F 185 rfl (v := nI 1) dL_law_184 (by decide +kernel) ?_
  refine nx_iadd F 186 rfl dL_law_185 (nt_addN (show i + 1 = i + 1 by omega)) ?_
  refine nx_xld F 187 rfl dL_law_186 (v := xs (i + 1)) hX (show i + 1 < n by omega) (by omega) rfl ?_
  refine nx_aload_n F 188 rfl dL_law_187 1 rfl ?_
  refine nx_iload_n F 189 rfl dL_law_188 0 rfl ?_
  refine nx_iconst F 190 rfl (v := nI 2) dL_law_189 (by decide +kernel) ?_
  refine nx_iadd F 191 rfl dL_law_190 (nt_addN (show i + 2 = i + 2 by omega)) ?_
  refine nx_xld F 192 rfl dL_law_191 (v := xs (i + 2)) hX (show i + 2 < n by omega) (by omega) rfl ?_
  refine nx_aload_n F 193 rfl dL_law_192 1 rfl ?_
  refine nx_iload_n F 194 rfl dL_law_193 0 rfl ?_
  refine nx_iconst F 195 rfl (v := nI 3) dL_law_194 (by decide +kernel) ?_
  refine nx_iadd F 196 rfl dL_law_195 (nt_addN (show i + 3 = i + 3 by omega)) ?_
  refine nx_xld F 197 rfl dL_law_196 (v := xs (i + 3)) hX (show i + 3 < n by omega) (by omega) rfl ?_
  refine nx_vV2 (st := []) (n := 3) F 200 rfl [.int (xs (i + 1)), .int (xs (i + 2)), .int (xs (i + 3))] dL_law_197 q184 q185 q186 q8 q187 (by decide +kernel) ({ frames := 1, cells := 0, slots := 0, locals := 20 } : Room) rfl rfl ⟨Nat.le_trans (show 1 + 1 ≤ 8 from (Nat.le_of_ble_eq_true rfl)) hRf, Nat.le_trans (show 8 + (6 + 11) + 20 ≤ 1000 from (Nat.le_of_ble_eq_true rfl)) hRl⟩ ⟨by show kc + 0 + 0 ≤ R.cells; omega, by show ks + 0 + 0 ≤ R.slots; omega⟩ (nt_in2 m1 m2) rfl (met_X6_spread l D cI cS cP hm (xs (i + 1)) (xs (i + 2)) (xs (i + 3))) rfl rfl (Nat.le_of_ble_eq_true rfl) (fun L2' f2' hm' => ?_)
  obtain ⟨hm1, hm2⟩ := hm'
  refine nx_goto F 392 dL_law_200 (by decide) ?_
  refine nx_wide (kc' := kc + 7) (ks' := ks + 7133) (by show kc + 0 + 0 ≤ kc + 7; omega) (by show ks + 0 + 0 ≤ ks + 7133; omega) ?_
  exact K _ _ _ _ _ hx' (hm1 ▸ hm2) (hT.tP (xs (i + 1)) (xs (i + 2)) (xs (i + 3)))

set_option maxHeartbeats 4000000 in
set_option maxRecDepth 100000 in
/-- the law, one call: times -/
theorem law_times {l : Launch} {R : Room} {D : va_G} {G : nt_G} {L L2 : List Nat} {f f2 : Nat → va_E} {kc ks : Nat} {cI cS cP : ClassId} {b n x m i : Nat} {xs : Nat → Int32} {T : Nat → Nat → Nat} (F : nt_F G D cI cS cP cL_law "NtruRingLaw" 4) (hX : nt_XX G b n xs) (hn : n ≤ 72) (hi : i + 6 ≤ n) (hRc : kc + 7 ≤ R.cells) (hRs : ks + 7133 ≤ R.slots) (hRf : 8 ≤ R.frames) (hRl : 1000 ≤ R.locals) (hx : nt_RG cS cP L f x T) (hm : nt_MG cI L2 f2 m T) (hT : nt_bd T)
    (K : ∀ (L' : List Nat) (f' : Nat → va_E) (L2' : List Nat) (f2' : Nat → va_E) (T' : Nat → Nat → Nat), nt_RG cS cP L' f' x T' → nt_MG cI L2' f2' m T' → nt_bd T' → nt_X l R D 4 G L' f' L2' f2' (kc + 7) (ks + 7133) [(3, .int (nI i)), (0, .ref b), (1, .ref x), (2, .ref m)] 392 []) :
    nt_X l R D 4 G L f L2 f2 kc ks [(3, .int (nI i)), (0, .ref b), (1, .ref x), (2, .ref m)] 203 [] := by
  obtain ⟨fx, x1, x2⟩ := hx.here
  obtain ⟨fm, m1, m2⟩ := hm.here
  refine nx_aload_n F 204 rfl dL_law_203 2 rfl ?_
  refine nx_aload_n F 205 rfl dL_law_204 1 rfl ?_
  refine nx_iload_n F 206 rfl dL_law_205 0 rfl ?_
  refine nx_iconst F 207 rfl (v := nI 1) dL_law_206 (by decide +kernel) ?_
  refine nx_iadd F 208 rfl dL_law_207 (nt_addN (show i + 1 = i + 1 by omega)) ?_
  refine nx_xld F 209 rfl dL_law_208 (v := xs (i + 1)) hX (show i + 1 < n by omega) (by omega) rfl ?_
  refine nx_aload_n F 210 rfl dL_law_209 1 rfl ?_
  refine nx_iload_n F 211 rfl dL_law_210 0 rfl ?_
  refine nx_iconst F 212 rfl (v := nI 2) dL_law_211 (by decide +kernel) ?_
  refine nx_iadd F 213 rfl dL_law_212 (nt_addN (show i + 2 = i + 2 by omega)) ?_
  refine nx_xld F 214 rfl dL_law_213 (v := xs (i + 2)) hX (show i + 2 < n by omega) (by omega) rfl ?_
  refine nx_aload_n F 215 rfl dL_law_214 1 rfl ?_
  refine nx_iload_n F 216 rfl dL_law_215 0 rfl ?_
  refine nx_iconst F 217 rfl (v := nI 3) dL_law_216 (by decide +kernel) ?_
  refine nx_iadd F 218 rfl dL_law_217 (nt_addN (show i + 3 = i + 3 by omega)) ?_
  refine nx_xld F 219 rfl dL_law_218 (v := xs (i + 3)) hX (show i + 3 < n by omega) (by omega) rfl ?_
  refine nx_vV1 (st := []) (n := 3) F 222 rfl [.int (xs (i + 1)), .int (xs (i + 2)), .int (xs (i + 3))] dL_law_219 q96 q97 q98 q2 q99 (by decide +kernel) ({ frames := 6, cells := 7, slots := 7133, locals := 221 } : Room) rfl rfl ⟨Nat.le_trans (show 6 + 1 ≤ 8 from (Nat.le_of_ble_eq_true rfl)) hRf, Nat.le_trans (show 8 + (5 + 11) + 221 ≤ 1000 from (Nat.le_of_ble_eq_true rfl)) hRl⟩ ⟨by show kc + 7 ≤ R.cells; omega, by show ks + 7133 ≤ R.slots; omega⟩ (nt_in1 x1 x2) rfl (met_X0_times l D cI cS cP hx hT (xs (i + 1)) (xs (i + 2)) (xs (i + 3))) rfl rfl (Nat.le_of_ble_eq_true rfl) (fun L' f' hx' => ?_)
  refine nx_aload_n F 223 rfl dL_law_222 3 rfl ?_
  refine nx_aload_n F 224 rfl dL_law_223 1 rfl ?_
  refine nx_iload_n F 225 rfl dL_law_224 0 rfl ?_
  refine nx_iconst F 226 rfl (v := nI 1) dL_law_225 (by decide +kernel) ?_
  refine nx_iadd F 227 rfl dL_law_226 (nt_addN (show i + 1 = i + 1 by omega)) ?_
  refine nx_xld F 228 rfl dL_law_227 (v := xs (i + 1)) hX (show i + 1 < n by omega) (by omega) rfl ?_
  refine nx_aload_n F 229 rfl dL_law_228 1 rfl ?_
  refine nx_iload_n F 230 rfl dL_law_229 0 rfl ?_
  refine nx_iconst F 231 rfl (v := nI 2) dL_law_230 (by decide +kernel) ?_
  refine nx_iadd F 232 rfl dL_law_231 (nt_addN (show i + 2 = i + 2 by omega)) ?_
  refine nx_xld F 233 rfl dL_law_232 (v := xs (i + 2)) hX (show i + 2 < n by omega) (by omega) rfl ?_
  refine nx_aload_n F 234 rfl dL_law_233 1 rfl ?_
  refine nx_iload_n F 235 rfl dL_law_234 0 rfl ?_
  refine nx_iconst F 236 rfl (v := nI 3) dL_law_235 (by decide +kernel) ?_
  refine nx_iadd F 237 rfl dL_law_236 (nt_addN (show i + 3 = i + 3 by omega)) ?_
  refine nx_xld F 238 rfl dL_law_237 (v := xs (i + 3)) hX (show i + 3 < n by omega) (by omega) rfl ?_
  refine nx_vV2 (st := []) (n := 3) F 241 rfl [.int (xs (i + 1)), .int (xs (i + 2)), .int (xs (i + 3))] dL_law_238 q188 q189 q190 q8 q191 (by decide +kernel) ({ frames := 1, cells := 0, slots := 0, locals := 40 } : Room) rfl rfl ⟨Nat.le_trans (show 1 + 1 ≤ 8 from (Nat.le_of_ble_eq_true rfl)) hRf, Nat.le_trans (show 8 + (5 + 11) + 40 ≤ 1000 from (Nat.le_of_ble_eq_true rfl)) hRl⟩ ⟨by show kc + 7 + 0 ≤ R.cells; omega, by show ks + 7133 + 0 ≤ R.slots; omega⟩ (nt_in2 m1 m2) rfl (met_X6_times l D cI cS cP hm hT (xs (i + 1)) (xs (i + 2)) (xs (i + 3))) rfl rfl (Nat.le_of_ble_eq_true rfl) (fun L2' f2' hm' => ?_)
  obtain ⟨hm1, hm2⟩ := hm'
  refine nx_goto F 392 dL_law_241 (by decide) ?_
  refine nx_wide (kc' := kc + 7) (ks' := ks + 7133) (by show kc + 7 + 0 ≤ kc + 7; omega) (by show ks + 7133 + 0 ≤ ks + 7133; omega) ?_
  exact K _ _ _ _ _ hx' (hm1 ▸ hm2) (hT.tT (xs (i + 1)) (xs (i + 2)) (xs (i + 3)))

set_option maxHeartbeats 4000000 in
set_option maxRecDepth 100000 in
/-- the law, one call: timesPhi -/
theorem law_timesPhi {l : Launch} {R : Room} {D : va_G} {G : nt_G} {L L2 : List Nat} {f f2 : Nat → va_E} {kc ks : Nat} {cI cS cP : ClassId} {b n x m i : Nat} {xs : Nat → Int32} {T : Nat → Nat → Nat} (F : nt_F G D cI cS cP cL_law "NtruRingLaw" 4) (hX : nt_XX G b n xs) (hn : n ≤ 72) (hi : i + 6 ≤ n) (hRc : kc + 7 ≤ R.cells) (hRs : ks + 7133 ≤ R.slots) (hRf : 8 ≤ R.frames) (hRl : 1000 ≤ R.locals) (hx : nt_RG cS cP L f x T) (hm : nt_MG cI L2 f2 m T) (hT : nt_bd T)
    (K : ∀ (L' : List Nat) (f' : Nat → va_E) (L2' : List Nat) (f2' : Nat → va_E) (T' : Nat → Nat → Nat), nt_RG cS cP L' f' x T' → nt_MG cI L2' f2' m T' → nt_bd T' → nt_X l R D 4 G L' f' L2' f2' (kc + 7) (ks + 7133) [(3, .int (nI i)), (0, .ref b), (1, .ref x), (2, .ref m)] 392 []) :
    nt_X l R D 4 G L f L2 f2 kc ks [(3, .int (nI i)), (0, .ref b), (1, .ref x), (2, .ref m)] 244 [] := by
  obtain ⟨fx, x1, x2⟩ := hx.here
  obtain ⟨fm, m1, m2⟩ := hm.here
  refine nx_aload_n F 245 rfl dL_law_244 2 rfl ?_
  refine nx_aload_n F 246 rfl dL_law_245 1 rfl ?_
  refine nx_iload_n F 247 rfl dL_law_246 0 rfl ?_
  refine nx_iconst F 248 rfl (v := nI 1) dL_law_247 (by decide +kernel) ?_
  refine nx_iadd F 249 rfl dL_law_248 (nt_addN (show i + 1 = i + 1 by omega)) ?_
  refine nx_xld F 250 rfl dL_law_249 (v := xs (i + 1)) hX (show i + 1 < n by omega) (by omega) rfl ?_
  refine nx_aload_n F 251 rfl dL_law_250 1 rfl ?_
  refine nx_iload_n F 252 rfl dL_law_251 0 rfl ?_
  refine nx_iconst F 253 rfl (v := nI 2) dL_law_252 (by decide +kernel) ?_
  refine nx_iadd F 254 rfl dL_law_253 (nt_addN (show i + 2 = i + 2 by omega)) ?_
  refine nx_xld F 255 rfl dL_law_254 (v := xs (i + 2)) hX (show i + 2 < n by omega) (by omega) rfl ?_
  refine nx_aload_n F 256 rfl dL_law_255 1 rfl ?_
  refine nx_iload_n F 257 rfl dL_law_256 0 rfl ?_
  refine nx_iconst F 258 rfl (v := nI 3) dL_law_257 (by decide +kernel) ?_
  refine nx_iadd F 259 rfl dL_law_258 (nt_addN (show i + 3 = i + 3 by omega)) ?_
  refine nx_xld F 260 rfl dL_law_259 (v := xs (i + 3)) hX (show i + 3 < n by omega) (by omega) rfl ?_
  refine nx_vV1 (st := []) (n := 3) F 263 rfl [.int (xs (i + 1)), .int (xs (i + 2)), .int (xs (i + 3))] dL_law_260 q112 q113 q114 q2 q115 (by decide +kernel) ({ frames := 7, cells := 7, slots := 7133, locals := 243 } : Room) rfl rfl ⟨Nat.le_trans (show 7 + 1 ≤ 8 from (Nat.le_of_ble_eq_true rfl)) hRf, Nat.le_trans (show 8 + (5 + 11) + 243 ≤ 1000 from (Nat.le_of_ble_eq_true rfl)) hRl⟩ ⟨by show kc + 7 ≤ R.cells; omega, by show ks + 7133 ≤ R.slots; omega⟩ (nt_in1 x1 x2) rfl (met_X0_timesPhi l D cI cS cP hx hT (xs (i + 1)) (xs (i + 2)) (xs (i + 3))) rfl rfl (Nat.le_of_ble_eq_true rfl) (fun L' f' hx' => ?_)
  refine nx_aload_n F 264 rfl dL_law_263 3 rfl ?_
  refine nx_aload_n F 265 rfl dL_law_264 1 rfl ?_
  refine nx_iload_n F 266 rfl dL_law_265 0 rfl ?_
  refine nx_iconst F 267 rfl (v := nI 1) dL_law_266 (by decide +kernel) ?_
  refine nx_iadd F 268 rfl dL_law_267 (nt_addN (show i + 1 = i + 1 by omega)) ?_
  refine nx_xld F 269 rfl dL_law_268 (v := xs (i + 1)) hX (show i + 1 < n by omega) (by omega) rfl ?_
  refine nx_aload_n F 270 rfl dL_law_269 1 rfl ?_
  refine nx_iload_n F 271 rfl dL_law_270 0 rfl ?_
  refine nx_iconst F 272 rfl (v := nI 2) dL_law_271 (by decide +kernel) ?_
  refine nx_iadd F 273 rfl dL_law_272 (nt_addN (show i + 2 = i + 2 by omega)) ?_
  refine nx_xld F 274 rfl dL_law_273 (v := xs (i + 2)) hX (show i + 2 < n by omega) (by omega) rfl ?_
  refine nx_aload_n F 275 rfl dL_law_274 1 rfl ?_
  refine nx_iload_n F 276 rfl dL_law_275 0 rfl ?_
  refine nx_iconst F 277 rfl (v := nI 3) dL_law_276 (by decide +kernel) ?_
  refine nx_iadd F 278 rfl dL_law_277 (nt_addN (show i + 3 = i + 3 by omega)) ?_
  refine nx_xld F 279 rfl dL_law_278 (v := xs (i + 3)) hX (show i + 3 < n by omega) (by omega) rfl ?_
  refine nx_vV2 (st := []) (n := 3) F 282 rfl [.int (xs (i + 1)), .int (xs (i + 2)), .int (xs (i + 3))] dL_law_279 q196 q197 q198 q8 q199 (by decide +kernel) ({ frames := 1, cells := 0, slots := 0, locals := 40 } : Room) rfl rfl ⟨Nat.le_trans (show 1 + 1 ≤ 8 from (Nat.le_of_ble_eq_true rfl)) hRf, Nat.le_trans (show 8 + (6 + 11) + 40 ≤ 1000 from (Nat.le_of_ble_eq_true rfl)) hRl⟩ ⟨by show kc + 7 + 0 ≤ R.cells; omega, by show ks + 7133 + 0 ≤ R.slots; omega⟩ (nt_in2 m1 m2) rfl (met_X6_timesPhi l D cI cS cP hm hT (xs (i + 1)) (xs (i + 2)) (xs (i + 3))) rfl rfl (Nat.le_of_ble_eq_true rfl) (fun L2' f2' hm' => ?_)
  obtain ⟨hm1, hm2⟩ := hm'
  refine nx_goto F 392 dL_law_282 (by decide) ?_
  refine nx_wide (kc' := kc + 7) (ks' := ks + 7133) (by show kc + 7 + 0 ≤ kc + 7; omega) (by show ks + 7133 + 0 ≤ ks + 7133; omega) ?_
  exact K _ _ _ _ _ hx' (hm1 ▸ hm2) (hT.tF (xs (i + 1)) (xs (i + 2)) (xs (i + 3)))

set_option maxHeartbeats 4000000 in
set_option maxRecDepth 100000 in
/-- the law, one call: timesThree -/
theorem law_timesThree {l : Launch} {R : Room} {D : va_G} {G : nt_G} {L L2 : List Nat} {f f2 : Nat → va_E} {kc ks : Nat} {cI cS cP : ClassId} {b n x m i : Nat} {xs : Nat → Int32} {T : Nat → Nat → Nat} (F : nt_F G D cI cS cP cL_law "NtruRingLaw" 4) (hX : nt_XX G b n xs) (hn : n ≤ 72) (hi : i + 6 ≤ n) (hRc : kc + 7 ≤ R.cells) (hRs : ks + 7133 ≤ R.slots) (hRf : 8 ≤ R.frames) (hRl : 1000 ≤ R.locals) (hx : nt_RG cS cP L f x T) (hm : nt_MG cI L2 f2 m T) (hT : nt_bd T)
    (K : ∀ (L' : List Nat) (f' : Nat → va_E) (L2' : List Nat) (f2' : Nat → va_E) (T' : Nat → Nat → Nat), nt_RG cS cP L' f' x T' → nt_MG cI L2' f2' m T' → nt_bd T' → nt_X l R D 4 G L' f' L2' f2' (kc + 7) (ks + 7133) [(3, .int (nI i)), (0, .ref b), (1, .ref x), (2, .ref m)] 392 []) :
    nt_X l R D 4 G L f L2 f2 kc ks [(3, .int (nI i)), (0, .ref b), (1, .ref x), (2, .ref m)] 285 [] := by
  obtain ⟨fx, x1, x2⟩ := hx.here
  obtain ⟨fm, m1, m2⟩ := hm.here
  refine nx_aload_n F 286 rfl dL_law_285 2 rfl ?_
  refine nx_aload_n F 287 rfl dL_law_286 1 rfl ?_
  refine nx_iload_n F 288 rfl dL_law_287 0 rfl ?_
  refine nx_iconst F 289 rfl (v := nI 1) dL_law_288 (by decide +kernel) ?_
  refine nx_iadd F 290 rfl dL_law_289 (nt_addN (show i + 1 = i + 1 by omega)) ?_
  refine nx_xld F 291 rfl dL_law_290 (v := xs (i + 1)) hX (show i + 1 < n by omega) (by omega) rfl ?_
  refine nx_aload_n F 292 rfl dL_law_291 1 rfl ?_
  refine nx_iload_n F 293 rfl dL_law_292 0 rfl ?_
  refine nx_iconst F 294 rfl (v := nI 2) dL_law_293 (by decide +kernel) ?_
  refine nx_iadd F 295 rfl dL_law_294 (nt_addN (show i + 2 = i + 2 by omega)) ?_
  refine nx_xld F 296 rfl dL_law_295 (v := xs (i + 2)) hX (show i + 2 < n by omega) (by omega) rfl ?_
  refine nx_aload_n F 297 rfl dL_law_296 1 rfl ?_
  refine nx_iload_n F 298 rfl dL_law_297 0 rfl ?_
  refine nx_iconst F 299 rfl (v := nI 3) dL_law_298 (by decide +kernel) ?_
  refine nx_iadd F 300 rfl dL_law_299 (nt_addN (show i + 3 = i + 3 by omega)) ?_
  refine nx_xld F 301 rfl dL_law_300 (v := xs (i + 3)) hX (show i + 3 < n by omega) (by omega) rfl ?_
  refine nx_vV1 (st := []) (n := 3) F 304 rfl [.int (xs (i + 1)), .int (xs (i + 2)), .int (xs (i + 3))] dL_law_301 q127 q128 q129 q2 q130 (by decide +kernel) ({ frames := 7, cells := 7, slots := 7133, locals := 243 } : Room) rfl rfl ⟨Nat.le_trans (show 7 + 1 ≤ 8 from (Nat.le_of_ble_eq_true rfl)) hRf, Nat.le_trans (show 8 + (5 + 11) + 243 ≤ 1000 from (Nat.le_of_ble_eq_true rfl)) hRl⟩ ⟨by show kc + 7 ≤ R.cells; omega, by show ks + 7133 ≤ R.slots; omega⟩ (nt_in1 x1 x2) rfl (met_X0_timesThree l D cI cS cP hx hT (xs (i + 1)) (xs (i + 2)) (xs (i + 3))) rfl rfl (Nat.le_of_ble_eq_true rfl) (fun L' f' hx' => ?_)
  refine nx_aload_n F 305 rfl dL_law_304 3 rfl ?_
  refine nx_aload_n F 306 rfl dL_law_305 1 rfl ?_
  refine nx_iload_n F 307 rfl dL_law_306 0 rfl ?_
  refine nx_iconst F 308 rfl (v := nI 1) dL_law_307 (by decide +kernel) ?_
  refine nx_iadd F 309 rfl dL_law_308 (nt_addN (show i + 1 = i + 1 by omega)) ?_
  refine nx_xld F 310 rfl dL_law_309 (v := xs (i + 1)) hX (show i + 1 < n by omega) (by omega) rfl ?_
  refine nx_aload_n F 311 rfl dL_law_310 1 rfl ?_
  refine nx_iload_n F 312 rfl dL_law_311 0 rfl ?_
  refine nx_iconst F 313 rfl (v := nI 2) dL_law_312 (by decide +kernel) ?_
  refine nx_iadd F 314 rfl dL_law_313 (nt_addN (show i + 2 = i + 2 by omega)) ?_
  refine nx_xld F 315 rfl dL_law_314 (v := xs (i + 2)) hX (show i + 2 < n by omega) (by omega) rfl ?_
  refine nx_aload_n F 316 rfl dL_law_315 1 rfl ?_
  refine nx_iload_n F 317 rfl dL_law_316 0 rfl ?_
  refine nx_iconst F 318 rfl (v := nI 3) dL_law_317 (by decide +kernel) ?_
  refine nx_iadd F 319 rfl dL_law_318 (nt_addN (show i + 3 = i + 3 by omega)) ?_
  refine nx_xld F 320 rfl dL_law_319 (v := xs (i + 3)) hX (show i + 3 < n by omega) (by omega) rfl ?_
  refine nx_vV2 (st := []) (n := 3) F 323 rfl [.int (xs (i + 1)), .int (xs (i + 2)), .int (xs (i + 3))] dL_law_320 q200 q201 q202 q8 q203 (by decide +kernel) ({ frames := 1, cells := 0, slots := 0, locals := 40 } : Room) rfl rfl ⟨Nat.le_trans (show 1 + 1 ≤ 8 from (Nat.le_of_ble_eq_true rfl)) hRf, Nat.le_trans (show 8 + (6 + 11) + 40 ≤ 1000 from (Nat.le_of_ble_eq_true rfl)) hRl⟩ ⟨by show kc + 7 + 0 ≤ R.cells; omega, by show ks + 7133 + 0 ≤ R.slots; omega⟩ (nt_in2 m1 m2) rfl (met_X6_timesThree l D cI cS cP hm hT (xs (i + 1)) (xs (i + 2)) (xs (i + 3))) rfl rfl (Nat.le_of_ble_eq_true rfl) (fun L2' f2' hm' => ?_)
  obtain ⟨hm1, hm2⟩ := hm'
  refine nx_goto F 392 dL_law_323 (by decide) ?_
  refine nx_wide (kc' := kc + 7) (ks' := ks + 7133) (by show kc + 7 + 0 ≤ kc + 7; omega) (by show ks + 7133 + 0 ≤ ks + 7133; omega) ?_
  exact K _ _ _ _ _ hx' (hm1 ▸ hm2) (hT.tH (xs (i + 1)) (xs (i + 2)) (xs (i + 3)))

set_option maxHeartbeats 4000000 in
set_option maxRecDepth 100000 in
/-- the law, one call: wide2 -/
theorem law_wide2 {l : Launch} {R : Room} {D : va_G} {G : nt_G} {L L2 : List Nat} {f f2 : Nat → va_E} {kc ks : Nat} {cI cS cP : ClassId} {b n x m i : Nat} {xs : Nat → Int32} {T : Nat → Nat → Nat} (F : nt_F G D cI cS cP cL_law "NtruRingLaw" 4) (hX : nt_XX G b n xs) (hn : n ≤ 72) (hi : i + 6 ≤ n) (hRc : kc + 7 ≤ R.cells) (hRs : ks + 7133 ≤ R.slots) (hRf : 8 ≤ R.frames) (hRl : 1000 ≤ R.locals) (hx : nt_RG cS cP L f x T) (hm : nt_MG cI L2 f2 m T) (hT : nt_bd T)
    (K : ∀ (L' : List Nat) (f' : Nat → va_E) (L2' : List Nat) (f2' : Nat → va_E) (T' : Nat → Nat → Nat), nt_RG cS cP L' f' x T' → nt_MG cI L2' f2' m T' → nt_bd T' → nt_X l R D 4 G L' f' L2' f2' (kc + 7) (ks + 7133) [(3, .int (nI i)), (0, .ref b), (1, .ref x), (2, .ref m)] 392 []) :
    nt_X l R D 4 G L f L2 f2 kc ks [(3, .int (nI i)), (0, .ref b), (1, .ref x), (2, .ref m)] 326 [] := by
  obtain ⟨fx, x1, x2⟩ := hx.here
  obtain ⟨fm, m1, m2⟩ := hm.here
  refine nx_aload_n F 327 rfl dL_law_326 2 rfl ?_
  refine nx_aload_n F 328 rfl dL_law_327 1 rfl ?_
  refine nx_iload_n F 329 rfl dL_law_328 0 rfl ?_
  refine nx_iconst F 330 rfl (v := nI 1) dL_law_329 (by decide +kernel) ?_
  refine nx_iadd F 331 rfl dL_law_330 (nt_addN (show i + 1 = i + 1 by omega)) ?_
  refine nx_xld F 332 rfl dL_law_331 (v := xs (i + 1)) hX (show i + 1 < n by omega) (by omega) rfl ?_
  refine nx_aload_n F 333 rfl dL_law_332 1 rfl ?_
  refine nx_iload_n F 334 rfl dL_law_333 0 rfl ?_
  refine nx_iconst F 335 rfl (v := nI 2) dL_law_334 (by decide +kernel) ?_
  refine nx_iadd F 336 rfl dL_law_335 (nt_addN (show i + 2 = i + 2 by omega)) ?_
  refine nx_xld F 337 rfl dL_law_336 (v := xs (i + 2)) hX (show i + 2 < n by omega) (by omega) rfl ?_
  refine nx_iV1 (st := []) (n := 2) F 340 rfl [.int (xs (i + 1)), .int (xs (i + 2))] dL_law_337 q145 q146 q147 q2 q148 (by decide +kernel) ({ frames := 1, cells := 0, slots := 0, locals := 20 } : Room) rfl rfl ⟨Nat.le_trans (show 1 + 1 ≤ 8 from (Nat.le_of_ble_eq_true rfl)) hRf, Nat.le_trans (show 8 + (3 + 11) + 20 ≤ 1000 from (Nat.le_of_ble_eq_true rfl)) hRl⟩ ⟨by show kc + 0 ≤ R.cells; omega, by show ks + 0 ≤ R.slots; omega⟩ (nt_in1 x1 x2) rfl (met_X0_wide_2 l D cI cS cP hx (xs (i + 1)) (xs (i + 2))) rfl rfl (Nat.le_of_ble_eq_true rfl) (fun r1 L' f' hx' => ?_)
  obtain ⟨r1e, L1e, f1e⟩ := hx'
  refine nx_aload_n F 341 rfl dL_law_340 3 rfl ?_
  refine nx_aload_n F 342 rfl dL_law_341 1 rfl ?_
  refine nx_iload_n F 343 rfl dL_law_342 0 rfl ?_
  refine nx_iconst F 344 rfl (v := nI 1) dL_law_343 (by decide +kernel) ?_
  refine nx_iadd F 345 rfl dL_law_344 (nt_addN (show i + 1 = i + 1 by omega)) ?_
  refine nx_xld F 346 rfl dL_law_345 (v := xs (i + 1)) hX (show i + 1 < n by omega) (by omega) rfl ?_
  refine nx_aload_n F 347 rfl dL_law_346 1 rfl ?_
  refine nx_iload_n F 348 rfl dL_law_347 0 rfl ?_
  refine nx_iconst F 349 rfl (v := nI 2) dL_law_348 (by decide +kernel) ?_
  refine nx_iadd F 350 rfl dL_law_349 (nt_addN (show i + 2 = i + 2 by omega)) ?_
  refine nx_xld F 351 rfl dL_law_350 (v := xs (i + 2)) hX (show i + 2 < n by omega) (by omega) rfl ?_
  refine nx_iV2 (st := [.int r1]) (n := 2) F 354 rfl [.int (xs (i + 1)), .int (xs (i + 2))] dL_law_351 q204 q205 q206 q8 q207 (by decide +kernel) ({ frames := 1, cells := 0, slots := 0, locals := 20 } : Room) rfl rfl ⟨Nat.le_trans (show 1 + 1 ≤ 8 from (Nat.le_of_ble_eq_true rfl)) hRf, Nat.le_trans (show 8 + (3 + 11) + 20 ≤ 1000 from (Nat.le_of_ble_eq_true rfl)) hRl⟩ ⟨by show kc + 0 + 0 ≤ R.cells; omega, by show ks + 0 + 0 ≤ R.slots; omega⟩ (nt_in2 m1 m2) rfl (met_X6_wide_2 l D cI cS cP hm (xs (i + 1)) (xs (i + 2))) rfl rfl (Nat.le_of_ble_eq_true rfl) (fun r2 L2' f2' hm' => ?_)
  obtain ⟨r2e, L2e, f2e⟩ := hm'
  rw [r2e, ← r1e, L1e, f1e, L2e, f2e]
  refine nx_eqq F 392 dL_law_354 (by decide) ?_
  refine nx_wide (kc' := kc + 7) (ks' := ks + 7133) (by show kc + 0 + 0 ≤ kc + 7; omega) (by show ks + 0 + 0 ≤ ks + 7133; omega) ?_
  exact K _ _ _ _ _ hx hm hT

set_option maxHeartbeats 4000000 in
set_option maxRecDepth 100000 in
/-- the law, one call: small2 -/
theorem law_small2 {l : Launch} {R : Room} {D : va_G} {G : nt_G} {L L2 : List Nat} {f f2 : Nat → va_E} {kc ks : Nat} {cI cS cP : ClassId} {b n x m i : Nat} {xs : Nat → Int32} {T : Nat → Nat → Nat} (F : nt_F G D cI cS cP cL_law "NtruRingLaw" 4) (hX : nt_XX G b n xs) (hn : n ≤ 72) (hi : i + 6 ≤ n) (hRc : kc + 7 ≤ R.cells) (hRs : ks + 7133 ≤ R.slots) (hRf : 8 ≤ R.frames) (hRl : 1000 ≤ R.locals) (hx : nt_RG cS cP L f x T) (hm : nt_MG cI L2 f2 m T) (hT : nt_bd T)
    (K : ∀ (L' : List Nat) (f' : Nat → va_E) (L2' : List Nat) (f2' : Nat → va_E) (T' : Nat → Nat → Nat), nt_RG cS cP L' f' x T' → nt_MG cI L2' f2' m T' → nt_bd T' → nt_X l R D 4 G L' f' L2' f2' (kc + 7) (ks + 7133) [(3, .int (nI i)), (0, .ref b), (1, .ref x), (2, .ref m)] 392 []) :
    nt_X l R D 4 G L f L2 f2 kc ks [(3, .int (nI i)), (0, .ref b), (1, .ref x), (2, .ref m)] 359 [] := by
  obtain ⟨fx, x1, x2⟩ := hx.here
  obtain ⟨fm, m1, m2⟩ := hm.here
  refine nx_aload_n F 360 rfl dL_law_359 2 rfl ?_
  refine nx_aload_n F 361 rfl dL_law_360 1 rfl ?_
  refine nx_iload_n F 362 rfl dL_law_361 0 rfl ?_
  refine nx_iconst F 363 rfl (v := nI 1) dL_law_362 (by decide +kernel) ?_
  refine nx_iadd F 364 rfl dL_law_363 (nt_addN (show i + 1 = i + 1 by omega)) ?_
  refine nx_xld F 365 rfl dL_law_364 (v := xs (i + 1)) hX (show i + 1 < n by omega) (by omega) rfl ?_
  refine nx_aload_n F 366 rfl dL_law_365 1 rfl ?_
  refine nx_iload_n F 367 rfl dL_law_366 0 rfl ?_
  refine nx_iconst F 368 rfl (v := nI 2) dL_law_367 (by decide +kernel) ?_
  refine nx_iadd F 369 rfl dL_law_368 (nt_addN (show i + 2 = i + 2 by omega)) ?_
  refine nx_xld F 370 rfl dL_law_369 (v := xs (i + 2)) hX (show i + 2 < n by omega) (by omega) rfl ?_
  refine nx_iV1 (st := []) (n := 2) F 373 rfl [.int (xs (i + 1)), .int (xs (i + 2))] dL_law_370 q149 q150 q151 q2 q152 (by decide +kernel) ({ frames := 1, cells := 0, slots := 0, locals := 20 } : Room) rfl rfl ⟨Nat.le_trans (show 1 + 1 ≤ 8 from (Nat.le_of_ble_eq_true rfl)) hRf, Nat.le_trans (show 8 + (3 + 11) + 20 ≤ 1000 from (Nat.le_of_ble_eq_true rfl)) hRl⟩ ⟨by show kc + 0 ≤ R.cells; omega, by show ks + 0 ≤ R.slots; omega⟩ (nt_in1 x1 x2) rfl (met_X0_small_2 l D cI cS cP hx (xs (i + 1)) (xs (i + 2))) rfl rfl (Nat.le_of_ble_eq_true rfl) (fun r1 L' f' hx' => ?_)
  obtain ⟨r1e, L1e, f1e⟩ := hx'
  refine nx_aload_n F 374 rfl dL_law_373 3 rfl ?_
  refine nx_aload_n F 375 rfl dL_law_374 1 rfl ?_
  refine nx_iload_n F 376 rfl dL_law_375 0 rfl ?_
  refine nx_iconst F 377 rfl (v := nI 1) dL_law_376 (by decide +kernel) ?_
  refine nx_iadd F 378 rfl dL_law_377 (nt_addN (show i + 1 = i + 1 by omega)) ?_
  refine nx_xld F 379 rfl dL_law_378 (v := xs (i + 1)) hX (show i + 1 < n by omega) (by omega) rfl ?_
  refine nx_aload_n F 380 rfl dL_law_379 1 rfl ?_
  refine nx_iload_n F 381 rfl dL_law_380 0 rfl ?_
  refine nx_iconst F 382 rfl (v := nI 2) dL_law_381 (by decide +kernel) ?_
  refine nx_iadd F 383 rfl dL_law_382 (nt_addN (show i + 2 = i + 2 by omega)) ?_
  refine nx_xld F 384 rfl dL_law_383 (v := xs (i + 2)) hX (show i + 2 < n by omega) (by omega) rfl ?_
  refine nx_iV2 (st := [.int r1]) (n := 2) F 387 rfl [.int (xs (i + 1)), .int (xs (i + 2))] dL_law_384 q208 q209 q210 q8 q211 (by decide +kernel) ({ frames := 1, cells := 0, slots := 0, locals := 20 } : Room) rfl rfl ⟨Nat.le_trans (show 1 + 1 ≤ 8 from (Nat.le_of_ble_eq_true rfl)) hRf, Nat.le_trans (show 8 + (3 + 11) + 20 ≤ 1000 from (Nat.le_of_ble_eq_true rfl)) hRl⟩ ⟨by show kc + 0 + 0 ≤ R.cells; omega, by show ks + 0 + 0 ≤ R.slots; omega⟩ (nt_in2 m1 m2) rfl (met_X6_small_2 l D cI cS cP hm (xs (i + 1)) (xs (i + 2))) rfl rfl (Nat.le_of_ble_eq_true rfl) (fun r2 L2' f2' hm' => ?_)
  obtain ⟨r2e, L2e, f2e⟩ := hm'
  rw [r2e, ← r1e, L1e, f1e, L2e, f2e]
  refine nx_eqq F 392 dL_law_387 (by decide) ?_
  refine nx_wide (kc' := kc + 7) (ks' := ks + 7133) (by show kc + 0 + 0 ≤ kc + 7; omega) (by show ks + 0 + 0 ≤ ks + 7133; omega) ?_
  exact K _ _ _ _ _ hx hm hT
end
section
/-! ===== THE LAW: its loop, its start (printed by gen/law.py) ===== -/
set_option maxHeartbeats 4000000 in
set_option maxRecDepth 100000 in
/-- the law's loop: t calls are done -/
theorem law_loop {l : Launch} {R : Room} {D : va_G} {G : nt_G} {cI cS cP : ClassId} {b n x m : Nat} {xs : Nat → Int32} (F : nt_F G D cI cS cP cL_law "NtruRingLaw" 4) (hX : nt_XX G b n xs) (hn : n ≤ 72) (hRc : 1200000 ≤ R.cells) (hRs : 5502250 ≤ R.slots) (hRf : 8 ≤ R.frames) (hRl : 1000 ≤ R.locals)
    (hend : ∀ (L : List Nat) (f : Nat → va_E) (L2 : List Nat) (f2 : Nat → va_E) (kc ks : Nat) (lv : List (Nat × Value)), kc ≤ 1200000 → ks ≤ 5502250 → nt_X l R D 4 G L f L2 f2 kc ks lv 399 [.int 1]) :
    ∀ (d t i : Nat), t + d = 13 → i = 6 * t → i ≤ n → ∀ (L : List Nat) (f : Nat → va_E) (L2 : List Nat) (f2 : Nat → va_E) (T : Nat → Nat → Nat), nt_RG cS cP L f x T → nt_MG cI L2 f2 m T → nt_bd T → nt_X l R D 4 G L f L2 f2 (25 + 7 * t) (6670 + 7133 * t) [(3, .int (nI i)), (0, .ref b), (1, .ref x), (2, .ref m)] 18 [] := by
  intro d
  induction d with
  | zero =>
    intro t i h1 h2 h3
    exact absurd h3 (by omega)
  | succ d ih =>
    intro t i h1 h2 h3 L f L2 f2 T hx hm hT
    refine nx_iload_n F 19 rfl dL_law_18 0 rfl ?_
    refine nx_aload_n F 20 rfl dL_law_19 1 rfl ?_
    refine nx_xlen F 21 rfl dL_law_20 hX ?_
    refine nx_bipush F 23 rfl (v := nI 6) dL_law_21 (by decide +kernel) ?_
    by_cases h6 : n < 6
    · have e0 : i = 0 := by omega
      refine nx_isub F 24 rfl (v := nI n - nI 6) dL_law_23 rfl ?_
      refine nx_gtq F 398 dL_law_24 (by decide) (by rw [e0]; rcases (show n = 0 ∨ n = 1 ∨ n = 2 ∨ n = 3 ∨ n = 4 ∨ n = 5 by omega) with e | e | e | e | e | e <;> (rw [e]; decide +kernel)) ?_
      exact nx_iconst F 399 rfl (v := 1) dL_law_398 (by decide +kernel) (hend _ _ _ _ _ _ _ (by omega) (by omega))
    · obtain ⟨u, hu⟩ : ∃ u : Nat, u + 6 = n := ⟨n - 6, by omega⟩
      refine nx_isub F 24 rfl dL_law_23 (nt_subN (show u + 6 = n by omega)) ?_
      refine nx_gt F 27 398 rfl dL_law_24 (by decide) (by omega) (by omega) (fun hh => nx_iconst F 399 rfl (v := 1) dL_law_398 (by decide +kernel) (hend _ _ _ _ _ _ _ (by omega) (by omega))) (fun hh => ?_)
      refine nx_aload_n F 28 rfl dL_law_27 1 rfl ?_
      refine nx_iload_n F 29 rfl dL_law_28 0 rfl ?_
      refine nx_xld F 30 rfl dL_law_29 (v := xs i) hX (show i < n by omega) (by omega) rfl ?_
      refine nx_bipush F 32 rfl (v := nI 7) dL_law_30 (by decide +kernel) ?_
      obtain ⟨w, hw⟩ : ∃ w : Nat, w = (xs i).toBitVec.toNat % 8 := ⟨_, rfl⟩
      have bw : w < 8 := by rw [hw]; exact Nat.mod_lt _ (by decide)
      have ew : xs i &&& nI 7 = nI w := by rw [hw]; exact pk_and (xs i) 3 (by decide +kernel)
      refine nx_iand F 33 rfl (v := nI w) dL_law_32 ew ?_
      have K : ∀ (L' : List Nat) (f' : Nat → va_E) (L2' : List Nat) (f2' : Nat → va_E) (T' : Nat → Nat → Nat), nt_RG cS cP L' f' x T' → nt_MG cI L2' f2' m T' → nt_bd T' → nt_X l R D 4 G L' f' L2' f2' (25 + 7 * t + 7) (6670 + 7133 * t + 7133) [(3, .int (nI i)), (0, .ref b), (1, .ref x), (2, .ref m)] 392 [] := by
        intro L' f' L2' f2' T' hx' hm' hT'
        refine nx_iinc F 395 rfl dL_law_392 0 rfl (v' := nI (i + 6)) (by rw [show Int32.ofInt 6 = nI 6 from by decide +kernel]; exact nI_add _ 6) (by decide) [(3, .int (nI (i + 6))), (0, .ref b), (1, .ref x), (2, .ref m)] rfl ?_
        refine nx_goto F 18 dL_law_395 (by decide) ?_
        have hz := ih (t + 1) (i + 6) (by omega) (by omega) (by omega) L' f' L2' f2' T' hx' hm' hT'
        rw [show 25 + 7 * (t + 1) = 25 + 7 * t + 7 by omega, show 6670 + 7133 * (t + 1) = 6670 + 7133 * t + 7133 by omega] at hz
        exact hz
      clear ih hend
      rcases (show w = 0 ∨ w = 1 ∨ w = 2 ∨ w = 3 ∨ w = 4 ∨ w = 5 ∨ w = 6 ∨ w = 7 by omega) with e | e | e | e | e | e | e | e
      · rw [e]
        refine nx_table F 80 (off := 47) dL_law_33 (by decide +kernel) (by decide +kernel) (by decide +kernel) (by decide) ?_
        exact law_wide F hX hn (by omega) (by omega) (by omega) hRf hRl hx hm hT K
      · rw [e]
        refine nx_table F 121 (off := 88) dL_law_33 (by decide +kernel) (by decide +kernel) (by decide +kernel) (by decide) ?_
        exact law_small F hX hn (by omega) (by omega) (by omega) hRf hRl hx hm hT K
      · rw [e]
        refine nx_table F 162 (off := 129) dL_law_33 (by decide +kernel) (by decide +kernel) (by decide +kernel) (by decide) ?_
        exact law_spread F hX hn (by omega) (by omega) (by omega) hRf hRl hx hm hT K
      · rw [e]
        refine nx_table F 203 (off := 170) dL_law_33 (by decide +kernel) (by decide +kernel) (by decide +kernel) (by decide) ?_
        exact law_times F hX hn (by omega) (by omega) (by omega) hRf hRl hx hm hT K
      · rw [e]
        refine nx_table F 244 (off := 211) dL_law_33 (by decide +kernel) (by decide +kernel) (by decide +kernel) (by decide) ?_
        exact law_timesPhi F hX hn (by omega) (by omega) (by omega) hRf hRl hx hm hT K
      · rw [e]
        refine nx_table F 285 (off := 252) dL_law_33 (by decide +kernel) (by decide +kernel) (by decide +kernel) (by decide) ?_
        exact law_timesThree F hX hn (by omega) (by omega) (by omega) hRf hRl hx hm hT K
      · rw [e]
        refine nx_table F 326 (off := 293) dL_law_33 (by decide +kernel) (by decide +kernel) (by decide +kernel) (by decide) ?_
        exact law_wide2 F hX hn (by omega) (by omega) (by omega) hRf hRl hx hm hT K
      · rw [e]
        refine nx_table F 359 (off := 326) dL_law_33 (by decide +kernel) (by decide +kernel) (by decide +kernel) (by decide) ?_
        exact law_small2 F hX hn (by omega) (by omega) (by omega) hRf hRl hx hm hT K
end
section
/-! THE CLAIM OUT OF ONE WALK OF THE LAW'S BODY. Your part is whole_start (and what it stands on); all else here is the same for every law, but numbers. -/
def R_law : String := "NtruRingLaw"
def lw_P (b : Addr) (xs : List Int32) (args : Array Value) (s : State) : Prop := args = #[.ref b] ∧ s.IntsAt b xs ∧ xs.length ≤ 72 ∧ (Jvm.Cond.and given_1 narrow_1).before args s = true
def lw_Q (_ : Array Value) (s : State) (o : Outcome) (t : State) : Prop := o = .returned (some (.int 1)) ∧ Framed s o t [] 1200000 5502250
def lw_Z (below : List Frame) (a : Array Value) (s : State) : State → Prop := fun t => ∃ o, t.status = .running ∧ Ended t below o ∧ lw_Q a s o t
/-- the law's own end, with 1 on the stack, nothing written that was there before, its room as the claim has it -/
theorem lw_ret {p : Program} {l : Launch} {e : Env} {s : State} {m : MethodId} {below : List Frame} {meth : Method} {c : Code} {b : Nat} (hx : p.tables.exec = Jvm.exec) (hb : c.code = code) (hr : meth.sig.returnType = ret) (hlocks : meth.locks = false) {pc : Nat} {H : Heap} {ls : Array Slot} (hdg : decode code pc = .ok (.ireturn, 1)) : W p l e room_1 s m #[Value.ref b] below meth c H [] 1200000 5502250 (lw_Z below #[Value.ref b] s) (F0 m pc ls [.int 1]) := by
  intro T hT X
  obtain ⟨fs, hret, hrun, hended, hW, hframe⟩ := X.leave (v := some (.int 1)) (hlocks := hlocks) (fun h => by rw [hr] at h; cases h)
  have hmeth' : T.vm.method? m = some meth := X.method'
  refine ⟨T.setFrames fs, ?_, .returned (some (.int 1)), hrun, hended, rfl, ⟨_, rfl⟩, hW, hframe⟩
  jvm_step X.here [X.here.top, hx, hb, hdg, hmeth', hr, ret, narrow_b1]
  (try refine ⟨rfl, ?_⟩); (try refine ⟨rfl, ?_⟩)
  first | (intro acts; rw [hret _ acts rfl rfl rfl]) | rw [hret _ _ rfl rfl rfl]
  exact Steps.refl _
/-- what holds at the law's entry: the machine, the code, the tables' words (any of lw_tbl by 'hts w (by decide +kernel)'), the script of L ints xs at the cell b, what the Statement gives of the start (any of its parts by flat_of_before) -/
def lw_At (p : Program) (s : State) (m : MethodId) (meth : Method) (c : Code) (b L : Nat) (xs : Nat → Int32) : Prop :=
  p.tables.exec = Jvm.exec ∧ c.code = code ∧ meth.sig.returnType = ret ∧ c.maxLocals = 4 ∧ s.vm.findClass R_law = some m.cls ∧ (∀ w ∈ lw_tbl, w.before #[Value.ref b] s = true) ∧ va_X b L xs s s.heap ∧ b < s.heap.size ∧ meth.locks = false ∧ (Jvm.Cond.and given_1 narrow_1).before #[Value.ref b] s = true
-- ===== YOUR PART BEGINS =====
set_option maxHeartbeats 4000000 in
set_option maxRecDepth 100000 in
/-- from the entry, for every script of at most 72 ints, the law comes to its end with true ('hflags': the launch's flags, for a law that throws: no stack traces) -/
theorem whole_start {p : Program} {e : Env} {s : State} {m : MethodId} {below : List Frame} {meth : Method} {c : Code} (l : Launch) (hflags : l.flags = flags0) {b L : Nat} {xs : Nat → Int32} (hL : L ≤ 72) (C0 : lw_At p s m meth c b L xs) : W p l e room_1 s m #[Value.ref b] below meth c s.heap [] 0 0 (lw_Z below #[Value.ref b] s) (entryFrame m ([Value.ref b] : List Value).toArray 4) := by
  obtain ⟨hx, hb, hr, hml, hown, hts, hX, hbl, hlocks, hgv⟩ := C0
  obtain ⟨k0, i0, hKn0⟩ := u_known (C := RX0) (T := TX0) (N := 2) (n := 2) hts (fun w h => lw_all_tbl (in_X0 w h)) (hts _ (lw_all_tbl q10))
  obtain ⟨k1, i1, hKn1⟩ := u_known (C := RX2) (T := TX2) (N := 2) (n := 2) hts (fun w h => lw_all_tbl (in_X2 w h)) (hts _ (lw_all_tbl q23))
  obtain ⟨k2, i2, hKn2⟩ := u_known (C := RX5) (T := TX5) (N := 5) (n := 5) hts (fun w h => lw_all_tbl (in_X5 w h)) (hts _ (lw_all_tbl q25))
  obtain ⟨k3, i3, hKn3⟩ := u_known (C := RX6) (T := TX6) (N := 3) (n := 3) hts (fun w h => lw_all_tbl (in_X6 w h)) (hts _ (lw_all_tbl q154))
  obtain ⟨D, hKc⟩ : ∃ D : va_G, ∀ (k : Nat) (q : vw_C), vwCl[k]? = some q → u_Kn s q.1 q.2.1 q.2.2 (D.1 k) (D.2 k) := by
    refine ⟨(fun k => if k = 0 then k0 else if k = 1 then k1 else if k = 2 then k2 else k3, fun k => if k = 0 then i0 else if k = 1 then i1 else if k = 2 then i2 else i3), ?_⟩
    intro k q hq
    match k, hq with
    | 0, hq => cases hq; exact hKn0
    | 1, hq => cases hq; exact hKn1
    | 2, hq => cases hq; exact hKn2
    | 3, hq => cases hq; exact hKn3
    | k + 4, hq => simp [vwCl] at hq
  obtain ⟨cI, kI, pI, a1, a2, a3⟩ := Cond.arrayClass_spec (hts _ (lw_all_tbl q111))
  obtain ⟨cS, kS, pS, s1, s2, s3⟩ := Cond.arrayClass_spec (hts _ (lw_all_tbl q72))
  obtain ⟨pP, cP, kP, f1, f2, f3, f4, f5⟩ := Cond.arrayOver_spec (hts _ q18)
  have hK : nt_K D cI cS cP s := by
    refine ⟨⟨hKc, fun k q hq => ?_⟩, va_AO.of (hts _ q18), va_Nw.of rfl (hts _ q212)⟩
    match k, hq with
    | 0, hq => cases hq; exact ⟨fun N z => ⟨(fun k h => by cases h), kI, a2, pI, a3⟩, a1⟩
    | 1, hq => cases hq; exact ⟨fun N z => ⟨(fun k h => by cases h), kS, s2, pS, s3⟩, s1⟩
    | 2, hq => cases hq; exact ⟨fun N z => ⟨(fun k h => by cases h), kP, f3, pP, f4⟩, kP, pP, f3, f4, f1, f5⟩
    | k + 3, hq => simp [nt_T] at hq
  obtain ⟨G, hG⟩ : ∃ G : nt_G, G = (p, e, s, m, #[Value.ref b], below, meth, c, lw_Z below #[Value.ref b] s, fun q : Nat => s.heap.size ≤ q) := ⟨_, rfl⟩
  have F : nt_F G D cI cS cP cL_law "NtruRingLaw" 4 := by
    rw [hG]
    exact ⟨hx, hb, hml, hown, fun w h => hts w (lw_all_tbl h), hK, fun q h => h⟩
  have hXX : nt_XX G b L xs := by
    rw [hG]
    exact ⟨hX, hbl, Nat.not_le.mpr hbl⟩
  have hend : ∀ (L : List Nat) (f : Nat → va_E) (L2 : List Nat) (f2 : Nat → va_E) (kc ks : Nat) (lv : List (Nat × Value)), kc ≤ 1200000 → ks ≤ 5502250 → nt_X l room_1 D 4 G L f L2 f2 kc ks lv 399 [.int 1] := by
    intro L f L2 f2 kc ks lv h1 h2
    rw [hG]
    intro H locs ls hP hD hS hl
    exact va_forget (fun q hq => hS.2.2 q hq) (W.widen h1 h2 (lw_ret hx hb hr hlocks dL_law_399))
  have hX0 : nt_X l room_1 D 4 G [] (fun _ => .inr (0, [])) [] (fun _ => .inr (0, [])) 0 0 [(0, .ref b)] 0 [] := by
    refine nx_new1 F 3 rfl dL_law_0 q9 q10 q2 in_X0 tyX0 tyX0_ok (ci := 0) rfl [.null, .null] (fun j hj => by rcases (show j = 0 ∨ j = 1 by omega) with rfl | rfl <;> rfl) ⟨(Nat.le_of_ble_eq_true rfl), (Nat.le_of_ble_eq_true rfl)⟩ (fun x hxn => ?_)
    refine nx_dup F 4 rfl dL_law_3 rfl ?_
    refine nx_vI1 (st := [.ref x]) (n := 0) F 7 rfl [] dL_law_4 q11 q12 q2 q13 rfl (by decide +kernel) ({ frames := 5, cells := 20, slots := 3102, locals := 101 } : Room) rfl rfl ⟨(Nat.le_of_ble_eq_true rfl), (Nat.le_of_ble_eq_true rfl)⟩ ⟨(Nat.le_of_ble_eq_true rfl), (Nat.le_of_ble_eq_true rfl)⟩ (met_X0_init (v0 := .null) (v1 := .null) l D cI cS cP (List.mem_append_right _ List.mem_cons_self) (va_up_self _ _ _)) rfl rfl (Nat.le_of_ble_eq_true rfl) (fun L1 f1 hx1 => ?_)
    refine nx_astore_n F 8 rfl dL_law_7 (by decide) [(1, .ref x), (0, .ref b)] rfl ?_
    refine nx_new2 F 11 rfl dL_law_8 q153 q154 q8 in_X6 tyX6 tyX6_ok (ci := 3) rfl [.null, .null, .null] (fun j hj => by rcases (show j = 0 ∨ j = 1 ∨ j = 2 by omega) with rfl | rfl | rfl <;> rfl) ⟨(Nat.le_of_ble_eq_true rfl), (Nat.le_of_ble_eq_true rfl)⟩ (fun y hyn => ?_)
    refine nx_dup F 12 rfl dL_law_11 rfl ?_
    refine nx_vI2 (st := [.ref y]) (n := 0) F 15 rfl [] dL_law_12 q155 q156 q8 q157 rfl (by decide +kernel) ({ frames := 1, cells := 3, slots := 3563, locals := 20 } : Room) rfl rfl ⟨(Nat.le_of_ble_eq_true rfl), (Nat.le_of_ble_eq_true rfl)⟩ ⟨(Nat.le_of_ble_eq_true rfl), (Nat.le_of_ble_eq_true rfl)⟩ (met_X6_init (v0 := .null) (v1 := .null) (v2 := .null) l D cI cS cP (List.mem_append_right _ List.mem_cons_self) (va_up_self _ _ _)) rfl rfl (Nat.le_of_ble_eq_true rfl) (fun L2 f2 hy1 => ?_)
    refine nx_astore_n F 16 rfl dL_law_15 (by decide) [(2, .ref y), (1, .ref x), (0, .ref b)] rfl ?_
    refine nx_iconst F 17 rfl (v := nI 0) dL_law_16 (by decide +kernel) ?_
    refine nx_istore_n F 18 rfl dL_law_17 (by decide) [(3, .int (nI 0)), (2, .ref y), (1, .ref x), (0, .ref b)] rfl ?_
    refine nx_lv [0, 3, 2, 1] [(3, .int (nI 0)), (0, .ref b), (1, .ref x), (2, .ref y)] rfl ?_
    refine nx_wide (kc' := 25 + 7 * 0) (ks' := 6670 + 7133 * 0) (Nat.le_of_ble_eq_true rfl) (Nat.le_of_ble_eq_true rfl) ?_
    exact law_loop F hXX hL (Nat.le_of_ble_eq_true rfl) (Nat.le_of_ble_eq_true rfl) (Nat.le_of_ble_eq_true rfl) (Nat.le_of_ble_eq_true rfl) hend 13 0 0 rfl rfl (Nat.zero_le _) L1 f1 L2 f2 (fun _ _ => 0) hx1 hy1 nt_bd.zero
  have hl := lv_entry ([.ref b]) (n := 4) (Nat.le_of_ble_eq_true rfl)
  rw [lg_entry_eq]
  rw [hG] at hX0
  exact hX0 s.heap [] _ (show va_P D vwCl [] s.heap from fun k q h => by simp at h) (show va_D (fun q : Nat => s.heap.size ≤ q) [] from ⟨fun i j p q h => by simp at h, fun k q h => by simp at h⟩) va_S.rf hl
-- ===== YOUR PART ENDS =====
set_option maxHeartbeats 4000000 in
theorem lw_walk (l : Launch) (hflags : l.flags = flags0) (b : Addr) (xs : List Int32) : MetFree l x (headSpec (Jvm.Cond.code x code maxLocals ret :: tables_1) room_1) (lw_P b xs) (fun _ _ _ _ _ => True) lw_Q := by
  refine MetFree.of_bodyS (code := code) (maxLocals := maxLocals) (ret := ret) (by decide) ?_ ?_
  · intro args s m h hn
    obtain ⟨meth, c, h1, h2, h3, h4, h5, h6, -, -⟩ := Cond.code_spec hn (atoms_spec (ws := Jvm.Cond.code x code maxLocals ret :: tables_1) h _ List.mem_cons_self)
    exact ⟨meth, c, h1, h2, h3, h4, h5, h6⟩
  · intro p e s m args below meth c s₁ B hml0 hP _
    obtain ⟨rfl, hx, hbd, hgv⟩ := hP
    obtain ⟨scr, harrAt, hlist, hof, hsmall⟩ := hx
    obtain ⟨hcb, hkn, -, -⟩ := State.arrayAt?_spec harrAt
    have hown : s.vm.findClass R_law = some m.cls := findClass_of_methodNamed B.named
    have hts0 : ∀ c ∈ (Jvm.Cond.code x code maxLocals ret :: tables_1), c.before #[Value.ref b] s = true := atoms_spec (ws := Jvm.Cond.code x code maxLocals ret :: tables_1) B.pre
    have hts : ∀ w ∈ lw_tbl, w.before #[Value.ref b] s = true := k2_hts_sels lw_privs (fun w hw => hts0 w (List.mem_cons_of_mem _ hw)) lw_privs_ok
    have hml : c.maxLocals = 4 := B.maxLocals_eq (hts0 _ List.mem_cons_self)
    have X₀ : Stand p l e room_1 s m #[Value.ref b] below meth c s₁ [] 0 0 := Stand.of_body B
    have hh0 : s₁.heap = s.heap := by rw [B.state]; rfl
    have hsz : scr.slots.size = xs.length := by rw [← Array.length_toList, hlist, List.length_map]
    have hval : ∀ j : Nat, j < xs.length → scr.slots[j]? = some (.int (xs.getD j 0)) := fun j hj => by
      rw [← Array.getElem?_toList, hlist]
      simp [hj]
    have hbl : b < s.heap.size := (Array.getElem?_eq_some_iff.mp hcb).1
    have hX : va_X b xs.length (fun j => xs.getD j 0) s s.heap := ⟨scr, hcb, hof, hkn, hsz, hval⟩
    have K : W p l e room_1 s m #[Value.ref b] below meth c s₁.heap [] 0 0 (lw_Z below #[Value.ref b] s) (entryFrame m ([Value.ref b] : List Value).toArray 4) := by
      rw [hh0]
      exact whole_start l hflags hbd ⟨B.exec, B.bytes, B.returns, hml, hown, hts, hX, hbl, B.notSynchronized, hgv⟩
    obtain ⟨t, a1, o, b1, b2, b3⟩ := K s₁ rfl X₀
    exact ⟨t, o, a1, b1, b2, b3⟩
theorem lw_pre_spec {args : Array Value} {s : State} (h : (Jvm.Cond.and given_1 narrow_1).before args s = true) (hr : rest_1_c.before args s = true) : ∃ (b : Addr) (xs : List Int32), lw_P b xs args s := by
  have hs := flat_of_before _ h
  have hq := flat_of_before _ hr
  have hc : (Cond.count 1).before args s = true := hs _ (by decide +kernel)
  have harr : (Cond.arrayOf (.arg 0) .int).before args s = true := hs _ (by decide +kernel)
  have hle : (Cond.le (.length (.arg 0)) (.int 72)).before args s = true := hs _ (by decide +kernel)
  have hlen : (Cond.isInt (.length (.arg 0))).before args s = true := hq _ (by decide +kernel)
  have hall : (Cond.all (.arg 0) (.isInt (.elem (.arg 0) (.index 0)))).before args s = true := hq _ (by decide +kernel)
  obtain ⟨b, xs, hb, hx⟩ := State.ints_of_pre rfl harr hlen hall
  have hsm : xs.length < 2 ^ 31 := hx.choose_spec.2.2.2
  have hev : (Term.length (.arg 0)).eval args s none [] s = some (.int xs.length.toInt32) := hx.length_eval hb
  have hv := Cond.le_ints hev (show (Term.int 72).eval args s none [] s = some (.int 72) from rfl)
  have hd : xs.length.toInt32 ≤ 72 := by
    simpa [Cond.before, Cond.holds, hv] using hle
  have hN : xs.length ≤ 72 := (Int32.ofNat_le_ofNat hsm (by decide)).mp (show Int32.ofNat xs.length ≤ Int32.ofNat 72 from hd)
  exact ⟨b, xs, Cond.one_arg hc (show args[0]? = some (.ref b) from hb), hx, hN, h⟩
theorem lw_comes (l : Launch) (hflags : l.flags = flags0) : Comes l x (Jvm.Cond.code x code maxLocals ret :: tables_1) room_1 (fun tb e args s => Calls_1 tb e args s ∧ rest_1 tb e args s ∧ Pre_1 tb e args s)
    (fun _ _ args s o t => lw_Q args s o t) := by
  intro p e ha hc hk s m args below hf hfit hheap happ hpre
  obtain ⟨b, xs, hP⟩ := lw_pre_spec hpre.2.2 hpre.2.1
  obtain ⟨k, o, h1, h2, h3, hQ⟩ := lw_walk l hflags b xs p e ha hc hk s m args below hf ((Spec.applies_iff_loose hf).mp happ).1 hP trivial
  exact ⟨k, o, h1, h2, h3, hQ⟩
theorem lw_frame {s t : State} {o : Outcome} {args : Array Value} (h : Framed s o t [] 1200000 5502250) :
    Framed s o t (fieldLocs frame_1_writes args s ++ arrayLocs frame_1_arrays args s ++ staticLocs frame_1_statics s) 1200000 5502250 := h
theorem lw_limb (L : Cond) (hL : ∀ (args : Array Value) (s t : State), L.after args s (.returned (some (.int 1))) t = true) :
    ArmFor flags0 classFile x code maxLocals ret World_1 tables_1 room_1 Calls_1 rest_1 Pre_1
      (fun tb e a s o t => postC L tb e a s o t ∧ Framed s o t (fieldLocs frame_1_writes a s ++ arrayLocs frame_1_arrays a s ++ staticLocs frame_1_statics s) 1200000 5502250) := by
  intro l hflags _ _ p e ha hc hk s m args below hf hfit hheap happ hpre
  obtain ⟨k, o, h1, h2, h3, rfl, hF⟩ := lw_comes l hflags p e ha hc hk s m args below hf hfit hheap happ hpre
  exact ⟨k, _, h1, h2, h3, hL args s _, lw_frame hF⟩
theorem i_vc : Claimed_1_1 ∧ Claimed_1_2 := ⟨lw_limb limb_1_1 (fun args s t => by simp [limb_1_1, Cond.after, Cond.holds, Cond.value]), lw_limb limb_1_2 (fun args s t => Cond.after_iff.mpr (by
  first | (rw [show limb_1_2 = Cond.eq .result (.int 1) from rfl, Cond.eq_ints (x := 1) (y := 1) rfl rfl]; simp; done) | (simp [limb_1_2, Cond.value, Term.eval]; done)))⟩
end
