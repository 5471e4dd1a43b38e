section
-- ===== PART A: goes FIRST, ahead of the names: the tables' words, and 'selects' of the private methods out of them =====
/-- a private method of a class that the tables say can be made, by its rows of tables_1 -/
def lw_okq (q : MethodName × Nat) : Prop := (q.1.cls ≠ "java/lang/invoke/MethodHandle" ∧ q.1.cls ≠ "java/lang/invoke/VarHandle") ∧ Cond.instantiable q.1.cls q.2 ∈ tables_1 ∧ Cond.privateMethod q.1 ∈ tables_1 ∧ Cond.instanceMethod q.1 ∈ tables_1
set_option maxRecDepth 100000
theorem lw_p0 : lw_okq (⟨"FloorDeskModel", "divide", "(JJ)V"⟩, 2) := ⟨⟨by decide +kernel, by decide +kernel⟩, List.mem_of_getElem? (i := 75) rfl, List.mem_of_getElem? (i := 100) rfl, List.mem_of_getElem? (i := 101) rfl⟩
def lw_privs_1 : List (MethodName × Nat) := [(⟨"FloorDeskModel", "divide", "(JJ)V"⟩, 2)]
theorem lw_r1 : ∀ q ∈ lw_privs_1, lw_okq q := List.forall_mem_cons.mpr ⟨lw_p0, fun _ h => absurd h List.not_mem_nil⟩
def lw_privs : List (MethodName × Nat) := lw_privs_1
def lw_tbl : List Cond := k2_sels lw_privs ++ tables_1
theorem lw_privs_ok : ∀ q ∈ lw_privs, lw_okq q := lw_r1
-- ===== ONE list of words for every method: the tables' words that hold all through a run =====
def lw_all : List Cond := lw_tbl.filter goodWord
/-- a word of the tables by its place: claim/WORDS.tsv -/
theorem lw_w {w : Cond} (i : Nat) (h : lw_tbl[i]? = some w) (g : goodWord w = true) : w ∈ lw_all := List.mem_filter.mpr ⟨List.mem_of_getElem? h, g⟩
theorem lw_all_tbl {w : Cond} (h : w ∈ lw_all) : w ∈ lw_tbl := (List.mem_filter.mp h).1
theorem lw_self : GoodIn lw_all lw_all := fun w h => ⟨h, good_of_word (List.mem_filter.mp h).2⟩
/-- a class's field words, by their places -/
theorem lw_in (ws : List Cond) (ps : List Nat) (hp : ws = ps.filterMap (fun i => lw_tbl[i]?)) (hg : ws.all goodWord = true) : ∀ w ∈ ws, w ∈ lw_all := by
  intro w h
  have h1 := List.all_eq_true.mp hg w h
  rw [hp] at h
  obtain ⟨i, -, hi⟩ := List.mem_filterMap.mp h
  exact lw_w i hi h1
/-- the words of a contract for the method y with code b, L locals, answer r -/
abbrev ws_ (y : MethodName) (b : ByteArray) (L : Nat) (r : Option FieldType) : List Cond := Cond.code y b L r :: lw_all
theorem lw_meth {y : MethodName} {b : ByteArray} {L : Nat} {r : Option FieldType} (h : Cond.code y b L r ∈ lw_all) : GoodIn lw_all (ws_ y b L r) := by
  intro w hw
  rcases List.mem_cons.mp hw with e | e
  · rw [e]
    exact lw_self _ h
  · exact lw_self _ e
theorem lw_app {a c : List Cond} (ha : ∀ w ∈ a, w ∈ lw_all) (hc : GoodIn lw_all c) : GoodIn lw_all (a ++ c) := by
  intro w hw
  rcases List.mem_append.mp hw with e | e
  · exact lw_self w (ha w e)
  · exact hc w e
/-- what a call through an object asks: cwV n hts (lw_V ..) -/
theorem lw_V {own : String} {idx : Nat} {C : String} {y : MethodName} {b : ByteArray} {L : Nat} {r : Option FieldType} (h1 : Cond.methodLink own idx y ∈ lw_all) (h2 : Cond.instanceMethod y ∈ lw_all) (h3 : Cond.selects C y y ∈ lw_all) (h4 : Cond.initialized C ∈ lw_all) (h5 : Cond.code y b L r ∈ lw_all) : GoodIn lw_all (wsV own idx C y (ws_ y b L r)) := by
  refine lw_app ?_ (lw_meth h5)
  intro w hw
  simp only [List.mem_cons, List.not_mem_nil, or_false] at hw
  rcases hw with e | e | e | e
  · rw [e]; exact h1
  · rw [e]; exact h2
  · rw [e]; exact h3
  · rw [e]; exact h4
/-- what a static call asks: va_cwS n hts (lw_S ..) -/
theorem lw_S {own : String} {idx : Nat} {y : MethodName} {b : ByteArray} {L : Nat} {r : Option FieldType} (h1 : Cond.methodLink own idx y ∈ lw_all) (h2 : Cond.static y ∈ lw_all) (h3 : Cond.initialized y.cls ∈ lw_all) (h4 : Cond.code y b L r ∈ lw_all) : GoodIn lw_all (va_wsS own idx y (ws_ y b L r)) := by
  refine lw_app ?_ (lw_meth h4)
  intro w hw
  simp only [List.mem_cons, List.not_mem_nil, or_false] at hw
  rcases hw with e | e | e
  · rw [e]; exact h1
  · rw [e]; exact h2
  · rw [e]; exact h3
/-- the words of a contract for a method WITH HANDLERS (hh: its table) -/
abbrev wsW_ (y : MethodName) (b : ByteArray) (L : Nat) (r : Option FieldType) (hh : List (Nat × Nat × Nat × Nat)) : List Cond := Cond.codeWith y b L r hh :: lw_all
theorem lw_methW {y : MethodName} {b : ByteArray} {L : Nat} {r : Option FieldType} {hh : List (Nat × Nat × Nat × Nat)} (h : Cond.codeWith y b L r hh ∈ lw_all) : GoodIn lw_all (wsW_ y b L r hh) := by
  intro w hw
  rcases List.mem_cons.mp hw with e | e
  · rw [e]
    exact lw_self _ h
  · exact lw_self _ e
/-- any list of words by their places (lw_in), good -/
theorem lw_good {ws : List Cond} (h : ∀ w ∈ ws, w ∈ lw_all) : GoodIn lw_all ws := fun w hw => lw_self w (h w hw)
/-- what a call of a method with handlers asks: vx_cwVW n hts (lw_VW ..), vx_cwSW n hts (lw_SW ..) -/
theorem lw_VW {own : String} {idx : Nat} {C : String} {y : MethodName} {b : ByteArray} {L : Nat} {r : Option FieldType} {hh : List (Nat × Nat × Nat × Nat)} (h1 : Cond.methodLink own idx y ∈ lw_all) (h2 : Cond.instanceMethod y ∈ lw_all) (h3 : Cond.selects C y y ∈ lw_all) (h4 : Cond.initialized C ∈ lw_all) (h5 : Cond.codeWith y b L r hh ∈ lw_all) : GoodIn lw_all (wsV own idx C y (wsW_ y b L r hh)) := by
  refine lw_app ?_ (lw_methW h5)
  intro w hw
  simp only [List.mem_cons, List.not_mem_nil, or_false] at hw
  rcases hw with e | e | e | e
  · rw [e]; exact h1
  · rw [e]; exact h2
  · rw [e]; exact h3
  · rw [e]; exact h4
theorem lw_SW {own : String} {idx : Nat} {y : MethodName} {b : ByteArray} {L : Nat} {r : Option FieldType} {hh : List (Nat × Nat × Nat × Nat)} (h1 : Cond.methodLink own idx y ∈ lw_all) (h2 : Cond.static y ∈ lw_all) (h3 : Cond.initialized y.cls ∈ lw_all) (h4 : Cond.codeWith y b L r hh ∈ lw_all) : GoodIn lw_all (va_wsS own idx y (wsW_ y b L r hh)) := by
  refine lw_app ?_ (lw_methW h4)
  intro w hw
  simp only [List.mem_cons, List.not_mem_nil, or_false] at hw
  rcases hw with e | e | e
  · rw [e]; exact h1
  · rw [e]; exact h2
  · rw [e]; exact h3
/-- a word by its place in its run of the tables -/
theorem lw_at {r : List Cond} (hr : ∀ w ∈ r, w ∈ lw_tbl) {w : Cond} (i : Nat) (h : r[i]? = some w) : w ∈ lw_tbl := hr w (List.mem_of_getElem? h)
theorem lw_g {w : Cond} (h : w ∈ lw_tbl) (g : goodWord w = true) : w ∈ lw_all := List.mem_filter.mpr ⟨h, g⟩
theorem lw_ms : ∀ w ∈ k2_sels lw_privs, w ∈ lw_tbl := fun w h => show w ∈ k2_sels lw_privs ++ tables_1 from List.mem_append_left _ h
theorem lw_m0 : ∀ w ∈ tables_1, w ∈ lw_tbl := fun w h => show w ∈ k2_sels lw_privs ++ tables_1 from List.mem_append_right (k2_sels lw_privs) h
theorem qs0 : (Cond.selects "FloorDeskModel" ⟨"FloorDeskModel", "divide", "(JJ)V"⟩ ⟨"FloorDeskModel", "divide", "(JJ)V"⟩) ∈ lw_all := lw_g (lw_at lw_ms 0 rfl) rfl
end
section
/-! DECODE ROWS BY BYTES: one lemma an opcode; a method's code is cut into short pieces once, and a row reads its own piece alone. -/
set_option maxRecDepth 100000
/-- the code has just these bytes from pc on -/
def DkAt (code : ByteArray) (pc : Nat) (bs : List UInt8) : Prop := ∀ (j : Nat) (b : UInt8), bs[j]? = some b → code.data.toList[pc + j]? = some b
/-- the piece W has the bytes bs from its place j on -/
def dkIn (W : List UInt8) (j : Nat) (bs : List UInt8) : Bool := decide ((W.drop j).take bs.length = bs)
theorem dk_seg {l W T : List UInt8} {o o2 : Nat} (h : l.drop o = W ++ T) (n : Nat) (hn : W.length = n) (ho : o + n = o2) : l.drop o2 = T := by
  subst ho
  rw [← List.drop_drop, h, List.drop_left' hn]
theorem dk_at {code : ByteArray} {W T bs : List UInt8} {o pc : Nat} (h : code.data.toList.drop o = W ++ T) (j : Nat) (hp : o + j = pc) (hw : dkIn W j bs = true) : DkAt code pc bs := by
  subst hp
  intro i b e
  have h1 := of_decide_eq_true hw
  have h2 : i < bs.length := (List.getElem?_eq_some_iff.mp e).1
  have h3 : W[j + i]? = some b := by
    rw [← h1, List.getElem?_take, if_pos h2, List.getElem?_drop] at e
    exact e
  have h4 : j + i < W.length := (List.getElem?_eq_some_iff.mp h3).1
  have h5 : (code.data.toList.drop o)[j + i]? = some b := by
    rw [h, List.getElem?_append_left h4]
    exact h3
  rw [List.getElem?_drop, ← Nat.add_assoc] at h5
  exact h5
theorem dk_u1 {A : ByteArray} {p : Nat} {b : UInt8} (h : A.data.toList[p]? = some b) : (Reader.u1 : Reader DecodeError Nat) A p = .ok (b.toNat, p + 1) := by
  obtain ⟨h1, h2⟩ := List.getElem?_eq_some_iff.mp h
  have h3 : p < A.size := by simpa using h1
  have h4 : A[p]'h3 = b := h2
  have e : (Reader.u1 : Reader DecodeError Nat) A p = (if h : p < A.size then .ok (A[p].toNat, p + 1) else .error (HasTruncated.truncated p)) := by
    show (do if h : p < A.size then do set (p + 1); Pure.pure A[p].toNat else MonadExcept.throw (HasTruncated.truncated p) : Reader DecodeError Nat) A p = _
    by_cases hi : p < A.size
    · rw [dif_pos hi, dif_pos hi]; rfl
    · rw [dif_neg hi, dif_neg hi]; rfl
  rw [e, dif_pos h3, h4]
theorem dk_bind {α β : Type} {r : Reader DecodeError α} {f : α → Reader DecodeError β} {A : ByteArray} {p s : Nat} {a : α} (h : r A p = .ok (a, s)) : (r >>= f) A p = f a A s := by
  show (do let (a, s) ← r A p; f a A s : Except DecodeError (β × Nat)) = _
  rw [h]
  rfl
theorem dk_map {α β : Type} {r : Reader DecodeError α} {g : α → β} {A : ByteArray} {p s : Nat} {a : α} (h : r A p = .ok (a, s)) : (g <$> r) A p = .ok (g a, s) := by
  show (do let (a, s) ← r A p; .ok (g a, s) : Except DecodeError (β × Nat)) = _
  rw [h]
  rfl
theorem dk_u2 {A : ByteArray} {p : Nat} {a b : UInt8} (h : A.data.toList[p]? = some a) (h2 : A.data.toList[p + 1]? = some b) : (Reader.u2 : Reader DecodeError Nat) A p = .ok (a.toNat * 256 + b.toNat, p + 2) := by
  show (Reader.u1 >>= fun hi => Reader.u1 >>= fun lo => Pure.pure (hi * 256 + lo) : Reader DecodeError Nat) A p = _
  rw [dk_bind (dk_u1 h), dk_bind (dk_u1 h2)]
  rfl
theorem dk_of {code : ByteArray} {pc n : Nat} {i : Instr} (h : Decoder.instr pc code pc = .ok (i, pc + n)) : decode code pc = .ok (i, n) := by
  have e : decode code pc = (match Decoder.instr pc code pc with | .error x => .error x | .ok (j, s) => .ok (j, s - pc)) := by
    show (do let (j, s) ← Decoder.instr pc code pc; Pure.pure (j, s - pc) : Except DecodeError (Instr × Nat)) = _
    cases Decoder.instr pc code pc <;> rfl
  rw [e, h]
  show Except.ok (i, pc + n - pc) = _
  rw [Nat.add_sub_cancel_left]
theorem dk_2 {code : ByteArray} {pc : Nat} (h : DkAt code pc [2]) : decode code pc = .ok (.iconst (-1), 1) := dk_of ((dk_bind (dk_u1 (h 0 _ rfl))).trans rfl)
theorem dk_3 {code : ByteArray} {pc : Nat} (h : DkAt code pc [3]) : decode code pc = .ok (.iconst 0, 1) := dk_of ((dk_bind (dk_u1 (h 0 _ rfl))).trans rfl)
theorem dk_4 {code : ByteArray} {pc : Nat} (h : DkAt code pc [4]) : decode code pc = .ok (.iconst 1, 1) := dk_of ((dk_bind (dk_u1 (h 0 _ rfl))).trans rfl)
theorem dk_5 {code : ByteArray} {pc : Nat} (h : DkAt code pc [5]) : decode code pc = .ok (.iconst 2, 1) := dk_of ((dk_bind (dk_u1 (h 0 _ rfl))).trans rfl)
theorem dk_6 {code : ByteArray} {pc : Nat} (h : DkAt code pc [6]) : decode code pc = .ok (.iconst 3, 1) := dk_of ((dk_bind (dk_u1 (h 0 _ rfl))).trans rfl)
theorem dk_7 {code : ByteArray} {pc : Nat} (h : DkAt code pc [7]) : decode code pc = .ok (.iconst 4, 1) := dk_of ((dk_bind (dk_u1 (h 0 _ rfl))).trans rfl)
theorem dk_9 {code : ByteArray} {pc : Nat} (h : DkAt code pc [9]) : decode code pc = .ok (.lconst 0, 1) := dk_of ((dk_bind (dk_u1 (h 0 _ rfl))).trans rfl)
theorem dk_10 {code : ByteArray} {pc : Nat} (h : DkAt code pc [10]) : decode code pc = .ok (.lconst 1, 1) := dk_of ((dk_bind (dk_u1 (h 0 _ rfl))).trans rfl)
theorem dk_16 {code : ByteArray} {pc : Nat} (a : UInt8) (h : DkAt code pc [16, a]) : decode code pc = .ok (.bipush (Reader.signed 8 a.toNat), 2) := dk_of ((dk_bind (dk_u1 (h 0 _ rfl))).trans ((dk_bind (dk_map (dk_u1 (h 1 _ rfl)))).trans rfl))
theorem dk_18 {code : ByteArray} {pc : Nat} (a : UInt8) (h : DkAt code pc [18, a]) : decode code pc = .ok (.ldc a.toNat, 2) := dk_of ((dk_bind (dk_u1 (h 0 _ rfl))).trans ((dk_bind (dk_u1 (h 1 _ rfl))).trans rfl))
theorem dk_20 {code : ByteArray} {pc : Nat} (a b : UInt8) (h : DkAt code pc [20, a, b]) : decode code pc = .ok (.ldc2_w (a.toNat * 256 + b.toNat), 3) := dk_of ((dk_bind (dk_u1 (h 0 _ rfl))).trans ((dk_bind (dk_u2 (h 1 _ rfl) (h 2 _ rfl))).trans rfl))
theorem dk_21 {code : ByteArray} {pc : Nat} (a : UInt8) (h : DkAt code pc [21, a]) : decode code pc = .ok (.iload a.toNat, 2) := dk_of ((dk_bind (dk_u1 (h 0 _ rfl))).trans ((dk_bind (dk_u1 (h 1 _ rfl))).trans rfl))
theorem dk_22 {code : ByteArray} {pc : Nat} (a : UInt8) (h : DkAt code pc [22, a]) : decode code pc = .ok (.lload a.toNat, 2) := dk_of ((dk_bind (dk_u1 (h 0 _ rfl))).trans ((dk_bind (dk_u1 (h 1 _ rfl))).trans rfl))
theorem dk_26 {code : ByteArray} {pc : Nat} (h : DkAt code pc [26]) : decode code pc = .ok (.iload_n 0, 1) := dk_of ((dk_bind (dk_u1 (h 0 _ rfl))).trans rfl)
theorem dk_27 {code : ByteArray} {pc : Nat} (h : DkAt code pc [27]) : decode code pc = .ok (.iload_n 1, 1) := dk_of ((dk_bind (dk_u1 (h 0 _ rfl))).trans rfl)
theorem dk_28 {code : ByteArray} {pc : Nat} (h : DkAt code pc [28]) : decode code pc = .ok (.iload_n 2, 1) := dk_of ((dk_bind (dk_u1 (h 0 _ rfl))).trans rfl)
theorem dk_29 {code : ByteArray} {pc : Nat} (h : DkAt code pc [29]) : decode code pc = .ok (.iload_n 3, 1) := dk_of ((dk_bind (dk_u1 (h 0 _ rfl))).trans rfl)
theorem dk_30 {code : ByteArray} {pc : Nat} (h : DkAt code pc [30]) : decode code pc = .ok (.lload_n 0, 1) := dk_of ((dk_bind (dk_u1 (h 0 _ rfl))).trans rfl)
theorem dk_31 {code : ByteArray} {pc : Nat} (h : DkAt code pc [31]) : decode code pc = .ok (.lload_n 1, 1) := dk_of ((dk_bind (dk_u1 (h 0 _ rfl))).trans rfl)
theorem dk_32 {code : ByteArray} {pc : Nat} (h : DkAt code pc [32]) : decode code pc = .ok (.lload_n 2, 1) := dk_of ((dk_bind (dk_u1 (h 0 _ rfl))).trans rfl)
theorem dk_33 {code : ByteArray} {pc : Nat} (h : DkAt code pc [33]) : decode code pc = .ok (.lload_n 3, 1) := dk_of ((dk_bind (dk_u1 (h 0 _ rfl))).trans rfl)
theorem dk_42 {code : ByteArray} {pc : Nat} (h : DkAt code pc [42]) : decode code pc = .ok (.aload_n 0, 1) := dk_of ((dk_bind (dk_u1 (h 0 _ rfl))).trans rfl)
theorem dk_43 {code : ByteArray} {pc : Nat} (h : DkAt code pc [43]) : decode code pc = .ok (.aload_n 1, 1) := dk_of ((dk_bind (dk_u1 (h 0 _ rfl))).trans rfl)
theorem dk_44 {code : ByteArray} {pc : Nat} (h : DkAt code pc [44]) : decode code pc = .ok (.aload_n 2, 1) := dk_of ((dk_bind (dk_u1 (h 0 _ rfl))).trans rfl)
theorem dk_46 {code : ByteArray} {pc : Nat} (h : DkAt code pc [46]) : decode code pc = .ok (.iaload, 1) := dk_of ((dk_bind (dk_u1 (h 0 _ rfl))).trans rfl)
theorem dk_54 {code : ByteArray} {pc : Nat} (a : UInt8) (h : DkAt code pc [54, a]) : decode code pc = .ok (.istore a.toNat, 2) := dk_of ((dk_bind (dk_u1 (h 0 _ rfl))).trans ((dk_bind (dk_u1 (h 1 _ rfl))).trans rfl))
theorem dk_55 {code : ByteArray} {pc : Nat} (a : UInt8) (h : DkAt code pc [55, a]) : decode code pc = .ok (.lstore a.toNat, 2) := dk_of ((dk_bind (dk_u1 (h 0 _ rfl))).trans ((dk_bind (dk_u1 (h 1 _ rfl))).trans rfl))
theorem dk_62 {code : ByteArray} {pc : Nat} (h : DkAt code pc [62]) : decode code pc = .ok (.istore_n 3, 1) := dk_of ((dk_bind (dk_u1 (h 0 _ rfl))).trans rfl)
theorem dk_65 {code : ByteArray} {pc : Nat} (h : DkAt code pc [65]) : decode code pc = .ok (.lstore_n 2, 1) := dk_of ((dk_bind (dk_u1 (h 0 _ rfl))).trans rfl)
theorem dk_76 {code : ByteArray} {pc : Nat} (h : DkAt code pc [76]) : decode code pc = .ok (.astore_n 1, 1) := dk_of ((dk_bind (dk_u1 (h 0 _ rfl))).trans rfl)
theorem dk_77 {code : ByteArray} {pc : Nat} (h : DkAt code pc [77]) : decode code pc = .ok (.astore_n 2, 1) := dk_of ((dk_bind (dk_u1 (h 0 _ rfl))).trans rfl)
theorem dk_89 {code : ByteArray} {pc : Nat} (h : DkAt code pc [89]) : decode code pc = .ok (.dup, 1) := dk_of ((dk_bind (dk_u1 (h 0 _ rfl))).trans rfl)
theorem dk_96 {code : ByteArray} {pc : Nat} (h : DkAt code pc [96]) : decode code pc = .ok (.iadd, 1) := dk_of ((dk_bind (dk_u1 (h 0 _ rfl))).trans rfl)
theorem dk_97 {code : ByteArray} {pc : Nat} (h : DkAt code pc [97]) : decode code pc = .ok (.ladd, 1) := dk_of ((dk_bind (dk_u1 (h 0 _ rfl))).trans rfl)
theorem dk_100 {code : ByteArray} {pc : Nat} (h : DkAt code pc [100]) : decode code pc = .ok (.isub, 1) := dk_of ((dk_bind (dk_u1 (h 0 _ rfl))).trans rfl)
theorem dk_101 {code : ByteArray} {pc : Nat} (h : DkAt code pc [101]) : decode code pc = .ok (.lsub, 1) := dk_of ((dk_bind (dk_u1 (h 0 _ rfl))).trans rfl)
theorem dk_105 {code : ByteArray} {pc : Nat} (h : DkAt code pc [105]) : decode code pc = .ok (.lmul, 1) := dk_of ((dk_bind (dk_u1 (h 0 _ rfl))).trans rfl)
theorem dk_108 {code : ByteArray} {pc : Nat} (h : DkAt code pc [108]) : decode code pc = .ok (.idiv, 1) := dk_of ((dk_bind (dk_u1 (h 0 _ rfl))).trans rfl)
theorem dk_109 {code : ByteArray} {pc : Nat} (h : DkAt code pc [109]) : decode code pc = .ok (.ldiv, 1) := dk_of ((dk_bind (dk_u1 (h 0 _ rfl))).trans rfl)
theorem dk_112 {code : ByteArray} {pc : Nat} (h : DkAt code pc [112]) : decode code pc = .ok (.irem, 1) := dk_of ((dk_bind (dk_u1 (h 0 _ rfl))).trans rfl)
theorem dk_113 {code : ByteArray} {pc : Nat} (h : DkAt code pc [113]) : decode code pc = .ok (.lrem, 1) := dk_of ((dk_bind (dk_u1 (h 0 _ rfl))).trans rfl)
theorem dk_121 {code : ByteArray} {pc : Nat} (h : DkAt code pc [121]) : decode code pc = .ok (.lshl, 1) := dk_of ((dk_bind (dk_u1 (h 0 _ rfl))).trans rfl)
theorem dk_126 {code : ByteArray} {pc : Nat} (h : DkAt code pc [126]) : decode code pc = .ok (.iand, 1) := dk_of ((dk_bind (dk_u1 (h 0 _ rfl))).trans rfl)
theorem dk_127 {code : ByteArray} {pc : Nat} (h : DkAt code pc [127]) : decode code pc = .ok (.land, 1) := dk_of ((dk_bind (dk_u1 (h 0 _ rfl))).trans rfl)
theorem dk_129 {code : ByteArray} {pc : Nat} (h : DkAt code pc [129]) : decode code pc = .ok (.lor, 1) := dk_of ((dk_bind (dk_u1 (h 0 _ rfl))).trans rfl)
theorem dk_132 {code : ByteArray} {pc : Nat} (a b : UInt8) (h : DkAt code pc [132, a, b]) : decode code pc = .ok (.iinc a.toNat (Reader.signed 8 b.toNat), 3) := dk_of ((dk_bind (dk_u1 (h 0 _ rfl))).trans ((dk_bind (dk_u1 (h 1 _ rfl))).trans ((dk_bind (dk_map (dk_u1 (h 2 _ rfl)))).trans rfl)))
theorem dk_133 {code : ByteArray} {pc : Nat} (h : DkAt code pc [133]) : decode code pc = .ok (.i2l, 1) := dk_of ((dk_bind (dk_u1 (h 0 _ rfl))).trans rfl)
theorem dk_136 {code : ByteArray} {pc : Nat} (h : DkAt code pc [136]) : decode code pc = .ok (.l2i, 1) := dk_of ((dk_bind (dk_u1 (h 0 _ rfl))).trans rfl)
theorem dk_148 {code : ByteArray} {pc : Nat} (h : DkAt code pc [148]) : decode code pc = .ok (.lcmp, 1) := dk_of ((dk_bind (dk_u1 (h 0 _ rfl))).trans rfl)
theorem dk_153 {code : ByteArray} {pc : Nat} (a b : UInt8) (h : DkAt code pc [153, a, b]) : decode code pc = .ok (.ifCond .eq (Reader.signed 16 (a.toNat * 256 + b.toNat)), 3) := dk_of ((dk_bind (dk_u1 (h 0 _ rfl))).trans ((dk_bind (dk_map (dk_u2 (h 1 _ rfl) (h 2 _ rfl)))).trans rfl))
theorem dk_154 {code : ByteArray} {pc : Nat} (a b : UInt8) (h : DkAt code pc [154, a, b]) : decode code pc = .ok (.ifCond .ne (Reader.signed 16 (a.toNat * 256 + b.toNat)), 3) := dk_of ((dk_bind (dk_u1 (h 0 _ rfl))).trans ((dk_bind (dk_map (dk_u2 (h 1 _ rfl) (h 2 _ rfl)))).trans rfl))
theorem dk_155 {code : ByteArray} {pc : Nat} (a b : UInt8) (h : DkAt code pc [155, a, b]) : decode code pc = .ok (.ifCond .lt (Reader.signed 16 (a.toNat * 256 + b.toNat)), 3) := dk_of ((dk_bind (dk_u1 (h 0 _ rfl))).trans ((dk_bind (dk_map (dk_u2 (h 1 _ rfl) (h 2 _ rfl)))).trans rfl))
theorem dk_156 {code : ByteArray} {pc : Nat} (a b : UInt8) (h : DkAt code pc [156, a, b]) : decode code pc = .ok (.ifCond .ge (Reader.signed 16 (a.toNat * 256 + b.toNat)), 3) := dk_of ((dk_bind (dk_u1 (h 0 _ rfl))).trans ((dk_bind (dk_map (dk_u2 (h 1 _ rfl) (h 2 _ rfl)))).trans rfl))
theorem dk_158 {code : ByteArray} {pc : Nat} (a b : UInt8) (h : DkAt code pc [158, a, b]) : decode code pc = .ok (.ifCond .le (Reader.signed 16 (a.toNat * 256 + b.toNat)), 3) := dk_of ((dk_bind (dk_u1 (h 0 _ rfl))).trans ((dk_bind (dk_map (dk_u2 (h 1 _ rfl) (h 2 _ rfl)))).trans rfl))
theorem dk_159 {code : ByteArray} {pc : Nat} (a b : UInt8) (h : DkAt code pc [159, a, b]) : decode code pc = .ok (.if_icmp .eq (Reader.signed 16 (a.toNat * 256 + b.toNat)), 3) := dk_of ((dk_bind (dk_u1 (h 0 _ rfl))).trans ((dk_bind (dk_map (dk_u2 (h 1 _ rfl) (h 2 _ rfl)))).trans rfl))
theorem dk_162 {code : ByteArray} {pc : Nat} (a b : UInt8) (h : DkAt code pc [162, a, b]) : decode code pc = .ok (.if_icmp .ge (Reader.signed 16 (a.toNat * 256 + b.toNat)), 3) := dk_of ((dk_bind (dk_u1 (h 0 _ rfl))).trans ((dk_bind (dk_map (dk_u2 (h 1 _ rfl) (h 2 _ rfl)))).trans rfl))
theorem dk_163 {code : ByteArray} {pc : Nat} (a b : UInt8) (h : DkAt code pc [163, a, b]) : decode code pc = .ok (.if_icmp .gt (Reader.signed 16 (a.toNat * 256 + b.toNat)), 3) := dk_of ((dk_bind (dk_u1 (h 0 _ rfl))).trans ((dk_bind (dk_map (dk_u2 (h 1 _ rfl) (h 2 _ rfl)))).trans rfl))
theorem dk_164 {code : ByteArray} {pc : Nat} (a b : UInt8) (h : DkAt code pc [164, a, b]) : decode code pc = .ok (.if_icmp .le (Reader.signed 16 (a.toNat * 256 + b.toNat)), 3) := dk_of ((dk_bind (dk_u1 (h 0 _ rfl))).trans ((dk_bind (dk_map (dk_u2 (h 1 _ rfl) (h 2 _ rfl)))).trans rfl))
theorem dk_167 {code : ByteArray} {pc : Nat} (a b : UInt8) (h : DkAt code pc [167, a, b]) : decode code pc = .ok (.goto (Reader.signed 16 (a.toNat * 256 + b.toNat)), 3) := dk_of ((dk_bind (dk_u1 (h 0 _ rfl))).trans ((dk_bind (dk_map (dk_u2 (h 1 _ rfl) (h 2 _ rfl)))).trans rfl))
theorem dk_172 {code : ByteArray} {pc : Nat} (h : DkAt code pc [172]) : decode code pc = .ok (.ireturn, 1) := dk_of ((dk_bind (dk_u1 (h 0 _ rfl))).trans rfl)
theorem dk_173 {code : ByteArray} {pc : Nat} (h : DkAt code pc [173]) : decode code pc = .ok (.lreturn, 1) := dk_of ((dk_bind (dk_u1 (h 0 _ rfl))).trans rfl)
theorem dk_177 {code : ByteArray} {pc : Nat} (h : DkAt code pc [177]) : decode code pc = .ok (.return_, 1) := dk_of ((dk_bind (dk_u1 (h 0 _ rfl))).trans rfl)
theorem dk_180 {code : ByteArray} {pc : Nat} (a b : UInt8) (h : DkAt code pc [180, a, b]) : decode code pc = .ok (.getfield (a.toNat * 256 + b.toNat), 3) := dk_of ((dk_bind (dk_u1 (h 0 _ rfl))).trans ((dk_bind (dk_u2 (h 1 _ rfl) (h 2 _ rfl))).trans rfl))
theorem dk_181 {code : ByteArray} {pc : Nat} (a b : UInt8) (h : DkAt code pc [181, a, b]) : decode code pc = .ok (.putfield (a.toNat * 256 + b.toNat), 3) := dk_of ((dk_bind (dk_u1 (h 0 _ rfl))).trans ((dk_bind (dk_u2 (h 1 _ rfl) (h 2 _ rfl))).trans rfl))
theorem dk_182 {code : ByteArray} {pc : Nat} (a b : UInt8) (h : DkAt code pc [182, a, b]) : decode code pc = .ok (.invokevirtual (a.toNat * 256 + b.toNat), 3) := dk_of ((dk_bind (dk_u1 (h 0 _ rfl))).trans ((dk_bind (dk_u2 (h 1 _ rfl) (h 2 _ rfl))).trans rfl))
theorem dk_183 {code : ByteArray} {pc : Nat} (a b : UInt8) (h : DkAt code pc [183, a, b]) : decode code pc = .ok (.invokespecial (a.toNat * 256 + b.toNat), 3) := dk_of ((dk_bind (dk_u1 (h 0 _ rfl))).trans ((dk_bind (dk_u2 (h 1 _ rfl) (h 2 _ rfl))).trans rfl))
theorem dk_184 {code : ByteArray} {pc : Nat} (a b : UInt8) (h : DkAt code pc [184, a, b]) : decode code pc = .ok (.invokestatic (a.toNat * 256 + b.toNat), 3) := dk_of ((dk_bind (dk_u1 (h 0 _ rfl))).trans ((dk_bind (dk_u2 (h 1 _ rfl) (h 2 _ rfl))).trans rfl))
theorem dk_187 {code : ByteArray} {pc : Nat} (a b : UInt8) (h : DkAt code pc [187, a, b]) : decode code pc = .ok (.new (a.toNat * 256 + b.toNat), 3) := dk_of ((dk_bind (dk_u1 (h 0 _ rfl))).trans ((dk_bind (dk_u2 (h 1 _ rfl) (h 2 _ rfl))).trans rfl))
theorem dk_190 {code : ByteArray} {pc : Nat} (h : DkAt code pc [190]) : decode code pc = .ok (.arraylength, 1) := dk_of ((dk_bind (dk_u1 (h 0 _ rfl))).trans rfl)
end
section
/-! java/lang/Object -/
set_option maxRecDepth 100000
def RJ0 : String := "java/lang/Object"
abbrev cJ0_init : ByteArray := object_method_1_code
def yJ0_init : MethodName := ⟨RJ0, "<init>", "()V"⟩
theorem dJ0_init_0 : decode cJ0_init 0 = .ok (.return_, 1) := by decide +kernel
theorem q11 : (Jvm.Cond.instanceMethod ({ cls := "java/lang/Object", name := "<init>", desc := "()V" } : Jvm.MethodName)) ∈ lw_all := lw_g (lw_at lw_m0 10 rfl) rfl
theorem q12 : (Jvm.Cond.code ({ cls := "java/lang/Object", name := "<init>", desc := "()V" } : Jvm.MethodName) object_method_1_code (1 : Nat) (Option.none : Option Jvm.ClassFile.FieldType)) ∈ lw_all := lw_g (lw_at lw_m0 11 rfl) rfl
/-! Jdk8Methods -/
set_option maxRecDepth 100000
def RX2 : String := "Jdk8Methods"
abbrev cX2_floorDiv : ByteArray := prog_4_method_3_code
def yX2_floorDiv : MethodName := ⟨RX2, "floorDiv", "(JJ)J"⟩
def dkwX2_floorDiv_0 : List UInt8 := [30, 9, 148, 155, 0, 9, 30, 32, 109, 167, 0, 10, 30, 10, 97, 32, 109, 10, 101, 173]
abbrev dktX2_floorDiv_0 : List UInt8 := dkwX2_floorDiv_0 ++ []
theorem dksX2_floorDiv_0 : cX2_floorDiv.data.toList.drop 0 = dktX2_floorDiv_0 := by decide +kernel
theorem dX2_floorDiv_0 : decode cX2_floorDiv 0 = .ok (.lload_n 0, 1) := dk_30 (dk_at dksX2_floorDiv_0 0 rfl rfl)
theorem dX2_floorDiv_1 : decode cX2_floorDiv 1 = .ok (.lconst 0, 1) := dk_9 (dk_at dksX2_floorDiv_0 1 rfl rfl)
theorem dX2_floorDiv_2 : decode cX2_floorDiv 2 = .ok (.lcmp, 1) := dk_148 (dk_at dksX2_floorDiv_0 2 rfl rfl)
theorem dX2_floorDiv_3 : decode cX2_floorDiv 3 = .ok (.ifCond .lt 9, 3) := dk_155 0 9 (dk_at dksX2_floorDiv_0 3 rfl rfl)
theorem dX2_floorDiv_6 : decode cX2_floorDiv 6 = .ok (.lload_n 0, 1) := dk_30 (dk_at dksX2_floorDiv_0 6 rfl rfl)
theorem dX2_floorDiv_7 : decode cX2_floorDiv 7 = .ok (.lload_n 2, 1) := dk_32 (dk_at dksX2_floorDiv_0 7 rfl rfl)
theorem dX2_floorDiv_8 : decode cX2_floorDiv 8 = .ok (.ldiv, 1) := dk_109 (dk_at dksX2_floorDiv_0 8 rfl rfl)
theorem dX2_floorDiv_9 : decode cX2_floorDiv 9 = .ok (.goto 10, 3) := dk_167 0 10 (dk_at dksX2_floorDiv_0 9 rfl rfl)
theorem dX2_floorDiv_12 : decode cX2_floorDiv 12 = .ok (.lload_n 0, 1) := dk_30 (dk_at dksX2_floorDiv_0 12 rfl rfl)
theorem dX2_floorDiv_13 : decode cX2_floorDiv 13 = .ok (.lconst 1, 1) := dk_10 (dk_at dksX2_floorDiv_0 13 rfl rfl)
theorem dX2_floorDiv_14 : decode cX2_floorDiv 14 = .ok (.ladd, 1) := dk_97 (dk_at dksX2_floorDiv_0 14 rfl rfl)
theorem dX2_floorDiv_15 : decode cX2_floorDiv 15 = .ok (.lload_n 2, 1) := dk_32 (dk_at dksX2_floorDiv_0 15 rfl rfl)
theorem dX2_floorDiv_16 : decode cX2_floorDiv 16 = .ok (.ldiv, 1) := dk_109 (dk_at dksX2_floorDiv_0 16 rfl rfl)
theorem dX2_floorDiv_17 : decode cX2_floorDiv 17 = .ok (.lconst 1, 1) := dk_10 (dk_at dksX2_floorDiv_0 17 rfl rfl)
theorem dX2_floorDiv_18 : decode cX2_floorDiv 18 = .ok (.lsub, 1) := dk_101 (dk_at dksX2_floorDiv_0 18 rfl rfl)
theorem dX2_floorDiv_19 : decode cX2_floorDiv 19 = .ok (.lreturn, 1) := dk_173 (dk_at dksX2_floorDiv_0 19 rfl rfl)
abbrev cX2_floorMod : ByteArray := prog_4_method_4_code
def yX2_floorMod : MethodName := ⟨RX2, "floorMod", "(JJ)J"⟩
def dkwX2_floorMod_0 : List UInt8 := [30, 32, 113, 32, 97, 32, 113, 173]
abbrev dktX2_floorMod_0 : List UInt8 := dkwX2_floorMod_0 ++ []
theorem dksX2_floorMod_0 : cX2_floorMod.data.toList.drop 0 = dktX2_floorMod_0 := by decide +kernel
theorem dX2_floorMod_0 : decode cX2_floorMod 0 = .ok (.lload_n 0, 1) := dk_30 (dk_at dksX2_floorMod_0 0 rfl rfl)
theorem dX2_floorMod_1 : decode cX2_floorMod 1 = .ok (.lload_n 2, 1) := dk_32 (dk_at dksX2_floorMod_0 1 rfl rfl)
theorem dX2_floorMod_2 : decode cX2_floorMod 2 = .ok (.lrem, 1) := dk_113 (dk_at dksX2_floorMod_0 2 rfl rfl)
theorem dX2_floorMod_3 : decode cX2_floorMod 3 = .ok (.lload_n 2, 1) := dk_32 (dk_at dksX2_floorMod_0 3 rfl rfl)
theorem dX2_floorMod_4 : decode cX2_floorMod 4 = .ok (.ladd, 1) := dk_97 (dk_at dksX2_floorMod_0 4 rfl rfl)
theorem dX2_floorMod_5 : decode cX2_floorMod 5 = .ok (.lload_n 2, 1) := dk_32 (dk_at dksX2_floorMod_0 5 rfl rfl)
theorem dX2_floorMod_6 : decode cX2_floorMod 6 = .ok (.lrem, 1) := dk_113 (dk_at dksX2_floorMod_0 6 rfl rfl)
theorem dX2_floorMod_7 : decode cX2_floorMod 7 = .ok (.lreturn, 1) := dk_173 (dk_at dksX2_floorMod_0 7 rfl rfl)
abbrev cX2_floorMod_2 : ByteArray := prog_4_method_5_code
def yX2_floorMod_2 : MethodName := ⟨RX2, "floorMod", "(JI)I"⟩
def dkwX2_floorMod_2_0 : List UInt8 := [30, 28, 133, 113, 28, 133, 97, 28, 133, 113, 136, 172]
abbrev dktX2_floorMod_2_0 : List UInt8 := dkwX2_floorMod_2_0 ++ []
theorem dksX2_floorMod_2_0 : cX2_floorMod_2.data.toList.drop 0 = dktX2_floorMod_2_0 := by decide +kernel
theorem dX2_floorMod_2_0 : decode cX2_floorMod_2 0 = .ok (.lload_n 0, 1) := dk_30 (dk_at dksX2_floorMod_2_0 0 rfl rfl)
theorem dX2_floorMod_2_1 : decode cX2_floorMod_2 1 = .ok (.iload_n 2, 1) := dk_28 (dk_at dksX2_floorMod_2_0 1 rfl rfl)
theorem dX2_floorMod_2_2 : decode cX2_floorMod_2 2 = .ok (.i2l, 1) := dk_133 (dk_at dksX2_floorMod_2_0 2 rfl rfl)
theorem dX2_floorMod_2_3 : decode cX2_floorMod_2 3 = .ok (.lrem, 1) := dk_113 (dk_at dksX2_floorMod_2_0 3 rfl rfl)
theorem dX2_floorMod_2_4 : decode cX2_floorMod_2 4 = .ok (.iload_n 2, 1) := dk_28 (dk_at dksX2_floorMod_2_0 4 rfl rfl)
theorem dX2_floorMod_2_5 : decode cX2_floorMod_2 5 = .ok (.i2l, 1) := dk_133 (dk_at dksX2_floorMod_2_0 5 rfl rfl)
theorem dX2_floorMod_2_6 : decode cX2_floorMod_2 6 = .ok (.ladd, 1) := dk_97 (dk_at dksX2_floorMod_2_0 6 rfl rfl)
theorem dX2_floorMod_2_7 : decode cX2_floorMod_2 7 = .ok (.iload_n 2, 1) := dk_28 (dk_at dksX2_floorMod_2_0 7 rfl rfl)
theorem dX2_floorMod_2_8 : decode cX2_floorMod_2 8 = .ok (.i2l, 1) := dk_133 (dk_at dksX2_floorMod_2_0 8 rfl rfl)
theorem dX2_floorMod_2_9 : decode cX2_floorMod_2 9 = .ok (.lrem, 1) := dk_113 (dk_at dksX2_floorMod_2_0 9 rfl rfl)
theorem dX2_floorMod_2_10 : decode cX2_floorMod_2 10 = .ok (.l2i, 1) := dk_136 (dk_at dksX2_floorMod_2_0 10 rfl rfl)
theorem dX2_floorMod_2_11 : decode cX2_floorMod_2 11 = .ok (.ireturn, 1) := dk_172 (dk_at dksX2_floorMod_2_0 11 rfl rfl)
abbrev cX2_floorDiv_2 : ByteArray := prog_4_method_6_code
def yX2_floorDiv_2 : MethodName := ⟨RX2, "floorDiv", "(II)I"⟩
def dkwX2_floorDiv_2_0 : List UInt8 := [26, 155, 0, 9, 26, 27, 108, 167, 0, 10, 26, 4, 96, 27, 108, 4, 100, 172]
abbrev dktX2_floorDiv_2_0 : List UInt8 := dkwX2_floorDiv_2_0 ++ []
theorem dksX2_floorDiv_2_0 : cX2_floorDiv_2.data.toList.drop 0 = dktX2_floorDiv_2_0 := by decide +kernel
theorem dX2_floorDiv_2_0 : decode cX2_floorDiv_2 0 = .ok (.iload_n 0, 1) := dk_26 (dk_at dksX2_floorDiv_2_0 0 rfl rfl)
theorem dX2_floorDiv_2_1 : decode cX2_floorDiv_2 1 = .ok (.ifCond .lt 9, 3) := dk_155 0 9 (dk_at dksX2_floorDiv_2_0 1 rfl rfl)
theorem dX2_floorDiv_2_4 : decode cX2_floorDiv_2 4 = .ok (.iload_n 0, 1) := dk_26 (dk_at dksX2_floorDiv_2_0 4 rfl rfl)
theorem dX2_floorDiv_2_5 : decode cX2_floorDiv_2 5 = .ok (.iload_n 1, 1) := dk_27 (dk_at dksX2_floorDiv_2_0 5 rfl rfl)
theorem dX2_floorDiv_2_6 : decode cX2_floorDiv_2 6 = .ok (.idiv, 1) := dk_108 (dk_at dksX2_floorDiv_2_0 6 rfl rfl)
theorem dX2_floorDiv_2_7 : decode cX2_floorDiv_2 7 = .ok (.goto 10, 3) := dk_167 0 10 (dk_at dksX2_floorDiv_2_0 7 rfl rfl)
theorem dX2_floorDiv_2_10 : decode cX2_floorDiv_2 10 = .ok (.iload_n 0, 1) := dk_26 (dk_at dksX2_floorDiv_2_0 10 rfl rfl)
theorem dX2_floorDiv_2_11 : decode cX2_floorDiv_2 11 = .ok (.iconst 1, 1) := dk_4 (dk_at dksX2_floorDiv_2_0 11 rfl rfl)
theorem dX2_floorDiv_2_12 : decode cX2_floorDiv_2 12 = .ok (.iadd, 1) := dk_96 (dk_at dksX2_floorDiv_2_0 12 rfl rfl)
theorem dX2_floorDiv_2_13 : decode cX2_floorDiv_2 13 = .ok (.iload_n 1, 1) := dk_27 (dk_at dksX2_floorDiv_2_0 13 rfl rfl)
theorem dX2_floorDiv_2_14 : decode cX2_floorDiv_2 14 = .ok (.idiv, 1) := dk_108 (dk_at dksX2_floorDiv_2_0 14 rfl rfl)
theorem dX2_floorDiv_2_15 : decode cX2_floorDiv_2 15 = .ok (.iconst 1, 1) := dk_4 (dk_at dksX2_floorDiv_2_0 15 rfl rfl)
theorem dX2_floorDiv_2_16 : decode cX2_floorDiv_2 16 = .ok (.isub, 1) := dk_100 (dk_at dksX2_floorDiv_2_0 16 rfl rfl)
theorem dX2_floorDiv_2_17 : decode cX2_floorDiv_2 17 = .ok (.ireturn, 1) := dk_172 (dk_at dksX2_floorDiv_2_0 17 rfl rfl)
abbrev cX2_floorMod_3 : ByteArray := prog_4_method_7_code
def yX2_floorMod_3 : MethodName := ⟨RX2, "floorMod", "(II)I"⟩
def dkwX2_floorMod_3_0 : List UInt8 := [26, 27, 112, 27, 96, 27, 112, 172]
abbrev dktX2_floorMod_3_0 : List UInt8 := dkwX2_floorMod_3_0 ++ []
theorem dksX2_floorMod_3_0 : cX2_floorMod_3.data.toList.drop 0 = dktX2_floorMod_3_0 := by decide +kernel
theorem dX2_floorMod_3_0 : decode cX2_floorMod_3 0 = .ok (.iload_n 0, 1) := dk_26 (dk_at dksX2_floorMod_3_0 0 rfl rfl)
theorem dX2_floorMod_3_1 : decode cX2_floorMod_3 1 = .ok (.iload_n 1, 1) := dk_27 (dk_at dksX2_floorMod_3_0 1 rfl rfl)
theorem dX2_floorMod_3_2 : decode cX2_floorMod_3 2 = .ok (.irem, 1) := dk_112 (dk_at dksX2_floorMod_3_0 2 rfl rfl)
theorem dX2_floorMod_3_3 : decode cX2_floorMod_3 3 = .ok (.iload_n 1, 1) := dk_27 (dk_at dksX2_floorMod_3_0 3 rfl rfl)
theorem dX2_floorMod_3_4 : decode cX2_floorMod_3 4 = .ok (.iadd, 1) := dk_96 (dk_at dksX2_floorMod_3_0 4 rfl rfl)
theorem dX2_floorMod_3_5 : decode cX2_floorMod_3 5 = .ok (.iload_n 1, 1) := dk_27 (dk_at dksX2_floorMod_3_0 5 rfl rfl)
theorem dX2_floorMod_3_6 : decode cX2_floorMod_3 6 = .ok (.irem, 1) := dk_112 (dk_at dksX2_floorMod_3_0 6 rfl rfl)
theorem dX2_floorMod_3_7 : decode cX2_floorMod_3 7 = .ok (.ireturn, 1) := dk_172 (dk_at dksX2_floorMod_3_0 7 rfl rfl)
abbrev cX2_compareInts : ByteArray := prog_4_method_1_code
def yX2_compareInts : MethodName := ⟨RX2, "compareInts", "(II)I"⟩
def dkwX2_compareInts_0 : List UInt8 := [26, 27, 162, 0, 5, 2, 172, 26, 27, 164, 0, 5, 4, 172, 3, 172]
abbrev dktX2_compareInts_0 : List UInt8 := dkwX2_compareInts_0 ++ []
theorem dksX2_compareInts_0 : cX2_compareInts.data.toList.drop 0 = dktX2_compareInts_0 := by decide +kernel
theorem dX2_compareInts_0 : decode cX2_compareInts 0 = .ok (.iload_n 0, 1) := dk_26 (dk_at dksX2_compareInts_0 0 rfl rfl)
theorem dX2_compareInts_1 : decode cX2_compareInts 1 = .ok (.iload_n 1, 1) := dk_27 (dk_at dksX2_compareInts_0 1 rfl rfl)
theorem dX2_compareInts_2 : decode cX2_compareInts 2 = .ok (.if_icmp .ge 5, 3) := dk_162 0 5 (dk_at dksX2_compareInts_0 2 rfl rfl)
theorem dX2_compareInts_5 : decode cX2_compareInts 5 = .ok (.iconst (-1), 1) := dk_2 (dk_at dksX2_compareInts_0 5 rfl rfl)
theorem dX2_compareInts_6 : decode cX2_compareInts 6 = .ok (.ireturn, 1) := dk_172 (dk_at dksX2_compareInts_0 6 rfl rfl)
theorem dX2_compareInts_7 : decode cX2_compareInts 7 = .ok (.iload_n 0, 1) := dk_26 (dk_at dksX2_compareInts_0 7 rfl rfl)
theorem dX2_compareInts_8 : decode cX2_compareInts 8 = .ok (.iload_n 1, 1) := dk_27 (dk_at dksX2_compareInts_0 8 rfl rfl)
theorem dX2_compareInts_9 : decode cX2_compareInts 9 = .ok (.if_icmp .le 5, 3) := dk_164 0 5 (dk_at dksX2_compareInts_0 9 rfl rfl)
theorem dX2_compareInts_12 : decode cX2_compareInts 12 = .ok (.iconst 1, 1) := dk_4 (dk_at dksX2_compareInts_0 12 rfl rfl)
theorem dX2_compareInts_13 : decode cX2_compareInts 13 = .ok (.ireturn, 1) := dk_172 (dk_at dksX2_compareInts_0 13 rfl rfl)
theorem dX2_compareInts_14 : decode cX2_compareInts 14 = .ok (.iconst 0, 1) := dk_3 (dk_at dksX2_compareInts_0 14 rfl rfl)
theorem dX2_compareInts_15 : decode cX2_compareInts 15 = .ok (.ireturn, 1) := dk_172 (dk_at dksX2_compareInts_0 15 rfl rfl)
abbrev cX2_compareLongs : ByteArray := prog_4_method_2_code
def yX2_compareLongs : MethodName := ⟨RX2, "compareLongs", "(JJ)I"⟩
def dkwX2_compareLongs_0 : List UInt8 := [30, 32, 148, 156, 0, 5, 2, 172, 30, 32, 148, 158, 0, 5, 4, 172, 3, 172]
abbrev dktX2_compareLongs_0 : List UInt8 := dkwX2_compareLongs_0 ++ []
theorem dksX2_compareLongs_0 : cX2_compareLongs.data.toList.drop 0 = dktX2_compareLongs_0 := by decide +kernel
theorem dX2_compareLongs_0 : decode cX2_compareLongs 0 = .ok (.lload_n 0, 1) := dk_30 (dk_at dksX2_compareLongs_0 0 rfl rfl)
theorem dX2_compareLongs_1 : decode cX2_compareLongs 1 = .ok (.lload_n 2, 1) := dk_32 (dk_at dksX2_compareLongs_0 1 rfl rfl)
theorem dX2_compareLongs_2 : decode cX2_compareLongs 2 = .ok (.lcmp, 1) := dk_148 (dk_at dksX2_compareLongs_0 2 rfl rfl)
theorem dX2_compareLongs_3 : decode cX2_compareLongs 3 = .ok (.ifCond .ge 5, 3) := dk_156 0 5 (dk_at dksX2_compareLongs_0 3 rfl rfl)
theorem dX2_compareLongs_6 : decode cX2_compareLongs 6 = .ok (.iconst (-1), 1) := dk_2 (dk_at dksX2_compareLongs_0 6 rfl rfl)
theorem dX2_compareLongs_7 : decode cX2_compareLongs 7 = .ok (.ireturn, 1) := dk_172 (dk_at dksX2_compareLongs_0 7 rfl rfl)
theorem dX2_compareLongs_8 : decode cX2_compareLongs 8 = .ok (.lload_n 0, 1) := dk_30 (dk_at dksX2_compareLongs_0 8 rfl rfl)
theorem dX2_compareLongs_9 : decode cX2_compareLongs 9 = .ok (.lload_n 2, 1) := dk_32 (dk_at dksX2_compareLongs_0 9 rfl rfl)
theorem dX2_compareLongs_10 : decode cX2_compareLongs 10 = .ok (.lcmp, 1) := dk_148 (dk_at dksX2_compareLongs_0 10 rfl rfl)
theorem dX2_compareLongs_11 : decode cX2_compareLongs 11 = .ok (.ifCond .le 5, 3) := dk_158 0 5 (dk_at dksX2_compareLongs_0 11 rfl rfl)
theorem dX2_compareLongs_14 : decode cX2_compareLongs 14 = .ok (.iconst 1, 1) := dk_4 (dk_at dksX2_compareLongs_0 14 rfl rfl)
theorem dX2_compareLongs_15 : decode cX2_compareLongs 15 = .ok (.ireturn, 1) := dk_172 (dk_at dksX2_compareLongs_0 15 rfl rfl)
theorem dX2_compareLongs_16 : decode cX2_compareLongs 16 = .ok (.iconst 0, 1) := dk_3 (dk_at dksX2_compareLongs_0 16 rfl rfl)
theorem dX2_compareLongs_17 : decode cX2_compareLongs 17 = .ok (.ireturn, 1) := dk_172 (dk_at dksX2_compareLongs_0 17 rfl rfl)
theorem q4 : (Jvm.Cond.initialized "Jdk8Methods") ∈ lw_all := lw_g (lw_at lw_m0 3 rfl) rfl
theorem q27 : (Jvm.Cond.static ({ cls := "Jdk8Methods", name := "floorDiv", desc := "(JJ)J" } : Jvm.MethodName)) ∈ lw_all := lw_g (lw_at lw_m0 26 rfl) rfl
theorem q28 : (Jvm.Cond.code ({ cls := "Jdk8Methods", name := "floorDiv", desc := "(JJ)J" } : Jvm.MethodName) prog_4_method_3_code (4 : Nat) (Option.some Jvm.ClassFile.FieldType.long)) ∈ lw_all := lw_g (lw_at lw_m0 27 rfl) rfl
theorem q34 : (Jvm.Cond.static ({ cls := "Jdk8Methods", name := "floorMod", desc := "(JJ)J" } : Jvm.MethodName)) ∈ lw_all := lw_g (lw_at lw_m0 33 rfl) rfl
theorem q35 : (Jvm.Cond.code ({ cls := "Jdk8Methods", name := "floorMod", desc := "(JJ)J" } : Jvm.MethodName) prog_4_method_4_code (4 : Nat) (Option.some Jvm.ClassFile.FieldType.long)) ∈ lw_all := lw_g (lw_at lw_m0 34 rfl) rfl
theorem q45 : (Jvm.Cond.static ({ cls := "Jdk8Methods", name := "floorMod", desc := "(JI)I" } : Jvm.MethodName)) ∈ lw_all := lw_g (lw_at lw_m0 44 rfl) rfl
theorem q46 : (Jvm.Cond.code ({ cls := "Jdk8Methods", name := "floorMod", desc := "(JI)I" } : Jvm.MethodName) prog_4_method_5_code (3 : Nat) (Option.some Jvm.ClassFile.FieldType.int)) ∈ lw_all := lw_g (lw_at lw_m0 45 rfl) rfl
theorem q52 : (Jvm.Cond.static ({ cls := "Jdk8Methods", name := "floorDiv", desc := "(II)I" } : Jvm.MethodName)) ∈ lw_all := lw_g (lw_at lw_m0 51 rfl) rfl
theorem q53 : (Jvm.Cond.code ({ cls := "Jdk8Methods", name := "floorDiv", desc := "(II)I" } : Jvm.MethodName) prog_4_method_6_code (2 : Nat) (Option.some Jvm.ClassFile.FieldType.int)) ∈ lw_all := lw_g (lw_at lw_m0 52 rfl) rfl
theorem q59 : (Jvm.Cond.static ({ cls := "Jdk8Methods", name := "floorMod", desc := "(II)I" } : Jvm.MethodName)) ∈ lw_all := lw_g (lw_at lw_m0 58 rfl) rfl
theorem q60 : (Jvm.Cond.code ({ cls := "Jdk8Methods", name := "floorMod", desc := "(II)I" } : Jvm.MethodName) prog_4_method_7_code (2 : Nat) (Option.some Jvm.ClassFile.FieldType.int)) ∈ lw_all := lw_g (lw_at lw_m0 59 rfl) rfl
theorem q66 : (Jvm.Cond.static ({ cls := "Jdk8Methods", name := "compareInts", desc := "(II)I" } : Jvm.MethodName)) ∈ lw_all := lw_g (lw_at lw_m0 65 rfl) rfl
theorem q67 : (Jvm.Cond.code ({ cls := "Jdk8Methods", name := "compareInts", desc := "(II)I" } : Jvm.MethodName) prog_4_method_1_code (2 : Nat) (Option.some Jvm.ClassFile.FieldType.int)) ∈ lw_all := lw_g (lw_at lw_m0 66 rfl) rfl
theorem q73 : (Jvm.Cond.static ({ cls := "Jdk8Methods", name := "compareLongs", desc := "(JJ)I" } : Jvm.MethodName)) ∈ lw_all := lw_g (lw_at lw_m0 72 rfl) rfl
theorem q74 : (Jvm.Cond.code ({ cls := "Jdk8Methods", name := "compareLongs", desc := "(JJ)I" } : Jvm.MethodName) prog_4_method_2_code (4 : Nat) (Option.some Jvm.ClassFile.FieldType.int)) ∈ lw_all := lw_g (lw_at lw_m0 73 rfl) rfl
/-! FloorDesk -/
set_option maxRecDepth 100000
def RX0 : String := "FloorDesk"
abbrev cX0_init : ByteArray := prog_1_method_1_code
def yX0_init : MethodName := ⟨RX0, "<init>", "()V"⟩
theorem dX0_init_0 : decode cX0_init 0 = .ok (.aload_n 0, 1) := by decide +kernel
theorem dX0_init_1 : decode cX0_init 1 = .ok (.invokespecial 1, 3) := by decide +kernel
theorem dX0_init_4 : decode cX0_init 4 = .ok (.return_, 1) := by decide +kernel
abbrev cX0_floorOf : ByteArray := prog_1_method_5_code
def yX0_floorOf : MethodName := ⟨RX0, "floorOf", "(IIII)J"⟩
def dkwX0_floorOf_0 : List UInt8 := [27, 28, 184, 0, 10, 29, 21, 4, 184, 0, 18, 184, 0, 21, 173]
abbrev dktX0_floorOf_0 : List UInt8 := dkwX0_floorOf_0 ++ []
theorem dksX0_floorOf_0 : cX0_floorOf.data.toList.drop 0 = dktX0_floorOf_0 := by decide +kernel
theorem dX0_floorOf_0 : decode cX0_floorOf 0 = .ok (.iload_n 1, 1) := dk_27 (dk_at dksX0_floorOf_0 0 rfl rfl)
theorem dX0_floorOf_1 : decode cX0_floorOf 1 = .ok (.iload_n 2, 1) := dk_28 (dk_at dksX0_floorOf_0 1 rfl rfl)
theorem dX0_floorOf_2 : decode cX0_floorOf 2 = .ok (.invokestatic 10, 3) := dk_184 0 10 (dk_at dksX0_floorOf_0 2 rfl rfl)
theorem dX0_floorOf_5 : decode cX0_floorOf 5 = .ok (.iload_n 3, 1) := dk_29 (dk_at dksX0_floorOf_0 5 rfl rfl)
theorem dX0_floorOf_6 : decode cX0_floorOf 6 = .ok (.iload 4, 2) := dk_21 4 (dk_at dksX0_floorOf_0 6 rfl rfl)
theorem dX0_floorOf_8 : decode cX0_floorOf 8 = .ok (.invokestatic 18, 3) := dk_184 0 18 (dk_at dksX0_floorOf_0 8 rfl rfl)
theorem dX0_floorOf_11 : decode cX0_floorOf 11 = .ok (.invokestatic 21, 3) := dk_184 0 21 (dk_at dksX0_floorOf_0 11 rfl rfl)
theorem dX0_floorOf_14 : decode cX0_floorOf 14 = .ok (.lreturn, 1) := dk_173 (dk_at dksX0_floorOf_0 14 rfl rfl)
abbrev cX0_of : ByteArray := prog_1_method_2_code
def yX0_of : MethodName := ⟨RX0, "of", "(II)J"⟩
def dkwX0_of_0 : List UInt8 := [26, 133, 16, 32, 121, 27, 133, 20, 0, 7, 127, 129, 173]
abbrev dktX0_of_0 : List UInt8 := dkwX0_of_0 ++ []
theorem dksX0_of_0 : cX0_of.data.toList.drop 0 = dktX0_of_0 := by decide +kernel
theorem dX0_of_0 : decode cX0_of 0 = .ok (.iload_n 0, 1) := dk_26 (dk_at dksX0_of_0 0 rfl rfl)
theorem dX0_of_1 : decode cX0_of 1 = .ok (.i2l, 1) := dk_133 (dk_at dksX0_of_0 1 rfl rfl)
theorem dX0_of_2 : decode cX0_of 2 = .ok (.bipush 32, 2) := dk_16 32 (dk_at dksX0_of_0 2 rfl rfl)
theorem dX0_of_4 : decode cX0_of 4 = .ok (.lshl, 1) := dk_121 (dk_at dksX0_of_0 4 rfl rfl)
theorem dX0_of_5 : decode cX0_of 5 = .ok (.iload_n 1, 1) := dk_27 (dk_at dksX0_of_0 5 rfl rfl)
theorem dX0_of_6 : decode cX0_of 6 = .ok (.i2l, 1) := dk_133 (dk_at dksX0_of_0 6 rfl rfl)
theorem dX0_of_7 : decode cX0_of 7 = .ok (.ldc2_w 7, 3) := dk_20 0 7 (dk_at dksX0_of_0 7 rfl rfl)
theorem dX0_of_10 : decode cX0_of 10 = .ok (.land, 1) := dk_127 (dk_at dksX0_of_0 10 rfl rfl)
theorem dX0_of_11 : decode cX0_of 11 = .ok (.lor, 1) := dk_129 (dk_at dksX0_of_0 11 rfl rfl)
theorem dX0_of_12 : decode cX0_of 12 = .ok (.lreturn, 1) := dk_173 (dk_at dksX0_of_0 12 rfl rfl)
abbrev cX0_partOf : ByteArray := prog_1_method_4_code
def yX0_partOf : MethodName := ⟨RX0, "partOf", "(II)J"⟩
def dkwX0_partOf_0 : List UInt8 := [10, 26, 27, 184, 0, 10, 20, 0, 16, 127, 97, 173]
abbrev dktX0_partOf_0 : List UInt8 := dkwX0_partOf_0 ++ []
theorem dksX0_partOf_0 : cX0_partOf.data.toList.drop 0 = dktX0_partOf_0 := by decide +kernel
theorem dX0_partOf_0 : decode cX0_partOf 0 = .ok (.lconst 1, 1) := dk_10 (dk_at dksX0_partOf_0 0 rfl rfl)
theorem dX0_partOf_1 : decode cX0_partOf 1 = .ok (.iload_n 0, 1) := dk_26 (dk_at dksX0_partOf_0 1 rfl rfl)
theorem dX0_partOf_2 : decode cX0_partOf 2 = .ok (.iload_n 1, 1) := dk_27 (dk_at dksX0_partOf_0 2 rfl rfl)
theorem dX0_partOf_3 : decode cX0_partOf 3 = .ok (.invokestatic 10, 3) := dk_184 0 10 (dk_at dksX0_partOf_0 3 rfl rfl)
theorem dX0_partOf_6 : decode cX0_partOf 6 = .ok (.ldc2_w 16, 3) := dk_20 0 16 (dk_at dksX0_partOf_0 6 rfl rfl)
theorem dX0_partOf_9 : decode cX0_partOf 9 = .ok (.land, 1) := dk_127 (dk_at dksX0_partOf_0 9 rfl rfl)
theorem dX0_partOf_10 : decode cX0_partOf 10 = .ok (.ladd, 1) := dk_97 (dk_at dksX0_partOf_0 10 rfl rfl)
theorem dX0_partOf_11 : decode cX0_partOf 11 = .ok (.lreturn, 1) := dk_173 (dk_at dksX0_partOf_0 11 rfl rfl)
abbrev cX0_restOf : ByteArray := prog_1_method_6_code
def yX0_restOf : MethodName := ⟨RX0, "restOf", "(IIII)J"⟩
def dkwX0_restOf_0 : List UInt8 := [27, 28, 184, 0, 10, 29, 21, 4, 184, 0, 18, 184, 0, 27, 173]
abbrev dktX0_restOf_0 : List UInt8 := dkwX0_restOf_0 ++ []
theorem dksX0_restOf_0 : cX0_restOf.data.toList.drop 0 = dktX0_restOf_0 := by decide +kernel
theorem dX0_restOf_0 : decode cX0_restOf 0 = .ok (.iload_n 1, 1) := dk_27 (dk_at dksX0_restOf_0 0 rfl rfl)
theorem dX0_restOf_1 : decode cX0_restOf 1 = .ok (.iload_n 2, 1) := dk_28 (dk_at dksX0_restOf_0 1 rfl rfl)
theorem dX0_restOf_2 : decode cX0_restOf 2 = .ok (.invokestatic 10, 3) := dk_184 0 10 (dk_at dksX0_restOf_0 2 rfl rfl)
theorem dX0_restOf_5 : decode cX0_restOf 5 = .ok (.iload_n 3, 1) := dk_29 (dk_at dksX0_restOf_0 5 rfl rfl)
theorem dX0_restOf_6 : decode cX0_restOf 6 = .ok (.iload 4, 2) := dk_21 4 (dk_at dksX0_restOf_0 6 rfl rfl)
theorem dX0_restOf_8 : decode cX0_restOf 8 = .ok (.invokestatic 18, 3) := dk_184 0 18 (dk_at dksX0_restOf_0 8 rfl rfl)
theorem dX0_restOf_11 : decode cX0_restOf 11 = .ok (.invokestatic 27, 3) := dk_184 0 27 (dk_at dksX0_restOf_0 11 rfl rfl)
theorem dX0_restOf_14 : decode cX0_restOf 14 = .ok (.lreturn, 1) := dk_173 (dk_at dksX0_restOf_0 14 rfl rfl)
abbrev cX0_rest : ByteArray := prog_1_method_7_code
def yX0_rest : MethodName := ⟨RX0, "rest", "(III)I"⟩
def dkwX0_rest_0 : List UInt8 := [27, 28, 184, 0, 10, 29, 184, 0, 30, 184, 0, 34, 172]
abbrev dktX0_rest_0 : List UInt8 := dkwX0_rest_0 ++ []
theorem dksX0_rest_0 : cX0_rest.data.toList.drop 0 = dktX0_rest_0 := by decide +kernel
theorem dX0_rest_0 : decode cX0_rest 0 = .ok (.iload_n 1, 1) := dk_27 (dk_at dksX0_rest_0 0 rfl rfl)
theorem dX0_rest_1 : decode cX0_rest 1 = .ok (.iload_n 2, 1) := dk_28 (dk_at dksX0_rest_0 1 rfl rfl)
theorem dX0_rest_2 : decode cX0_rest 2 = .ok (.invokestatic 10, 3) := dk_184 0 10 (dk_at dksX0_rest_0 2 rfl rfl)
theorem dX0_rest_5 : decode cX0_rest 5 = .ok (.iload_n 3, 1) := dk_29 (dk_at dksX0_rest_0 5 rfl rfl)
theorem dX0_rest_6 : decode cX0_rest 6 = .ok (.invokestatic 30, 3) := dk_184 0 30 (dk_at dksX0_rest_0 6 rfl rfl)
theorem dX0_rest_9 : decode cX0_rest 9 = .ok (.invokestatic 34, 3) := dk_184 0 34 (dk_at dksX0_rest_0 9 rfl rfl)
theorem dX0_rest_12 : decode cX0_rest 12 = .ok (.ireturn, 1) := dk_172 (dk_at dksX0_rest_0 12 rfl rfl)
abbrev cX0_part : ByteArray := prog_1_method_3_code
def yX0_part : MethodName := ⟨RX0, "part", "(I)I"⟩
def dkwX0_part_0 : List UInt8 := [4, 26, 18, 9, 126, 96, 172]
abbrev dktX0_part_0 : List UInt8 := dkwX0_part_0 ++ []
theorem dksX0_part_0 : cX0_part.data.toList.drop 0 = dktX0_part_0 := by decide +kernel
theorem dX0_part_0 : decode cX0_part 0 = .ok (.iconst 1, 1) := dk_4 (dk_at dksX0_part_0 0 rfl rfl)
theorem dX0_part_1 : decode cX0_part 1 = .ok (.iload_n 0, 1) := dk_26 (dk_at dksX0_part_0 1 rfl rfl)
theorem dX0_part_2 : decode cX0_part 2 = .ok (.ldc 9, 2) := dk_18 9 (dk_at dksX0_part_0 2 rfl rfl)
theorem dX0_part_4 : decode cX0_part 4 = .ok (.iand, 1) := dk_126 (dk_at dksX0_part_0 4 rfl rfl)
theorem dX0_part_5 : decode cX0_part 5 = .ok (.iadd, 1) := dk_96 (dk_at dksX0_part_0 5 rfl rfl)
theorem dX0_part_6 : decode cX0_part 6 = .ok (.ireturn, 1) := dk_172 (dk_at dksX0_part_0 6 rfl rfl)
abbrev cX0_floor : ByteArray := prog_1_method_8_code
def yX0_floor : MethodName := ⟨RX0, "floor", "(II)I"⟩
def dkwX0_floor_0 : List UInt8 := [27, 28, 184, 0, 30, 184, 0, 37, 172]
abbrev dktX0_floor_0 : List UInt8 := dkwX0_floor_0 ++ []
theorem dksX0_floor_0 : cX0_floor.data.toList.drop 0 = dktX0_floor_0 := by decide +kernel
theorem dX0_floor_0 : decode cX0_floor 0 = .ok (.iload_n 1, 1) := dk_27 (dk_at dksX0_floor_0 0 rfl rfl)
theorem dX0_floor_1 : decode cX0_floor 1 = .ok (.iload_n 2, 1) := dk_28 (dk_at dksX0_floor_0 1 rfl rfl)
theorem dX0_floor_2 : decode cX0_floor 2 = .ok (.invokestatic 30, 3) := dk_184 0 30 (dk_at dksX0_floor_0 2 rfl rfl)
theorem dX0_floor_5 : decode cX0_floor 5 = .ok (.invokestatic 37, 3) := dk_184 0 37 (dk_at dksX0_floor_0 5 rfl rfl)
theorem dX0_floor_8 : decode cX0_floor 8 = .ok (.ireturn, 1) := dk_172 (dk_at dksX0_floor_0 8 rfl rfl)
abbrev cX0_modulo : ByteArray := prog_1_method_9_code
def yX0_modulo : MethodName := ⟨RX0, "modulo", "(II)I"⟩
def dkwX0_modulo_0 : List UInt8 := [27, 28, 184, 0, 30, 184, 0, 40, 172]
abbrev dktX0_modulo_0 : List UInt8 := dkwX0_modulo_0 ++ []
theorem dksX0_modulo_0 : cX0_modulo.data.toList.drop 0 = dktX0_modulo_0 := by decide +kernel
theorem dX0_modulo_0 : decode cX0_modulo 0 = .ok (.iload_n 1, 1) := dk_27 (dk_at dksX0_modulo_0 0 rfl rfl)
theorem dX0_modulo_1 : decode cX0_modulo 1 = .ok (.iload_n 2, 1) := dk_28 (dk_at dksX0_modulo_0 1 rfl rfl)
theorem dX0_modulo_2 : decode cX0_modulo 2 = .ok (.invokestatic 30, 3) := dk_184 0 30 (dk_at dksX0_modulo_0 2 rfl rfl)
theorem dX0_modulo_5 : decode cX0_modulo 5 = .ok (.invokestatic 40, 3) := dk_184 0 40 (dk_at dksX0_modulo_0 5 rfl rfl)
theorem dX0_modulo_8 : decode cX0_modulo 8 = .ok (.ireturn, 1) := dk_172 (dk_at dksX0_modulo_0 8 rfl rfl)
abbrev cX0_order : ByteArray := prog_1_method_10_code
def yX0_order : MethodName := ⟨RX0, "order", "(II)I"⟩
def dkwX0_order_0 : List UInt8 := [27, 28, 184, 0, 42, 172]
abbrev dktX0_order_0 : List UInt8 := dkwX0_order_0 ++ []
theorem dksX0_order_0 : cX0_order.data.toList.drop 0 = dktX0_order_0 := by decide +kernel
theorem dX0_order_0 : decode cX0_order 0 = .ok (.iload_n 1, 1) := dk_27 (dk_at dksX0_order_0 0 rfl rfl)
theorem dX0_order_1 : decode cX0_order 1 = .ok (.iload_n 2, 1) := dk_28 (dk_at dksX0_order_0 1 rfl rfl)
theorem dX0_order_2 : decode cX0_order 2 = .ok (.invokestatic 42, 3) := dk_184 0 42 (dk_at dksX0_order_0 2 rfl rfl)
theorem dX0_order_5 : decode cX0_order 5 = .ok (.ireturn, 1) := dk_172 (dk_at dksX0_order_0 5 rfl rfl)
abbrev cX0_orderOf : ByteArray := prog_1_method_11_code
def yX0_orderOf : MethodName := ⟨RX0, "orderOf", "(IIII)I"⟩
def dkwX0_orderOf_0 : List UInt8 := [27, 28, 184, 0, 10, 29, 21, 4, 184, 0, 10, 184, 0, 45, 172]
abbrev dktX0_orderOf_0 : List UInt8 := dkwX0_orderOf_0 ++ []
theorem dksX0_orderOf_0 : cX0_orderOf.data.toList.drop 0 = dktX0_orderOf_0 := by decide +kernel
theorem dX0_orderOf_0 : decode cX0_orderOf 0 = .ok (.iload_n 1, 1) := dk_27 (dk_at dksX0_orderOf_0 0 rfl rfl)
theorem dX0_orderOf_1 : decode cX0_orderOf 1 = .ok (.iload_n 2, 1) := dk_28 (dk_at dksX0_orderOf_0 1 rfl rfl)
theorem dX0_orderOf_2 : decode cX0_orderOf 2 = .ok (.invokestatic 10, 3) := dk_184 0 10 (dk_at dksX0_orderOf_0 2 rfl rfl)
theorem dX0_orderOf_5 : decode cX0_orderOf 5 = .ok (.iload_n 3, 1) := dk_29 (dk_at dksX0_orderOf_0 5 rfl rfl)
theorem dX0_orderOf_6 : decode cX0_orderOf 6 = .ok (.iload 4, 2) := dk_21 4 (dk_at dksX0_orderOf_0 6 rfl rfl)
theorem dX0_orderOf_8 : decode cX0_orderOf 8 = .ok (.invokestatic 10, 3) := dk_184 0 10 (dk_at dksX0_orderOf_0 8 rfl rfl)
theorem dX0_orderOf_11 : decode cX0_orderOf 11 = .ok (.invokestatic 45, 3) := dk_184 0 45 (dk_at dksX0_orderOf_0 11 rfl rfl)
theorem dX0_orderOf_14 : decode cX0_orderOf 14 = .ok (.ireturn, 1) := dk_172 (dk_at dksX0_orderOf_0 14 rfl rfl)
theorem q2 : (Jvm.Cond.initialized "FloorDesk") ∈ lw_all := lw_g (lw_at lw_m0 1 rfl) rfl
theorem q6 : (Jvm.Cond.instantiable "FloorDesk" (0 : Nat)) ∈ lw_all := lw_g (lw_at lw_m0 5 rfl) rfl
theorem q8 : (Jvm.Cond.instanceMethod ({ cls := "FloorDesk", name := "<init>", desc := "()V" } : Jvm.MethodName)) ∈ lw_all := lw_g (lw_at lw_m0 7 rfl) rfl
theorem q9 : (Jvm.Cond.code ({ cls := "FloorDesk", name := "<init>", desc := "()V" } : Jvm.MethodName) prog_1_method_1_code (1 : Nat) (Option.none : Option Jvm.ClassFile.FieldType)) ∈ lw_all := lw_g (lw_at lw_m0 8 rfl) rfl
theorem q10 : (Jvm.Cond.methodLink "FloorDesk" (1 : Nat) ({ cls := "java/lang/Object", name := "<init>", desc := "()V" } : Jvm.MethodName)) ∈ lw_all := lw_g (lw_at lw_m0 9 rfl) rfl
theorem q13 : (Jvm.Cond.superclass "FloorDesk" "java/lang/Object") ∈ lw_all := lw_g (lw_at lw_m0 12 rfl) rfl
theorem q15 : (Jvm.Cond.instanceMethod ({ cls := "FloorDesk", name := "floorOf", desc := "(IIII)J" } : Jvm.MethodName)) ∈ lw_all := lw_g (lw_at lw_m0 14 rfl) rfl
theorem q16 : (Jvm.Cond.selects "FloorDesk" ({ cls := "FloorDesk", name := "floorOf", desc := "(IIII)J" } : Jvm.MethodName) ({ cls := "FloorDesk", name := "floorOf", desc := "(IIII)J" } : Jvm.MethodName)) ∈ lw_all := lw_g (lw_at lw_m0 15 rfl) rfl
theorem q17 : (Jvm.Cond.code ({ cls := "FloorDesk", name := "floorOf", desc := "(IIII)J" } : Jvm.MethodName) prog_1_method_5_code (5 : Nat) (Option.some Jvm.ClassFile.FieldType.long)) ∈ lw_all := lw_g (lw_at lw_m0 16 rfl) rfl
theorem q18 : (Jvm.Cond.methodLink "FloorDesk" (10 : Nat) ({ cls := "FloorDesk", name := "of", desc := "(II)J" } : Jvm.MethodName)) ∈ lw_all := lw_g (lw_at lw_m0 17 rfl) rfl
theorem q19 : (Jvm.Cond.static ({ cls := "FloorDesk", name := "of", desc := "(II)J" } : Jvm.MethodName)) ∈ lw_all := lw_g (lw_at lw_m0 18 rfl) rfl
theorem q20 : (Jvm.Cond.code ({ cls := "FloorDesk", name := "of", desc := "(II)J" } : Jvm.MethodName) prog_1_method_2_code (2 : Nat) (Option.some Jvm.ClassFile.FieldType.long)) ∈ lw_all := lw_g (lw_at lw_m0 19 rfl) rfl
theorem q21 : (Jvm.Cond.constantLong "FloorDesk" (7 : Nat) (4294967295 : Int64)) ∈ lw_all := lw_g (lw_at lw_m0 20 rfl) rfl
theorem q22 : (Jvm.Cond.methodLink "FloorDesk" (18 : Nat) ({ cls := "FloorDesk", name := "partOf", desc := "(II)J" } : Jvm.MethodName)) ∈ lw_all := lw_g (lw_at lw_m0 21 rfl) rfl
theorem q23 : (Jvm.Cond.static ({ cls := "FloorDesk", name := "partOf", desc := "(II)J" } : Jvm.MethodName)) ∈ lw_all := lw_g (lw_at lw_m0 22 rfl) rfl
theorem q24 : (Jvm.Cond.code ({ cls := "FloorDesk", name := "partOf", desc := "(II)J" } : Jvm.MethodName) prog_1_method_4_code (2 : Nat) (Option.some Jvm.ClassFile.FieldType.long)) ∈ lw_all := lw_g (lw_at lw_m0 23 rfl) rfl
theorem q25 : (Jvm.Cond.constantLong "FloorDesk" (16 : Nat) (4611686018427387903 : Int64)) ∈ lw_all := lw_g (lw_at lw_m0 24 rfl) rfl
theorem q26 : (Jvm.Cond.methodLink "FloorDesk" (21 : Nat) ({ cls := "Jdk8Methods", name := "floorDiv", desc := "(JJ)J" } : Jvm.MethodName)) ∈ lw_all := lw_g (lw_at lw_m0 25 rfl) rfl
theorem q30 : (Jvm.Cond.instanceMethod ({ cls := "FloorDesk", name := "restOf", desc := "(IIII)J" } : Jvm.MethodName)) ∈ lw_all := lw_g (lw_at lw_m0 29 rfl) rfl
theorem q31 : (Jvm.Cond.selects "FloorDesk" ({ cls := "FloorDesk", name := "restOf", desc := "(IIII)J" } : Jvm.MethodName) ({ cls := "FloorDesk", name := "restOf", desc := "(IIII)J" } : Jvm.MethodName)) ∈ lw_all := lw_g (lw_at lw_m0 30 rfl) rfl
theorem q32 : (Jvm.Cond.code ({ cls := "FloorDesk", name := "restOf", desc := "(IIII)J" } : Jvm.MethodName) prog_1_method_6_code (5 : Nat) (Option.some Jvm.ClassFile.FieldType.long)) ∈ lw_all := lw_g (lw_at lw_m0 31 rfl) rfl
theorem q33 : (Jvm.Cond.methodLink "FloorDesk" (27 : Nat) ({ cls := "Jdk8Methods", name := "floorMod", desc := "(JJ)J" } : Jvm.MethodName)) ∈ lw_all := lw_g (lw_at lw_m0 32 rfl) rfl
theorem q37 : (Jvm.Cond.instanceMethod ({ cls := "FloorDesk", name := "rest", desc := "(III)I" } : Jvm.MethodName)) ∈ lw_all := lw_g (lw_at lw_m0 36 rfl) rfl
theorem q38 : (Jvm.Cond.selects "FloorDesk" ({ cls := "FloorDesk", name := "rest", desc := "(III)I" } : Jvm.MethodName) ({ cls := "FloorDesk", name := "rest", desc := "(III)I" } : Jvm.MethodName)) ∈ lw_all := lw_g (lw_at lw_m0 37 rfl) rfl
theorem q39 : (Jvm.Cond.code ({ cls := "FloorDesk", name := "rest", desc := "(III)I" } : Jvm.MethodName) prog_1_method_7_code (4 : Nat) (Option.some Jvm.ClassFile.FieldType.int)) ∈ lw_all := lw_g (lw_at lw_m0 38 rfl) rfl
theorem q40 : (Jvm.Cond.methodLink "FloorDesk" (30 : Nat) ({ cls := "FloorDesk", name := "part", desc := "(I)I" } : Jvm.MethodName)) ∈ lw_all := lw_g (lw_at lw_m0 39 rfl) rfl
theorem q41 : (Jvm.Cond.static ({ cls := "FloorDesk", name := "part", desc := "(I)I" } : Jvm.MethodName)) ∈ lw_all := lw_g (lw_at lw_m0 40 rfl) rfl
theorem q42 : (Jvm.Cond.code ({ cls := "FloorDesk", name := "part", desc := "(I)I" } : Jvm.MethodName) prog_1_method_3_code (1 : Nat) (Option.some Jvm.ClassFile.FieldType.int)) ∈ lw_all := lw_g (lw_at lw_m0 41 rfl) rfl
theorem q43 : (Jvm.Cond.constant "FloorDesk" (9 : Nat) (1073741823 : Int32)) ∈ lw_all := lw_g (lw_at lw_m0 42 rfl) rfl
theorem q44 : (Jvm.Cond.methodLink "FloorDesk" (34 : Nat) ({ cls := "Jdk8Methods", name := "floorMod", desc := "(JI)I" } : Jvm.MethodName)) ∈ lw_all := lw_g (lw_at lw_m0 43 rfl) rfl
theorem q48 : (Jvm.Cond.instanceMethod ({ cls := "FloorDesk", name := "floor", desc := "(II)I" } : Jvm.MethodName)) ∈ lw_all := lw_g (lw_at lw_m0 47 rfl) rfl
theorem q49 : (Jvm.Cond.selects "FloorDesk" ({ cls := "FloorDesk", name := "floor", desc := "(II)I" } : Jvm.MethodName) ({ cls := "FloorDesk", name := "floor", desc := "(II)I" } : Jvm.MethodName)) ∈ lw_all := lw_g (lw_at lw_m0 48 rfl) rfl
theorem q50 : (Jvm.Cond.code ({ cls := "FloorDesk", name := "floor", desc := "(II)I" } : Jvm.MethodName) prog_1_method_8_code (3 : Nat) (Option.some Jvm.ClassFile.FieldType.int)) ∈ lw_all := lw_g (lw_at lw_m0 49 rfl) rfl
theorem q51 : (Jvm.Cond.methodLink "FloorDesk" (37 : Nat) ({ cls := "Jdk8Methods", name := "floorDiv", desc := "(II)I" } : Jvm.MethodName)) ∈ lw_all := lw_g (lw_at lw_m0 50 rfl) rfl
theorem q55 : (Jvm.Cond.instanceMethod ({ cls := "FloorDesk", name := "modulo", desc := "(II)I" } : Jvm.MethodName)) ∈ lw_all := lw_g (lw_at lw_m0 54 rfl) rfl
theorem q56 : (Jvm.Cond.selects "FloorDesk" ({ cls := "FloorDesk", name := "modulo", desc := "(II)I" } : Jvm.MethodName) ({ cls := "FloorDesk", name := "modulo", desc := "(II)I" } : Jvm.MethodName)) ∈ lw_all := lw_g (lw_at lw_m0 55 rfl) rfl
theorem q57 : (Jvm.Cond.code ({ cls := "FloorDesk", name := "modulo", desc := "(II)I" } : Jvm.MethodName) prog_1_method_9_code (3 : Nat) (Option.some Jvm.ClassFile.FieldType.int)) ∈ lw_all := lw_g (lw_at lw_m0 56 rfl) rfl
theorem q58 : (Jvm.Cond.methodLink "FloorDesk" (40 : Nat) ({ cls := "Jdk8Methods", name := "floorMod", desc := "(II)I" } : Jvm.MethodName)) ∈ lw_all := lw_g (lw_at lw_m0 57 rfl) rfl
theorem q62 : (Jvm.Cond.instanceMethod ({ cls := "FloorDesk", name := "order", desc := "(II)I" } : Jvm.MethodName)) ∈ lw_all := lw_g (lw_at lw_m0 61 rfl) rfl
theorem q63 : (Jvm.Cond.selects "FloorDesk" ({ cls := "FloorDesk", name := "order", desc := "(II)I" } : Jvm.MethodName) ({ cls := "FloorDesk", name := "order", desc := "(II)I" } : Jvm.MethodName)) ∈ lw_all := lw_g (lw_at lw_m0 62 rfl) rfl
theorem q64 : (Jvm.Cond.code ({ cls := "FloorDesk", name := "order", desc := "(II)I" } : Jvm.MethodName) prog_1_method_10_code (3 : Nat) (Option.some Jvm.ClassFile.FieldType.int)) ∈ lw_all := lw_g (lw_at lw_m0 63 rfl) rfl
theorem q65 : (Jvm.Cond.methodLink "FloorDesk" (42 : Nat) ({ cls := "Jdk8Methods", name := "compareInts", desc := "(II)I" } : Jvm.MethodName)) ∈ lw_all := lw_g (lw_at lw_m0 64 rfl) rfl
theorem q69 : (Jvm.Cond.instanceMethod ({ cls := "FloorDesk", name := "orderOf", desc := "(IIII)I" } : Jvm.MethodName)) ∈ lw_all := lw_g (lw_at lw_m0 68 rfl) rfl
theorem q70 : (Jvm.Cond.selects "FloorDesk" ({ cls := "FloorDesk", name := "orderOf", desc := "(IIII)I" } : Jvm.MethodName) ({ cls := "FloorDesk", name := "orderOf", desc := "(IIII)I" } : Jvm.MethodName)) ∈ lw_all := lw_g (lw_at lw_m0 69 rfl) rfl
theorem q71 : (Jvm.Cond.code ({ cls := "FloorDesk", name := "orderOf", desc := "(IIII)I" } : Jvm.MethodName) prog_1_method_11_code (5 : Nat) (Option.some Jvm.ClassFile.FieldType.int)) ∈ lw_all := lw_g (lw_at lw_m0 70 rfl) rfl
theorem q72 : (Jvm.Cond.methodLink "FloorDesk" (45 : Nat) ({ cls := "Jdk8Methods", name := "compareLongs", desc := "(JJ)I" } : Jvm.MethodName)) ∈ lw_all := lw_g (lw_at lw_m0 71 rfl) rfl
/-! FloorDeskModel -/
set_option maxRecDepth 100000
def RX1 : String := "FloorDeskModel"
def TX1 : u_T := fun k => match k with
  | 0 => ("FloorDeskModel", "whole", "J", false)
  | _ => ("FloorDeskModel", "left", "J", false)
def tyX1 : Nat → FieldType := fun k => match k with
  | 0 => .long
  | _ => .long
abbrev wsX10 : List Cond := u_ws RX1 TX1 2
theorem nmX1 : ∀ a, a < 2 → ∀ b, b < 2 → a ≠ b → (TX1 a).2.1 ≠ (TX1 b).2.1 := by decide +kernel
theorem tyX1_ok : ∀ k, k < 2 → parseFieldDescriptor (TX1 k).2.2.1 = some (tyX1 k) := by decide +kernel
abbrev cX1_init : ByteArray := prog_3_method_1_code
def yX1_init : MethodName := ⟨RX1, "<init>", "()V"⟩
theorem dX1_init_0 : decode cX1_init 0 = .ok (.aload_n 0, 1) := by decide +kernel
theorem dX1_init_1 : decode cX1_init 1 = .ok (.invokespecial 1, 3) := by decide +kernel
theorem dX1_init_4 : decode cX1_init 4 = .ok (.return_, 1) := by decide +kernel
abbrev cX1_floorOf : ByteArray := prog_3_method_6_code
def yX1_floorOf : MethodName := ⟨RX1, "floorOf", "(IIII)J"⟩
def dkwX1_floorOf_0 : List UInt8 := [42, 27, 28, 184, 0, 10, 29, 21, 4, 184, 0, 29, 182, 0, 32, 42, 180, 0, 20, 173]
abbrev dktX1_floorOf_0 : List UInt8 := dkwX1_floorOf_0 ++ []
theorem dksX1_floorOf_0 : cX1_floorOf.data.toList.drop 0 = dktX1_floorOf_0 := by decide +kernel
theorem dX1_floorOf_0 : decode cX1_floorOf 0 = .ok (.aload_n 0, 1) := dk_42 (dk_at dksX1_floorOf_0 0 rfl rfl)
theorem dX1_floorOf_1 : decode cX1_floorOf 1 = .ok (.iload_n 1, 1) := dk_27 (dk_at dksX1_floorOf_0 1 rfl rfl)
theorem dX1_floorOf_2 : decode cX1_floorOf 2 = .ok (.iload_n 2, 1) := dk_28 (dk_at dksX1_floorOf_0 2 rfl rfl)
theorem dX1_floorOf_3 : decode cX1_floorOf 3 = .ok (.invokestatic 10, 3) := dk_184 0 10 (dk_at dksX1_floorOf_0 3 rfl rfl)
theorem dX1_floorOf_6 : decode cX1_floorOf 6 = .ok (.iload_n 3, 1) := dk_29 (dk_at dksX1_floorOf_0 6 rfl rfl)
theorem dX1_floorOf_7 : decode cX1_floorOf 7 = .ok (.iload 4, 2) := dk_21 4 (dk_at dksX1_floorOf_0 7 rfl rfl)
theorem dX1_floorOf_9 : decode cX1_floorOf 9 = .ok (.invokestatic 29, 3) := dk_184 0 29 (dk_at dksX1_floorOf_0 9 rfl rfl)
theorem dX1_floorOf_12 : decode cX1_floorOf 12 = .ok (.invokevirtual 32, 3) := dk_182 0 32 (dk_at dksX1_floorOf_0 12 rfl rfl)
theorem dX1_floorOf_15 : decode cX1_floorOf 15 = .ok (.aload_n 0, 1) := dk_42 (dk_at dksX1_floorOf_0 15 rfl rfl)
theorem dX1_floorOf_16 : decode cX1_floorOf 16 = .ok (.getfield 20, 3) := dk_180 0 20 (dk_at dksX1_floorOf_0 16 rfl rfl)
theorem dX1_floorOf_19 : decode cX1_floorOf 19 = .ok (.lreturn, 1) := dk_173 (dk_at dksX1_floorOf_0 19 rfl rfl)
abbrev cX1_joined : ByteArray := prog_3_method_2_code
def yX1_joined : MethodName := ⟨RX1, "joined", "(II)J"⟩
def dkwX1_joined_1 : List UInt8 := [173]
abbrev dktX1_joined_1 : List UInt8 := dkwX1_joined_1 ++ []
def dkwX1_joined_0 : List UInt8 := [27, 156, 0, 12, 27, 133, 20, 0, 7, 97, 167, 0, 5, 27, 133, 65, 26, 133, 20, 0, 7, 105, 32, 97]
abbrev dktX1_joined_0 : List UInt8 := dkwX1_joined_0 ++ dktX1_joined_1
theorem dksX1_joined_0 : cX1_joined.data.toList.drop 0 = dktX1_joined_0 := by decide +kernel
theorem dksX1_joined_1 : cX1_joined.data.toList.drop 24 = dktX1_joined_1 := dk_seg dksX1_joined_0 24 rfl rfl
theorem dX1_joined_0 : decode cX1_joined 0 = .ok (.iload_n 1, 1) := dk_27 (dk_at dksX1_joined_0 0 rfl rfl)
theorem dX1_joined_1 : decode cX1_joined 1 = .ok (.ifCond .ge 12, 3) := dk_156 0 12 (dk_at dksX1_joined_0 1 rfl rfl)
theorem dX1_joined_4 : decode cX1_joined 4 = .ok (.iload_n 1, 1) := dk_27 (dk_at dksX1_joined_0 4 rfl rfl)
theorem dX1_joined_5 : decode cX1_joined 5 = .ok (.i2l, 1) := dk_133 (dk_at dksX1_joined_0 5 rfl rfl)
theorem dX1_joined_6 : decode cX1_joined 6 = .ok (.ldc2_w 7, 3) := dk_20 0 7 (dk_at dksX1_joined_0 6 rfl rfl)
theorem dX1_joined_9 : decode cX1_joined 9 = .ok (.ladd, 1) := dk_97 (dk_at dksX1_joined_0 9 rfl rfl)
theorem dX1_joined_10 : decode cX1_joined 10 = .ok (.goto 5, 3) := dk_167 0 5 (dk_at dksX1_joined_0 10 rfl rfl)
theorem dX1_joined_13 : decode cX1_joined 13 = .ok (.iload_n 1, 1) := dk_27 (dk_at dksX1_joined_0 13 rfl rfl)
theorem dX1_joined_14 : decode cX1_joined 14 = .ok (.i2l, 1) := dk_133 (dk_at dksX1_joined_0 14 rfl rfl)
theorem dX1_joined_15 : decode cX1_joined 15 = .ok (.lstore_n 2, 1) := dk_65 (dk_at dksX1_joined_0 15 rfl rfl)
theorem dX1_joined_16 : decode cX1_joined 16 = .ok (.iload_n 0, 1) := dk_26 (dk_at dksX1_joined_0 16 rfl rfl)
theorem dX1_joined_17 : decode cX1_joined 17 = .ok (.i2l, 1) := dk_133 (dk_at dksX1_joined_0 17 rfl rfl)
theorem dX1_joined_18 : decode cX1_joined 18 = .ok (.ldc2_w 7, 3) := dk_20 0 7 (dk_at dksX1_joined_0 18 rfl rfl)
theorem dX1_joined_21 : decode cX1_joined 21 = .ok (.lmul, 1) := dk_105 (dk_at dksX1_joined_0 21 rfl rfl)
theorem dX1_joined_22 : decode cX1_joined 22 = .ok (.lload_n 2, 1) := dk_32 (dk_at dksX1_joined_0 22 rfl rfl)
theorem dX1_joined_23 : decode cX1_joined 23 = .ok (.ladd, 1) := dk_97 (dk_at dksX1_joined_0 23 rfl rfl)
theorem dX1_joined_24 : decode cX1_joined 24 = .ok (.lreturn, 1) := dk_173 (dk_at dksX1_joined_1 0 rfl rfl)
abbrev cX1_part : ByteArray := prog_3_method_4_code
def yX1_part : MethodName := ⟨RX1, "part", "(II)J"⟩
def dkwX1_part_1 : List UInt8 := [20, 0, 16, 97, 167, 0, 5, 22, 4, 10, 97, 173]
abbrev dktX1_part_1 : List UInt8 := dkwX1_part_1 ++ []
def dkwX1_part_0 : List UInt8 := [26, 27, 184, 0, 10, 65, 32, 20, 0, 16, 113, 55, 4, 22, 4, 9, 148, 156, 0, 12, 22, 4]
abbrev dktX1_part_0 : List UInt8 := dkwX1_part_0 ++ dktX1_part_1
theorem dksX1_part_0 : cX1_part.data.toList.drop 0 = dktX1_part_0 := by decide +kernel
theorem dksX1_part_1 : cX1_part.data.toList.drop 22 = dktX1_part_1 := dk_seg dksX1_part_0 22 rfl rfl
theorem dX1_part_0 : decode cX1_part 0 = .ok (.iload_n 0, 1) := dk_26 (dk_at dksX1_part_0 0 rfl rfl)
theorem dX1_part_1 : decode cX1_part 1 = .ok (.iload_n 1, 1) := dk_27 (dk_at dksX1_part_0 1 rfl rfl)
theorem dX1_part_2 : decode cX1_part 2 = .ok (.invokestatic 10, 3) := dk_184 0 10 (dk_at dksX1_part_0 2 rfl rfl)
theorem dX1_part_5 : decode cX1_part 5 = .ok (.lstore_n 2, 1) := dk_65 (dk_at dksX1_part_0 5 rfl rfl)
theorem dX1_part_6 : decode cX1_part 6 = .ok (.lload_n 2, 1) := dk_32 (dk_at dksX1_part_0 6 rfl rfl)
theorem dX1_part_7 : decode cX1_part 7 = .ok (.ldc2_w 16, 3) := dk_20 0 16 (dk_at dksX1_part_0 7 rfl rfl)
theorem dX1_part_10 : decode cX1_part 10 = .ok (.lrem, 1) := dk_113 (dk_at dksX1_part_0 10 rfl rfl)
theorem dX1_part_11 : decode cX1_part 11 = .ok (.lstore 4, 2) := dk_55 4 (dk_at dksX1_part_0 11 rfl rfl)
theorem dX1_part_13 : decode cX1_part 13 = .ok (.lload 4, 2) := dk_22 4 (dk_at dksX1_part_0 13 rfl rfl)
theorem dX1_part_15 : decode cX1_part 15 = .ok (.lconst 0, 1) := dk_9 (dk_at dksX1_part_0 15 rfl rfl)
theorem dX1_part_16 : decode cX1_part 16 = .ok (.lcmp, 1) := dk_148 (dk_at dksX1_part_0 16 rfl rfl)
theorem dX1_part_17 : decode cX1_part 17 = .ok (.ifCond .ge 12, 3) := dk_156 0 12 (dk_at dksX1_part_0 17 rfl rfl)
theorem dX1_part_20 : decode cX1_part 20 = .ok (.lload 4, 2) := dk_22 4 (dk_at dksX1_part_0 20 rfl rfl)
theorem dX1_part_22 : decode cX1_part 22 = .ok (.ldc2_w 16, 3) := dk_20 0 16 (dk_at dksX1_part_1 0 rfl rfl)
theorem dX1_part_25 : decode cX1_part 25 = .ok (.ladd, 1) := dk_97 (dk_at dksX1_part_1 3 rfl rfl)
theorem dX1_part_26 : decode cX1_part 26 = .ok (.goto 5, 3) := dk_167 0 5 (dk_at dksX1_part_1 4 rfl rfl)
theorem dX1_part_29 : decode cX1_part 29 = .ok (.lload 4, 2) := dk_22 4 (dk_at dksX1_part_1 7 rfl rfl)
theorem dX1_part_31 : decode cX1_part 31 = .ok (.lconst 1, 1) := dk_10 (dk_at dksX1_part_1 9 rfl rfl)
theorem dX1_part_32 : decode cX1_part 32 = .ok (.ladd, 1) := dk_97 (dk_at dksX1_part_1 10 rfl rfl)
theorem dX1_part_33 : decode cX1_part 33 = .ok (.lreturn, 1) := dk_173 (dk_at dksX1_part_1 11 rfl rfl)
abbrev cX1_divide : ByteArray := prog_3_method_5_code
def yX1_divide : MethodName := ⟨RX1, "divide", "(JJ)V"⟩
def dkwX1_divide_7 : List UInt8 := [20, 0, 18, 42, 180, 0, 20, 101, 181, 0, 20, 42, 33, 10, 101, 42, 180, 0, 24, 101, 181, 0, 24, 177]
abbrev dktX1_divide_7 : List UInt8 := dkwX1_divide_7 ++ []
def dkwX1_divide_6 : List UInt8 := [97, 181, 0, 20, 22, 8, 20, 0, 27, 109, 55, 8, 132, 10, 255, 167, 255, 151, 21, 5, 153, 0, 27, 42]
abbrev dktX1_divide_6 : List UInt8 := dkwX1_divide_6 ++ dktX1_divide_7
def dkwX1_divide_5 : List UInt8 := [180, 0, 24, 33, 148, 155, 0, 23, 42, 89, 180, 0, 24, 33, 101, 181, 0, 24, 42, 89, 180, 0, 20, 10]
abbrev dktX1_divide_5 : List UInt8 := dkwX1_divide_5 ++ dktX1_divide_6
def dkwX1_divide_4 : List UInt8 := [101, 167, 0, 5, 22, 6, 55, 6, 42, 42, 180, 0, 20, 42, 180, 0, 20, 97, 181, 0, 20, 42]
abbrev dktX1_divide_4 : List UInt8 := dkwX1_divide_4 ++ dktX1_divide_5
def dkwX1_divide_3 : List UInt8 := [155, 0, 7, 10, 167, 0, 4, 9, 97, 181, 0, 24, 22, 6, 22, 8, 148, 155, 0, 11, 22, 6, 22, 8]
abbrev dktX1_divide_3 : List UInt8 := dkwX1_divide_3 ++ dktX1_divide_4
def dkwX1_divide_2 : List UInt8 := [54, 10, 21, 10, 155, 0, 106, 42, 42, 180, 0, 24, 42, 180, 0, 24, 97, 22, 6, 22, 8, 148]
abbrev dktX1_divide_2 : List UInt8 := dkwX1_divide_2 ++ dktX1_divide_3
def dkwX1_divide_1 : List UInt8 := [167, 0, 4, 31, 55, 6, 20, 0, 16, 55, 8, 42, 9, 181, 0, 20, 42, 9, 181, 0, 24, 16, 62]
abbrev dktX1_divide_1 : List UInt8 := dkwX1_divide_1 ++ dktX1_divide_2
def dkwX1_divide_0 : List UInt8 := [31, 9, 148, 156, 0, 7, 4, 167, 0, 4, 3, 54, 5, 21, 5, 153, 0, 11, 20, 0, 18, 31, 101]
abbrev dktX1_divide_0 : List UInt8 := dkwX1_divide_0 ++ dktX1_divide_1
theorem dksX1_divide_0 : cX1_divide.data.toList.drop 0 = dktX1_divide_0 := by decide +kernel
theorem dksX1_divide_1 : cX1_divide.data.toList.drop 23 = dktX1_divide_1 := dk_seg dksX1_divide_0 23 rfl rfl
theorem dksX1_divide_2 : cX1_divide.data.toList.drop 46 = dktX1_divide_2 := dk_seg dksX1_divide_1 23 rfl rfl
theorem dksX1_divide_3 : cX1_divide.data.toList.drop 68 = dktX1_divide_3 := dk_seg dksX1_divide_2 22 rfl rfl
theorem dksX1_divide_4 : cX1_divide.data.toList.drop 92 = dktX1_divide_4 := dk_seg dksX1_divide_3 24 rfl rfl
theorem dksX1_divide_5 : cX1_divide.data.toList.drop 114 = dktX1_divide_5 := dk_seg dksX1_divide_4 22 rfl rfl
theorem dksX1_divide_6 : cX1_divide.data.toList.drop 138 = dktX1_divide_6 := dk_seg dksX1_divide_5 24 rfl rfl
theorem dksX1_divide_7 : cX1_divide.data.toList.drop 162 = dktX1_divide_7 := dk_seg dksX1_divide_6 24 rfl rfl
theorem dX1_divide_0 : decode cX1_divide 0 = .ok (.lload_n 1, 1) := dk_31 (dk_at dksX1_divide_0 0 rfl rfl)
theorem dX1_divide_1 : decode cX1_divide 1 = .ok (.lconst 0, 1) := dk_9 (dk_at dksX1_divide_0 1 rfl rfl)
theorem dX1_divide_2 : decode cX1_divide 2 = .ok (.lcmp, 1) := dk_148 (dk_at dksX1_divide_0 2 rfl rfl)
theorem dX1_divide_3 : decode cX1_divide 3 = .ok (.ifCond .ge 7, 3) := dk_156 0 7 (dk_at dksX1_divide_0 3 rfl rfl)
theorem dX1_divide_6 : decode cX1_divide 6 = .ok (.iconst 1, 1) := dk_4 (dk_at dksX1_divide_0 6 rfl rfl)
theorem dX1_divide_7 : decode cX1_divide 7 = .ok (.goto 4, 3) := dk_167 0 4 (dk_at dksX1_divide_0 7 rfl rfl)
theorem dX1_divide_10 : decode cX1_divide 10 = .ok (.iconst 0, 1) := dk_3 (dk_at dksX1_divide_0 10 rfl rfl)
theorem dX1_divide_11 : decode cX1_divide 11 = .ok (.istore 5, 2) := dk_54 5 (dk_at dksX1_divide_0 11 rfl rfl)
theorem dX1_divide_13 : decode cX1_divide 13 = .ok (.iload 5, 2) := dk_21 5 (dk_at dksX1_divide_0 13 rfl rfl)
theorem dX1_divide_15 : decode cX1_divide 15 = .ok (.ifCond .eq 11, 3) := dk_153 0 11 (dk_at dksX1_divide_0 15 rfl rfl)
theorem dX1_divide_18 : decode cX1_divide 18 = .ok (.ldc2_w 18, 3) := dk_20 0 18 (dk_at dksX1_divide_0 18 rfl rfl)
theorem dX1_divide_21 : decode cX1_divide 21 = .ok (.lload_n 1, 1) := dk_31 (dk_at dksX1_divide_0 21 rfl rfl)
theorem dX1_divide_22 : decode cX1_divide 22 = .ok (.lsub, 1) := dk_101 (dk_at dksX1_divide_0 22 rfl rfl)
theorem dX1_divide_23 : decode cX1_divide 23 = .ok (.goto 4, 3) := dk_167 0 4 (dk_at dksX1_divide_1 0 rfl rfl)
theorem dX1_divide_26 : decode cX1_divide 26 = .ok (.lload_n 1, 1) := dk_31 (dk_at dksX1_divide_1 3 rfl rfl)
theorem dX1_divide_27 : decode cX1_divide 27 = .ok (.lstore 6, 2) := dk_55 6 (dk_at dksX1_divide_1 4 rfl rfl)
theorem dX1_divide_29 : decode cX1_divide 29 = .ok (.ldc2_w 16, 3) := dk_20 0 16 (dk_at dksX1_divide_1 6 rfl rfl)
theorem dX1_divide_32 : decode cX1_divide 32 = .ok (.lstore 8, 2) := dk_55 8 (dk_at dksX1_divide_1 9 rfl rfl)
theorem dX1_divide_34 : decode cX1_divide 34 = .ok (.aload_n 0, 1) := dk_42 (dk_at dksX1_divide_1 11 rfl rfl)
theorem dX1_divide_35 : decode cX1_divide 35 = .ok (.lconst 0, 1) := dk_9 (dk_at dksX1_divide_1 12 rfl rfl)
theorem dX1_divide_36 : decode cX1_divide 36 = .ok (.putfield 20, 3) := dk_181 0 20 (dk_at dksX1_divide_1 13 rfl rfl)
theorem dX1_divide_39 : decode cX1_divide 39 = .ok (.aload_n 0, 1) := dk_42 (dk_at dksX1_divide_1 16 rfl rfl)
theorem dX1_divide_40 : decode cX1_divide 40 = .ok (.lconst 0, 1) := dk_9 (dk_at dksX1_divide_1 17 rfl rfl)
theorem dX1_divide_41 : decode cX1_divide 41 = .ok (.putfield 24, 3) := dk_181 0 24 (dk_at dksX1_divide_1 18 rfl rfl)
theorem dX1_divide_44 : decode cX1_divide 44 = .ok (.bipush 62, 2) := dk_16 62 (dk_at dksX1_divide_1 21 rfl rfl)
theorem dX1_divide_46 : decode cX1_divide 46 = .ok (.istore 10, 2) := dk_54 10 (dk_at dksX1_divide_2 0 rfl rfl)
theorem dX1_divide_48 : decode cX1_divide 48 = .ok (.iload 10, 2) := dk_21 10 (dk_at dksX1_divide_2 2 rfl rfl)
theorem dX1_divide_50 : decode cX1_divide 50 = .ok (.ifCond .lt 106, 3) := dk_155 0 106 (dk_at dksX1_divide_2 4 rfl rfl)
theorem dX1_divide_53 : decode cX1_divide 53 = .ok (.aload_n 0, 1) := dk_42 (dk_at dksX1_divide_2 7 rfl rfl)
theorem dX1_divide_54 : decode cX1_divide 54 = .ok (.aload_n 0, 1) := dk_42 (dk_at dksX1_divide_2 8 rfl rfl)
theorem dX1_divide_55 : decode cX1_divide 55 = .ok (.getfield 24, 3) := dk_180 0 24 (dk_at dksX1_divide_2 9 rfl rfl)
theorem dX1_divide_58 : decode cX1_divide 58 = .ok (.aload_n 0, 1) := dk_42 (dk_at dksX1_divide_2 12 rfl rfl)
theorem dX1_divide_59 : decode cX1_divide 59 = .ok (.getfield 24, 3) := dk_180 0 24 (dk_at dksX1_divide_2 13 rfl rfl)
theorem dX1_divide_62 : decode cX1_divide 62 = .ok (.ladd, 1) := dk_97 (dk_at dksX1_divide_2 16 rfl rfl)
theorem dX1_divide_63 : decode cX1_divide 63 = .ok (.lload 6, 2) := dk_22 6 (dk_at dksX1_divide_2 17 rfl rfl)
theorem dX1_divide_65 : decode cX1_divide 65 = .ok (.lload 8, 2) := dk_22 8 (dk_at dksX1_divide_2 19 rfl rfl)
theorem dX1_divide_67 : decode cX1_divide 67 = .ok (.lcmp, 1) := dk_148 (dk_at dksX1_divide_2 21 rfl rfl)
theorem dX1_divide_68 : decode cX1_divide 68 = .ok (.ifCond .lt 7, 3) := dk_155 0 7 (dk_at dksX1_divide_3 0 rfl rfl)
theorem dX1_divide_71 : decode cX1_divide 71 = .ok (.lconst 1, 1) := dk_10 (dk_at dksX1_divide_3 3 rfl rfl)
theorem dX1_divide_72 : decode cX1_divide 72 = .ok (.goto 4, 3) := dk_167 0 4 (dk_at dksX1_divide_3 4 rfl rfl)
theorem dX1_divide_75 : decode cX1_divide 75 = .ok (.lconst 0, 1) := dk_9 (dk_at dksX1_divide_3 7 rfl rfl)
theorem dX1_divide_76 : decode cX1_divide 76 = .ok (.ladd, 1) := dk_97 (dk_at dksX1_divide_3 8 rfl rfl)
theorem dX1_divide_77 : decode cX1_divide 77 = .ok (.putfield 24, 3) := dk_181 0 24 (dk_at dksX1_divide_3 9 rfl rfl)
theorem dX1_divide_80 : decode cX1_divide 80 = .ok (.lload 6, 2) := dk_22 6 (dk_at dksX1_divide_3 12 rfl rfl)
theorem dX1_divide_82 : decode cX1_divide 82 = .ok (.lload 8, 2) := dk_22 8 (dk_at dksX1_divide_3 14 rfl rfl)
theorem dX1_divide_84 : decode cX1_divide 84 = .ok (.lcmp, 1) := dk_148 (dk_at dksX1_divide_3 16 rfl rfl)
theorem dX1_divide_85 : decode cX1_divide 85 = .ok (.ifCond .lt 11, 3) := dk_155 0 11 (dk_at dksX1_divide_3 17 rfl rfl)
theorem dX1_divide_88 : decode cX1_divide 88 = .ok (.lload 6, 2) := dk_22 6 (dk_at dksX1_divide_3 20 rfl rfl)
theorem dX1_divide_90 : decode cX1_divide 90 = .ok (.lload 8, 2) := dk_22 8 (dk_at dksX1_divide_3 22 rfl rfl)
theorem dX1_divide_92 : decode cX1_divide 92 = .ok (.lsub, 1) := dk_101 (dk_at dksX1_divide_4 0 rfl rfl)
theorem dX1_divide_93 : decode cX1_divide 93 = .ok (.goto 5, 3) := dk_167 0 5 (dk_at dksX1_divide_4 1 rfl rfl)
theorem dX1_divide_96 : decode cX1_divide 96 = .ok (.lload 6, 2) := dk_22 6 (dk_at dksX1_divide_4 4 rfl rfl)
theorem dX1_divide_98 : decode cX1_divide 98 = .ok (.lstore 6, 2) := dk_55 6 (dk_at dksX1_divide_4 6 rfl rfl)
theorem dX1_divide_100 : decode cX1_divide 100 = .ok (.aload_n 0, 1) := dk_42 (dk_at dksX1_divide_4 8 rfl rfl)
theorem dX1_divide_101 : decode cX1_divide 101 = .ok (.aload_n 0, 1) := dk_42 (dk_at dksX1_divide_4 9 rfl rfl)
theorem dX1_divide_102 : decode cX1_divide 102 = .ok (.getfield 20, 3) := dk_180 0 20 (dk_at dksX1_divide_4 10 rfl rfl)
theorem dX1_divide_105 : decode cX1_divide 105 = .ok (.aload_n 0, 1) := dk_42 (dk_at dksX1_divide_4 13 rfl rfl)
theorem dX1_divide_106 : decode cX1_divide 106 = .ok (.getfield 20, 3) := dk_180 0 20 (dk_at dksX1_divide_4 14 rfl rfl)
theorem dX1_divide_109 : decode cX1_divide 109 = .ok (.ladd, 1) := dk_97 (dk_at dksX1_divide_4 17 rfl rfl)
theorem dX1_divide_110 : decode cX1_divide 110 = .ok (.putfield 20, 3) := dk_181 0 20 (dk_at dksX1_divide_4 18 rfl rfl)
theorem dX1_divide_113 : decode cX1_divide 113 = .ok (.aload_n 0, 1) := dk_42 (dk_at dksX1_divide_4 21 rfl rfl)
theorem dX1_divide_114 : decode cX1_divide 114 = .ok (.getfield 24, 3) := dk_180 0 24 (dk_at dksX1_divide_5 0 rfl rfl)
theorem dX1_divide_117 : decode cX1_divide 117 = .ok (.lload_n 3, 1) := dk_33 (dk_at dksX1_divide_5 3 rfl rfl)
theorem dX1_divide_118 : decode cX1_divide 118 = .ok (.lcmp, 1) := dk_148 (dk_at dksX1_divide_5 4 rfl rfl)
theorem dX1_divide_119 : decode cX1_divide 119 = .ok (.ifCond .lt 23, 3) := dk_155 0 23 (dk_at dksX1_divide_5 5 rfl rfl)
theorem dX1_divide_122 : decode cX1_divide 122 = .ok (.aload_n 0, 1) := dk_42 (dk_at dksX1_divide_5 8 rfl rfl)
theorem dX1_divide_123 : decode cX1_divide 123 = .ok (.dup, 1) := dk_89 (dk_at dksX1_divide_5 9 rfl rfl)
theorem dX1_divide_124 : decode cX1_divide 124 = .ok (.getfield 24, 3) := dk_180 0 24 (dk_at dksX1_divide_5 10 rfl rfl)
theorem dX1_divide_127 : decode cX1_divide 127 = .ok (.lload_n 3, 1) := dk_33 (dk_at dksX1_divide_5 13 rfl rfl)
theorem dX1_divide_128 : decode cX1_divide 128 = .ok (.lsub, 1) := dk_101 (dk_at dksX1_divide_5 14 rfl rfl)
theorem dX1_divide_129 : decode cX1_divide 129 = .ok (.putfield 24, 3) := dk_181 0 24 (dk_at dksX1_divide_5 15 rfl rfl)
theorem dX1_divide_132 : decode cX1_divide 132 = .ok (.aload_n 0, 1) := dk_42 (dk_at dksX1_divide_5 18 rfl rfl)
theorem dX1_divide_133 : decode cX1_divide 133 = .ok (.dup, 1) := dk_89 (dk_at dksX1_divide_5 19 rfl rfl)
theorem dX1_divide_134 : decode cX1_divide 134 = .ok (.getfield 20, 3) := dk_180 0 20 (dk_at dksX1_divide_5 20 rfl rfl)
theorem dX1_divide_137 : decode cX1_divide 137 = .ok (.lconst 1, 1) := dk_10 (dk_at dksX1_divide_5 23 rfl rfl)
theorem dX1_divide_138 : decode cX1_divide 138 = .ok (.ladd, 1) := dk_97 (dk_at dksX1_divide_6 0 rfl rfl)
theorem dX1_divide_139 : decode cX1_divide 139 = .ok (.putfield 20, 3) := dk_181 0 20 (dk_at dksX1_divide_6 1 rfl rfl)
theorem dX1_divide_142 : decode cX1_divide 142 = .ok (.lload 8, 2) := dk_22 8 (dk_at dksX1_divide_6 4 rfl rfl)
theorem dX1_divide_144 : decode cX1_divide 144 = .ok (.ldc2_w 27, 3) := dk_20 0 27 (dk_at dksX1_divide_6 6 rfl rfl)
theorem dX1_divide_147 : decode cX1_divide 147 = .ok (.ldiv, 1) := dk_109 (dk_at dksX1_divide_6 9 rfl rfl)
theorem dX1_divide_148 : decode cX1_divide 148 = .ok (.lstore 8, 2) := dk_55 8 (dk_at dksX1_divide_6 10 rfl rfl)
theorem dX1_divide_150 : decode cX1_divide 150 = .ok (.iinc 10 (-1), 3) := dk_132 10 255 (dk_at dksX1_divide_6 12 rfl rfl)
theorem dX1_divide_153 : decode cX1_divide 153 = .ok (.goto (-105), 3) := dk_167 255 151 (dk_at dksX1_divide_6 15 rfl rfl)
theorem dX1_divide_156 : decode cX1_divide 156 = .ok (.iload 5, 2) := dk_21 5 (dk_at dksX1_divide_6 18 rfl rfl)
theorem dX1_divide_158 : decode cX1_divide 158 = .ok (.ifCond .eq 27, 3) := dk_153 0 27 (dk_at dksX1_divide_6 20 rfl rfl)
theorem dX1_divide_161 : decode cX1_divide 161 = .ok (.aload_n 0, 1) := dk_42 (dk_at dksX1_divide_6 23 rfl rfl)
theorem dX1_divide_162 : decode cX1_divide 162 = .ok (.ldc2_w 18, 3) := dk_20 0 18 (dk_at dksX1_divide_7 0 rfl rfl)
theorem dX1_divide_165 : decode cX1_divide 165 = .ok (.aload_n 0, 1) := dk_42 (dk_at dksX1_divide_7 3 rfl rfl)
theorem dX1_divide_166 : decode cX1_divide 166 = .ok (.getfield 20, 3) := dk_180 0 20 (dk_at dksX1_divide_7 4 rfl rfl)
theorem dX1_divide_169 : decode cX1_divide 169 = .ok (.lsub, 1) := dk_101 (dk_at dksX1_divide_7 7 rfl rfl)
theorem dX1_divide_170 : decode cX1_divide 170 = .ok (.putfield 20, 3) := dk_181 0 20 (dk_at dksX1_divide_7 8 rfl rfl)
theorem dX1_divide_173 : decode cX1_divide 173 = .ok (.aload_n 0, 1) := dk_42 (dk_at dksX1_divide_7 11 rfl rfl)
theorem dX1_divide_174 : decode cX1_divide 174 = .ok (.lload_n 3, 1) := dk_33 (dk_at dksX1_divide_7 12 rfl rfl)
theorem dX1_divide_175 : decode cX1_divide 175 = .ok (.lconst 1, 1) := dk_10 (dk_at dksX1_divide_7 13 rfl rfl)
theorem dX1_divide_176 : decode cX1_divide 176 = .ok (.lsub, 1) := dk_101 (dk_at dksX1_divide_7 14 rfl rfl)
theorem dX1_divide_177 : decode cX1_divide 177 = .ok (.aload_n 0, 1) := dk_42 (dk_at dksX1_divide_7 15 rfl rfl)
theorem dX1_divide_178 : decode cX1_divide 178 = .ok (.getfield 24, 3) := dk_180 0 24 (dk_at dksX1_divide_7 16 rfl rfl)
theorem dX1_divide_181 : decode cX1_divide 181 = .ok (.lsub, 1) := dk_101 (dk_at dksX1_divide_7 19 rfl rfl)
theorem dX1_divide_182 : decode cX1_divide 182 = .ok (.putfield 24, 3) := dk_181 0 24 (dk_at dksX1_divide_7 20 rfl rfl)
theorem dX1_divide_185 : decode cX1_divide 185 = .ok (.return_, 1) := dk_177 (dk_at dksX1_divide_7 23 rfl rfl)
abbrev cX1_restOf : ByteArray := prog_3_method_7_code
def yX1_restOf : MethodName := ⟨RX1, "restOf", "(IIII)J"⟩
def dkwX1_restOf_0 : List UInt8 := [42, 27, 28, 184, 0, 10, 29, 21, 4, 184, 0, 29, 182, 0, 32, 42, 180, 0, 24, 173]
abbrev dktX1_restOf_0 : List UInt8 := dkwX1_restOf_0 ++ []
theorem dksX1_restOf_0 : cX1_restOf.data.toList.drop 0 = dktX1_restOf_0 := by decide +kernel
theorem dX1_restOf_0 : decode cX1_restOf 0 = .ok (.aload_n 0, 1) := dk_42 (dk_at dksX1_restOf_0 0 rfl rfl)
theorem dX1_restOf_1 : decode cX1_restOf 1 = .ok (.iload_n 1, 1) := dk_27 (dk_at dksX1_restOf_0 1 rfl rfl)
theorem dX1_restOf_2 : decode cX1_restOf 2 = .ok (.iload_n 2, 1) := dk_28 (dk_at dksX1_restOf_0 2 rfl rfl)
theorem dX1_restOf_3 : decode cX1_restOf 3 = .ok (.invokestatic 10, 3) := dk_184 0 10 (dk_at dksX1_restOf_0 3 rfl rfl)
theorem dX1_restOf_6 : decode cX1_restOf 6 = .ok (.iload_n 3, 1) := dk_29 (dk_at dksX1_restOf_0 6 rfl rfl)
theorem dX1_restOf_7 : decode cX1_restOf 7 = .ok (.iload 4, 2) := dk_21 4 (dk_at dksX1_restOf_0 7 rfl rfl)
theorem dX1_restOf_9 : decode cX1_restOf 9 = .ok (.invokestatic 29, 3) := dk_184 0 29 (dk_at dksX1_restOf_0 9 rfl rfl)
theorem dX1_restOf_12 : decode cX1_restOf 12 = .ok (.invokevirtual 32, 3) := dk_182 0 32 (dk_at dksX1_restOf_0 12 rfl rfl)
theorem dX1_restOf_15 : decode cX1_restOf 15 = .ok (.aload_n 0, 1) := dk_42 (dk_at dksX1_restOf_0 15 rfl rfl)
theorem dX1_restOf_16 : decode cX1_restOf 16 = .ok (.getfield 24, 3) := dk_180 0 24 (dk_at dksX1_restOf_0 16 rfl rfl)
theorem dX1_restOf_19 : decode cX1_restOf 19 = .ok (.lreturn, 1) := dk_173 (dk_at dksX1_restOf_0 19 rfl rfl)
abbrev cX1_rest : ByteArray := prog_3_method_8_code
def yX1_rest : MethodName := ⟨RX1, "rest", "(III)I"⟩
def dkwX1_rest_0 : List UInt8 := [42, 27, 28, 184, 0, 10, 29, 184, 0, 36, 133, 182, 0, 32, 42, 180, 0, 24, 136, 172]
abbrev dktX1_rest_0 : List UInt8 := dkwX1_rest_0 ++ []
theorem dksX1_rest_0 : cX1_rest.data.toList.drop 0 = dktX1_rest_0 := by decide +kernel
theorem dX1_rest_0 : decode cX1_rest 0 = .ok (.aload_n 0, 1) := dk_42 (dk_at dksX1_rest_0 0 rfl rfl)
theorem dX1_rest_1 : decode cX1_rest 1 = .ok (.iload_n 1, 1) := dk_27 (dk_at dksX1_rest_0 1 rfl rfl)
theorem dX1_rest_2 : decode cX1_rest 2 = .ok (.iload_n 2, 1) := dk_28 (dk_at dksX1_rest_0 2 rfl rfl)
theorem dX1_rest_3 : decode cX1_rest 3 = .ok (.invokestatic 10, 3) := dk_184 0 10 (dk_at dksX1_rest_0 3 rfl rfl)
theorem dX1_rest_6 : decode cX1_rest 6 = .ok (.iload_n 3, 1) := dk_29 (dk_at dksX1_rest_0 6 rfl rfl)
theorem dX1_rest_7 : decode cX1_rest 7 = .ok (.invokestatic 36, 3) := dk_184 0 36 (dk_at dksX1_rest_0 7 rfl rfl)
theorem dX1_rest_10 : decode cX1_rest 10 = .ok (.i2l, 1) := dk_133 (dk_at dksX1_rest_0 10 rfl rfl)
theorem dX1_rest_11 : decode cX1_rest 11 = .ok (.invokevirtual 32, 3) := dk_182 0 32 (dk_at dksX1_rest_0 11 rfl rfl)
theorem dX1_rest_14 : decode cX1_rest 14 = .ok (.aload_n 0, 1) := dk_42 (dk_at dksX1_rest_0 14 rfl rfl)
theorem dX1_rest_15 : decode cX1_rest 15 = .ok (.getfield 24, 3) := dk_180 0 24 (dk_at dksX1_rest_0 15 rfl rfl)
theorem dX1_rest_18 : decode cX1_rest 18 = .ok (.l2i, 1) := dk_136 (dk_at dksX1_rest_0 18 rfl rfl)
theorem dX1_rest_19 : decode cX1_rest 19 = .ok (.ireturn, 1) := dk_172 (dk_at dksX1_rest_0 19 rfl rfl)
abbrev cX1_part_2 : ByteArray := prog_3_method_3_code
def yX1_part_2 : MethodName := ⟨RX1, "part", "(I)I"⟩
def dkwX1_part_2_1 : List UInt8 := [172]
abbrev dktX1_part_2_1 : List UInt8 := dkwX1_part_2_1 ++ []
def dkwX1_part_2_0 : List UInt8 := [26, 18, 9, 112, 26, 156, 0, 15, 26, 18, 9, 112, 153, 0, 8, 18, 9, 167, 0, 4, 3, 96, 4, 96]
abbrev dktX1_part_2_0 : List UInt8 := dkwX1_part_2_0 ++ dktX1_part_2_1
theorem dksX1_part_2_0 : cX1_part_2.data.toList.drop 0 = dktX1_part_2_0 := by decide +kernel
theorem dksX1_part_2_1 : cX1_part_2.data.toList.drop 24 = dktX1_part_2_1 := dk_seg dksX1_part_2_0 24 rfl rfl
theorem dX1_part_2_0 : decode cX1_part_2 0 = .ok (.iload_n 0, 1) := dk_26 (dk_at dksX1_part_2_0 0 rfl rfl)
theorem dX1_part_2_1 : decode cX1_part_2 1 = .ok (.ldc 9, 2) := dk_18 9 (dk_at dksX1_part_2_0 1 rfl rfl)
theorem dX1_part_2_3 : decode cX1_part_2 3 = .ok (.irem, 1) := dk_112 (dk_at dksX1_part_2_0 3 rfl rfl)
theorem dX1_part_2_4 : decode cX1_part_2 4 = .ok (.iload_n 0, 1) := dk_26 (dk_at dksX1_part_2_0 4 rfl rfl)
theorem dX1_part_2_5 : decode cX1_part_2 5 = .ok (.ifCond .ge 15, 3) := dk_156 0 15 (dk_at dksX1_part_2_0 5 rfl rfl)
theorem dX1_part_2_8 : decode cX1_part_2 8 = .ok (.iload_n 0, 1) := dk_26 (dk_at dksX1_part_2_0 8 rfl rfl)
theorem dX1_part_2_9 : decode cX1_part_2 9 = .ok (.ldc 9, 2) := dk_18 9 (dk_at dksX1_part_2_0 9 rfl rfl)
theorem dX1_part_2_11 : decode cX1_part_2 11 = .ok (.irem, 1) := dk_112 (dk_at dksX1_part_2_0 11 rfl rfl)
theorem dX1_part_2_12 : decode cX1_part_2 12 = .ok (.ifCond .eq 8, 3) := dk_153 0 8 (dk_at dksX1_part_2_0 12 rfl rfl)
theorem dX1_part_2_15 : decode cX1_part_2 15 = .ok (.ldc 9, 2) := dk_18 9 (dk_at dksX1_part_2_0 15 rfl rfl)
theorem dX1_part_2_17 : decode cX1_part_2 17 = .ok (.goto 4, 3) := dk_167 0 4 (dk_at dksX1_part_2_0 17 rfl rfl)
theorem dX1_part_2_20 : decode cX1_part_2 20 = .ok (.iconst 0, 1) := dk_3 (dk_at dksX1_part_2_0 20 rfl rfl)
theorem dX1_part_2_21 : decode cX1_part_2 21 = .ok (.iadd, 1) := dk_96 (dk_at dksX1_part_2_0 21 rfl rfl)
theorem dX1_part_2_22 : decode cX1_part_2 22 = .ok (.iconst 1, 1) := dk_4 (dk_at dksX1_part_2_0 22 rfl rfl)
theorem dX1_part_2_23 : decode cX1_part_2 23 = .ok (.iadd, 1) := dk_96 (dk_at dksX1_part_2_0 23 rfl rfl)
theorem dX1_part_2_24 : decode cX1_part_2 24 = .ok (.ireturn, 1) := dk_172 (dk_at dksX1_part_2_1 0 rfl rfl)
abbrev cX1_floor : ByteArray := prog_3_method_9_code
def yX1_floor : MethodName := ⟨RX1, "floor", "(II)I"⟩
def dkwX1_floor_0 : List UInt8 := [42, 27, 133, 28, 184, 0, 36, 133, 182, 0, 32, 42, 180, 0, 20, 136, 172]
abbrev dktX1_floor_0 : List UInt8 := dkwX1_floor_0 ++ []
theorem dksX1_floor_0 : cX1_floor.data.toList.drop 0 = dktX1_floor_0 := by decide +kernel
theorem dX1_floor_0 : decode cX1_floor 0 = .ok (.aload_n 0, 1) := dk_42 (dk_at dksX1_floor_0 0 rfl rfl)
theorem dX1_floor_1 : decode cX1_floor 1 = .ok (.iload_n 1, 1) := dk_27 (dk_at dksX1_floor_0 1 rfl rfl)
theorem dX1_floor_2 : decode cX1_floor 2 = .ok (.i2l, 1) := dk_133 (dk_at dksX1_floor_0 2 rfl rfl)
theorem dX1_floor_3 : decode cX1_floor 3 = .ok (.iload_n 2, 1) := dk_28 (dk_at dksX1_floor_0 3 rfl rfl)
theorem dX1_floor_4 : decode cX1_floor 4 = .ok (.invokestatic 36, 3) := dk_184 0 36 (dk_at dksX1_floor_0 4 rfl rfl)
theorem dX1_floor_7 : decode cX1_floor 7 = .ok (.i2l, 1) := dk_133 (dk_at dksX1_floor_0 7 rfl rfl)
theorem dX1_floor_8 : decode cX1_floor 8 = .ok (.invokevirtual 32, 3) := dk_182 0 32 (dk_at dksX1_floor_0 8 rfl rfl)
theorem dX1_floor_11 : decode cX1_floor 11 = .ok (.aload_n 0, 1) := dk_42 (dk_at dksX1_floor_0 11 rfl rfl)
theorem dX1_floor_12 : decode cX1_floor 12 = .ok (.getfield 20, 3) := dk_180 0 20 (dk_at dksX1_floor_0 12 rfl rfl)
theorem dX1_floor_15 : decode cX1_floor 15 = .ok (.l2i, 1) := dk_136 (dk_at dksX1_floor_0 15 rfl rfl)
theorem dX1_floor_16 : decode cX1_floor 16 = .ok (.ireturn, 1) := dk_172 (dk_at dksX1_floor_0 16 rfl rfl)
abbrev cX1_modulo : ByteArray := prog_3_method_10_code
def yX1_modulo : MethodName := ⟨RX1, "modulo", "(II)I"⟩
def dkwX1_modulo_0 : List UInt8 := [42, 27, 133, 28, 184, 0, 36, 133, 182, 0, 32, 42, 180, 0, 24, 136, 172]
abbrev dktX1_modulo_0 : List UInt8 := dkwX1_modulo_0 ++ []
theorem dksX1_modulo_0 : cX1_modulo.data.toList.drop 0 = dktX1_modulo_0 := by decide +kernel
theorem dX1_modulo_0 : decode cX1_modulo 0 = .ok (.aload_n 0, 1) := dk_42 (dk_at dksX1_modulo_0 0 rfl rfl)
theorem dX1_modulo_1 : decode cX1_modulo 1 = .ok (.iload_n 1, 1) := dk_27 (dk_at dksX1_modulo_0 1 rfl rfl)
theorem dX1_modulo_2 : decode cX1_modulo 2 = .ok (.i2l, 1) := dk_133 (dk_at dksX1_modulo_0 2 rfl rfl)
theorem dX1_modulo_3 : decode cX1_modulo 3 = .ok (.iload_n 2, 1) := dk_28 (dk_at dksX1_modulo_0 3 rfl rfl)
theorem dX1_modulo_4 : decode cX1_modulo 4 = .ok (.invokestatic 36, 3) := dk_184 0 36 (dk_at dksX1_modulo_0 4 rfl rfl)
theorem dX1_modulo_7 : decode cX1_modulo 7 = .ok (.i2l, 1) := dk_133 (dk_at dksX1_modulo_0 7 rfl rfl)
theorem dX1_modulo_8 : decode cX1_modulo 8 = .ok (.invokevirtual 32, 3) := dk_182 0 32 (dk_at dksX1_modulo_0 8 rfl rfl)
theorem dX1_modulo_11 : decode cX1_modulo 11 = .ok (.aload_n 0, 1) := dk_42 (dk_at dksX1_modulo_0 11 rfl rfl)
theorem dX1_modulo_12 : decode cX1_modulo 12 = .ok (.getfield 24, 3) := dk_180 0 24 (dk_at dksX1_modulo_0 12 rfl rfl)
theorem dX1_modulo_15 : decode cX1_modulo 15 = .ok (.l2i, 1) := dk_136 (dk_at dksX1_modulo_0 15 rfl rfl)
theorem dX1_modulo_16 : decode cX1_modulo 16 = .ok (.ireturn, 1) := dk_172 (dk_at dksX1_modulo_0 16 rfl rfl)
abbrev cX1_order : ByteArray := prog_3_method_12_code
def yX1_order : MethodName := ⟨RX1, "order", "(II)I"⟩
def dkwX1_order_0 : List UInt8 := [27, 133, 28, 133, 184, 0, 39, 172]
abbrev dktX1_order_0 : List UInt8 := dkwX1_order_0 ++ []
theorem dksX1_order_0 : cX1_order.data.toList.drop 0 = dktX1_order_0 := by decide +kernel
theorem dX1_order_0 : decode cX1_order 0 = .ok (.iload_n 1, 1) := dk_27 (dk_at dksX1_order_0 0 rfl rfl)
theorem dX1_order_1 : decode cX1_order 1 = .ok (.i2l, 1) := dk_133 (dk_at dksX1_order_0 1 rfl rfl)
theorem dX1_order_2 : decode cX1_order 2 = .ok (.iload_n 2, 1) := dk_28 (dk_at dksX1_order_0 2 rfl rfl)
theorem dX1_order_3 : decode cX1_order 3 = .ok (.i2l, 1) := dk_133 (dk_at dksX1_order_0 3 rfl rfl)
theorem dX1_order_4 : decode cX1_order 4 = .ok (.invokestatic 39, 3) := dk_184 0 39 (dk_at dksX1_order_0 4 rfl rfl)
theorem dX1_order_7 : decode cX1_order 7 = .ok (.ireturn, 1) := dk_172 (dk_at dksX1_order_0 7 rfl rfl)
abbrev cX1_compared : ByteArray := prog_3_method_11_code
def yX1_compared : MethodName := ⟨RX1, "compared", "(JJ)I"⟩
def dkwX1_compared_0 : List UInt8 := [30, 32, 148, 154, 0, 7, 3, 167, 0, 14, 30, 32, 148, 158, 0, 7, 4, 167, 0, 4, 2, 172]
abbrev dktX1_compared_0 : List UInt8 := dkwX1_compared_0 ++ []
theorem dksX1_compared_0 : cX1_compared.data.toList.drop 0 = dktX1_compared_0 := by decide +kernel
theorem dX1_compared_0 : decode cX1_compared 0 = .ok (.lload_n 0, 1) := dk_30 (dk_at dksX1_compared_0 0 rfl rfl)
theorem dX1_compared_1 : decode cX1_compared 1 = .ok (.lload_n 2, 1) := dk_32 (dk_at dksX1_compared_0 1 rfl rfl)
theorem dX1_compared_2 : decode cX1_compared 2 = .ok (.lcmp, 1) := dk_148 (dk_at dksX1_compared_0 2 rfl rfl)
theorem dX1_compared_3 : decode cX1_compared 3 = .ok (.ifCond .ne 7, 3) := dk_154 0 7 (dk_at dksX1_compared_0 3 rfl rfl)
theorem dX1_compared_6 : decode cX1_compared 6 = .ok (.iconst 0, 1) := dk_3 (dk_at dksX1_compared_0 6 rfl rfl)
theorem dX1_compared_7 : decode cX1_compared 7 = .ok (.goto 14, 3) := dk_167 0 14 (dk_at dksX1_compared_0 7 rfl rfl)
theorem dX1_compared_10 : decode cX1_compared 10 = .ok (.lload_n 0, 1) := dk_30 (dk_at dksX1_compared_0 10 rfl rfl)
theorem dX1_compared_11 : decode cX1_compared 11 = .ok (.lload_n 2, 1) := dk_32 (dk_at dksX1_compared_0 11 rfl rfl)
theorem dX1_compared_12 : decode cX1_compared 12 = .ok (.lcmp, 1) := dk_148 (dk_at dksX1_compared_0 12 rfl rfl)
theorem dX1_compared_13 : decode cX1_compared 13 = .ok (.ifCond .le 7, 3) := dk_158 0 7 (dk_at dksX1_compared_0 13 rfl rfl)
theorem dX1_compared_16 : decode cX1_compared 16 = .ok (.iconst 1, 1) := dk_4 (dk_at dksX1_compared_0 16 rfl rfl)
theorem dX1_compared_17 : decode cX1_compared 17 = .ok (.goto 4, 3) := dk_167 0 4 (dk_at dksX1_compared_0 17 rfl rfl)
theorem dX1_compared_20 : decode cX1_compared 20 = .ok (.iconst (-1), 1) := dk_2 (dk_at dksX1_compared_0 20 rfl rfl)
theorem dX1_compared_21 : decode cX1_compared 21 = .ok (.ireturn, 1) := dk_172 (dk_at dksX1_compared_0 21 rfl rfl)
abbrev cX1_orderOf : ByteArray := prog_3_method_13_code
def yX1_orderOf : MethodName := ⟨RX1, "orderOf", "(IIII)I"⟩
def dkwX1_orderOf_0 : List UInt8 := [27, 28, 184, 0, 10, 29, 21, 4, 184, 0, 10, 184, 0, 39, 172]
abbrev dktX1_orderOf_0 : List UInt8 := dkwX1_orderOf_0 ++ []
theorem dksX1_orderOf_0 : cX1_orderOf.data.toList.drop 0 = dktX1_orderOf_0 := by decide +kernel
theorem dX1_orderOf_0 : decode cX1_orderOf 0 = .ok (.iload_n 1, 1) := dk_27 (dk_at dksX1_orderOf_0 0 rfl rfl)
theorem dX1_orderOf_1 : decode cX1_orderOf 1 = .ok (.iload_n 2, 1) := dk_28 (dk_at dksX1_orderOf_0 1 rfl rfl)
theorem dX1_orderOf_2 : decode cX1_orderOf 2 = .ok (.invokestatic 10, 3) := dk_184 0 10 (dk_at dksX1_orderOf_0 2 rfl rfl)
theorem dX1_orderOf_5 : decode cX1_orderOf 5 = .ok (.iload_n 3, 1) := dk_29 (dk_at dksX1_orderOf_0 5 rfl rfl)
theorem dX1_orderOf_6 : decode cX1_orderOf 6 = .ok (.iload 4, 2) := dk_21 4 (dk_at dksX1_orderOf_0 6 rfl rfl)
theorem dX1_orderOf_8 : decode cX1_orderOf 8 = .ok (.invokestatic 10, 3) := dk_184 0 10 (dk_at dksX1_orderOf_0 8 rfl rfl)
theorem dX1_orderOf_11 : decode cX1_orderOf 11 = .ok (.invokestatic 39, 3) := dk_184 0 39 (dk_at dksX1_orderOf_0 11 rfl rfl)
theorem dX1_orderOf_14 : decode cX1_orderOf 14 = .ok (.ireturn, 1) := dk_172 (dk_at dksX1_orderOf_0 14 rfl rfl)
theorem q3 : (Jvm.Cond.initialized "FloorDeskModel") ∈ lw_all := lw_g (lw_at lw_m0 2 rfl) rfl
theorem q76 : (Jvm.Cond.instantiable "FloorDeskModel" (2 : Nat)) ∈ lw_all := lw_g (lw_at lw_m0 75 rfl) rfl
theorem q78 : (Jvm.Cond.instanceMethod ({ cls := "FloorDeskModel", name := "<init>", desc := "()V" } : Jvm.MethodName)) ∈ lw_all := lw_g (lw_at lw_m0 77 rfl) rfl
theorem q79 : (Jvm.Cond.code ({ cls := "FloorDeskModel", name := "<init>", desc := "()V" } : Jvm.MethodName) prog_3_method_1_code (1 : Nat) (Option.none : Option Jvm.ClassFile.FieldType)) ∈ lw_all := lw_g (lw_at lw_m0 78 rfl) rfl
theorem q80 : (Jvm.Cond.methodLink "FloorDeskModel" (1 : Nat) ({ cls := "java/lang/Object", name := "<init>", desc := "()V" } : Jvm.MethodName)) ∈ lw_all := lw_g (lw_at lw_m0 79 rfl) rfl
theorem q81 : (Jvm.Cond.fieldLink "FloorDeskModel" (20 : Nat) "FloorDeskModel" "whole" "J") ∈ lw_all := lw_g (lw_at lw_m0 80 rfl) rfl
theorem q82 : (Jvm.Cond.fieldLink "FloorDeskModel" (24 : Nat) "FloorDeskModel" "left" "J") ∈ lw_all := lw_g (lw_at lw_m0 81 rfl) rfl
theorem q83 : (Jvm.Cond.lays "FloorDeskModel" "FloorDeskModel" "whole" "J") ∈ lw_all := lw_g (lw_at lw_m0 82 rfl) rfl
theorem q84 : (Jvm.Cond.soleField "FloorDeskModel" "whole") ∈ lw_all := lw_g (lw_at lw_m0 83 rfl) rfl
theorem q85 : (Jvm.Cond.lays "FloorDeskModel" "FloorDeskModel" "left" "J") ∈ lw_all := lw_g (lw_at lw_m0 84 rfl) rfl
theorem q86 : (Jvm.Cond.soleField "FloorDeskModel" "left") ∈ lw_all := lw_g (lw_at lw_m0 85 rfl) rfl
theorem q87 : (Jvm.Cond.superclass "FloorDeskModel" "java/lang/Object") ∈ lw_all := lw_g (lw_at lw_m0 86 rfl) rfl
theorem q89 : (Jvm.Cond.instanceMethod ({ cls := "FloorDeskModel", name := "floorOf", desc := "(IIII)J" } : Jvm.MethodName)) ∈ lw_all := lw_g (lw_at lw_m0 88 rfl) rfl
theorem q90 : (Jvm.Cond.selects "FloorDeskModel" ({ cls := "FloorDeskModel", name := "floorOf", desc := "(IIII)J" } : Jvm.MethodName) ({ cls := "FloorDeskModel", name := "floorOf", desc := "(IIII)J" } : Jvm.MethodName)) ∈ lw_all := lw_g (lw_at lw_m0 89 rfl) rfl
theorem q91 : (Jvm.Cond.code ({ cls := "FloorDeskModel", name := "floorOf", desc := "(IIII)J" } : Jvm.MethodName) prog_3_method_6_code (5 : Nat) (Option.some Jvm.ClassFile.FieldType.long)) ∈ lw_all := lw_g (lw_at lw_m0 90 rfl) rfl
theorem q92 : (Jvm.Cond.methodLink "FloorDeskModel" (10 : Nat) ({ cls := "FloorDeskModel", name := "joined", desc := "(II)J" } : Jvm.MethodName)) ∈ lw_all := lw_g (lw_at lw_m0 91 rfl) rfl
theorem q93 : (Jvm.Cond.static ({ cls := "FloorDeskModel", name := "joined", desc := "(II)J" } : Jvm.MethodName)) ∈ lw_all := lw_g (lw_at lw_m0 92 rfl) rfl
theorem q94 : (Jvm.Cond.code ({ cls := "FloorDeskModel", name := "joined", desc := "(II)J" } : Jvm.MethodName) prog_3_method_2_code (4 : Nat) (Option.some Jvm.ClassFile.FieldType.long)) ∈ lw_all := lw_g (lw_at lw_m0 93 rfl) rfl
theorem q95 : (Jvm.Cond.constantLong "FloorDeskModel" (7 : Nat) (4294967296 : Int64)) ∈ lw_all := lw_g (lw_at lw_m0 94 rfl) rfl
theorem q96 : (Jvm.Cond.methodLink "FloorDeskModel" (29 : Nat) ({ cls := "FloorDeskModel", name := "part", desc := "(II)J" } : Jvm.MethodName)) ∈ lw_all := lw_g (lw_at lw_m0 95 rfl) rfl
theorem q97 : (Jvm.Cond.static ({ cls := "FloorDeskModel", name := "part", desc := "(II)J" } : Jvm.MethodName)) ∈ lw_all := lw_g (lw_at lw_m0 96 rfl) rfl
theorem q98 : (Jvm.Cond.code ({ cls := "FloorDeskModel", name := "part", desc := "(II)J" } : Jvm.MethodName) prog_3_method_4_code (6 : Nat) (Option.some Jvm.ClassFile.FieldType.long)) ∈ lw_all := lw_g (lw_at lw_m0 97 rfl) rfl
theorem q99 : (Jvm.Cond.constantLong "FloorDeskModel" (16 : Nat) (4611686018427387904 : Int64)) ∈ lw_all := lw_g (lw_at lw_m0 98 rfl) rfl
theorem q100 : (Jvm.Cond.methodLink "FloorDeskModel" (32 : Nat) ({ cls := "FloorDeskModel", name := "divide", desc := "(JJ)V" } : Jvm.MethodName)) ∈ lw_all := lw_g (lw_at lw_m0 99 rfl) rfl
theorem q101 : (Jvm.Cond.privateMethod ({ cls := "FloorDeskModel", name := "divide", desc := "(JJ)V" } : Jvm.MethodName)) ∈ lw_tbl := lw_at lw_m0 100 rfl
theorem q102 : (Jvm.Cond.instanceMethod ({ cls := "FloorDeskModel", name := "divide", desc := "(JJ)V" } : Jvm.MethodName)) ∈ lw_all := lw_g (lw_at lw_m0 101 rfl) rfl
theorem q103 : (Jvm.Cond.code ({ cls := "FloorDeskModel", name := "divide", desc := "(JJ)V" } : Jvm.MethodName) prog_3_method_5_code (11 : Nat) (Option.none : Option Jvm.ClassFile.FieldType)) ∈ lw_all := lw_g (lw_at lw_m0 102 rfl) rfl
theorem q104 : (Jvm.Cond.constantLong "FloorDeskModel" (18 : Nat) (-1 : Int64)) ∈ lw_all := lw_g (lw_at lw_m0 103 rfl) rfl
theorem q105 : (Jvm.Cond.constantLong "FloorDeskModel" (27 : Nat) (2 : Int64)) ∈ lw_all := lw_g (lw_at lw_m0 104 rfl) rfl
theorem q107 : (Jvm.Cond.instanceMethod ({ cls := "FloorDeskModel", name := "restOf", desc := "(IIII)J" } : Jvm.MethodName)) ∈ lw_all := lw_g (lw_at lw_m0 106 rfl) rfl
theorem q108 : (Jvm.Cond.selects "FloorDeskModel" ({ cls := "FloorDeskModel", name := "restOf", desc := "(IIII)J" } : Jvm.MethodName) ({ cls := "FloorDeskModel", name := "restOf", desc := "(IIII)J" } : Jvm.MethodName)) ∈ lw_all := lw_g (lw_at lw_m0 107 rfl) rfl
theorem q109 : (Jvm.Cond.code ({ cls := "FloorDeskModel", name := "restOf", desc := "(IIII)J" } : Jvm.MethodName) prog_3_method_7_code (5 : Nat) (Option.some Jvm.ClassFile.FieldType.long)) ∈ lw_all := lw_g (lw_at lw_m0 108 rfl) rfl
theorem q111 : (Jvm.Cond.instanceMethod ({ cls := "FloorDeskModel", name := "rest", desc := "(III)I" } : Jvm.MethodName)) ∈ lw_all := lw_g (lw_at lw_m0 110 rfl) rfl
theorem q112 : (Jvm.Cond.selects "FloorDeskModel" ({ cls := "FloorDeskModel", name := "rest", desc := "(III)I" } : Jvm.MethodName) ({ cls := "FloorDeskModel", name := "rest", desc := "(III)I" } : Jvm.MethodName)) ∈ lw_all := lw_g (lw_at lw_m0 111 rfl) rfl
theorem q113 : (Jvm.Cond.code ({ cls := "FloorDeskModel", name := "rest", desc := "(III)I" } : Jvm.MethodName) prog_3_method_8_code (4 : Nat) (Option.some Jvm.ClassFile.FieldType.int)) ∈ lw_all := lw_g (lw_at lw_m0 112 rfl) rfl
theorem q114 : (Jvm.Cond.methodLink "FloorDeskModel" (36 : Nat) ({ cls := "FloorDeskModel", name := "part", desc := "(I)I" } : Jvm.MethodName)) ∈ lw_all := lw_g (lw_at lw_m0 113 rfl) rfl
theorem q115 : (Jvm.Cond.static ({ cls := "FloorDeskModel", name := "part", desc := "(I)I" } : Jvm.MethodName)) ∈ lw_all := lw_g (lw_at lw_m0 114 rfl) rfl
theorem q116 : (Jvm.Cond.code ({ cls := "FloorDeskModel", name := "part", desc := "(I)I" } : Jvm.MethodName) prog_3_method_3_code (1 : Nat) (Option.some Jvm.ClassFile.FieldType.int)) ∈ lw_all := lw_g (lw_at lw_m0 115 rfl) rfl
theorem q117 : (Jvm.Cond.constant "FloorDeskModel" (9 : Nat) (1073741824 : Int32)) ∈ lw_all := lw_g (lw_at lw_m0 116 rfl) rfl
theorem q119 : (Jvm.Cond.instanceMethod ({ cls := "FloorDeskModel", name := "floor", desc := "(II)I" } : Jvm.MethodName)) ∈ lw_all := lw_g (lw_at lw_m0 118 rfl) rfl
theorem q120 : (Jvm.Cond.selects "FloorDeskModel" ({ cls := "FloorDeskModel", name := "floor", desc := "(II)I" } : Jvm.MethodName) ({ cls := "FloorDeskModel", name := "floor", desc := "(II)I" } : Jvm.MethodName)) ∈ lw_all := lw_g (lw_at lw_m0 119 rfl) rfl
theorem q121 : (Jvm.Cond.code ({ cls := "FloorDeskModel", name := "floor", desc := "(II)I" } : Jvm.MethodName) prog_3_method_9_code (3 : Nat) (Option.some Jvm.ClassFile.FieldType.int)) ∈ lw_all := lw_g (lw_at lw_m0 120 rfl) rfl
theorem q123 : (Jvm.Cond.instanceMethod ({ cls := "FloorDeskModel", name := "modulo", desc := "(II)I" } : Jvm.MethodName)) ∈ lw_all := lw_g (lw_at lw_m0 122 rfl) rfl
theorem q124 : (Jvm.Cond.selects "FloorDeskModel" ({ cls := "FloorDeskModel", name := "modulo", desc := "(II)I" } : Jvm.MethodName) ({ cls := "FloorDeskModel", name := "modulo", desc := "(II)I" } : Jvm.MethodName)) ∈ lw_all := lw_g (lw_at lw_m0 123 rfl) rfl
theorem q125 : (Jvm.Cond.code ({ cls := "FloorDeskModel", name := "modulo", desc := "(II)I" } : Jvm.MethodName) prog_3_method_10_code (3 : Nat) (Option.some Jvm.ClassFile.FieldType.int)) ∈ lw_all := lw_g (lw_at lw_m0 124 rfl) rfl
theorem q127 : (Jvm.Cond.instanceMethod ({ cls := "FloorDeskModel", name := "order", desc := "(II)I" } : Jvm.MethodName)) ∈ lw_all := lw_g (lw_at lw_m0 126 rfl) rfl
theorem q128 : (Jvm.Cond.selects "FloorDeskModel" ({ cls := "FloorDeskModel", name := "order", desc := "(II)I" } : Jvm.MethodName) ({ cls := "FloorDeskModel", name := "order", desc := "(II)I" } : Jvm.MethodName)) ∈ lw_all := lw_g (lw_at lw_m0 127 rfl) rfl
theorem q129 : (Jvm.Cond.code ({ cls := "FloorDeskModel", name := "order", desc := "(II)I" } : Jvm.MethodName) prog_3_method_12_code (3 : Nat) (Option.some Jvm.ClassFile.FieldType.int)) ∈ lw_all := lw_g (lw_at lw_m0 128 rfl) rfl
theorem q130 : (Jvm.Cond.methodLink "FloorDeskModel" (39 : Nat) ({ cls := "FloorDeskModel", name := "compared", desc := "(JJ)I" } : Jvm.MethodName)) ∈ lw_all := lw_g (lw_at lw_m0 129 rfl) rfl
theorem q131 : (Jvm.Cond.static ({ cls := "FloorDeskModel", name := "compared", desc := "(JJ)I" } : Jvm.MethodName)) ∈ lw_all := lw_g (lw_at lw_m0 130 rfl) rfl
theorem q132 : (Jvm.Cond.code ({ cls := "FloorDeskModel", name := "compared", desc := "(JJ)I" } : Jvm.MethodName) prog_3_method_11_code (4 : Nat) (Option.some Jvm.ClassFile.FieldType.int)) ∈ lw_all := lw_g (lw_at lw_m0 131 rfl) rfl
theorem q134 : (Jvm.Cond.instanceMethod ({ cls := "FloorDeskModel", name := "orderOf", desc := "(IIII)I" } : Jvm.MethodName)) ∈ lw_all := lw_g (lw_at lw_m0 133 rfl) rfl
theorem q135 : (Jvm.Cond.selects "FloorDeskModel" ({ cls := "FloorDeskModel", name := "orderOf", desc := "(IIII)I" } : Jvm.MethodName) ({ cls := "FloorDeskModel", name := "orderOf", desc := "(IIII)I" } : Jvm.MethodName)) ∈ lw_all := lw_g (lw_at lw_m0 134 rfl) rfl
theorem q136 : (Jvm.Cond.code ({ cls := "FloorDeskModel", name := "orderOf", desc := "(IIII)I" } : Jvm.MethodName) prog_3_method_13_code (5 : Nat) (Option.some Jvm.ClassFile.FieldType.int)) ∈ lw_all := lw_g (lw_at lw_m0 135 rfl) rfl
theorem in_X1 : ∀ w ∈ wsX10, w ∈ lw_all := lw_in wsX10 [83, 85] (by decide +kernel) (by decide +kernel)
end
section
theorem q1 : (Jvm.Cond.initialized "FloorDeskLaw") ∈ lw_all := lw_g (lw_at lw_m0 0 rfl) rfl
set_option maxRecDepth 100000
theorem q5 : (Jvm.Cond.classLink "FloorDeskLaw" (7 : Nat) "FloorDesk") ∈ lw_all := lw_g (lw_at lw_m0 4 rfl) rfl
theorem q7 : (Jvm.Cond.methodLink "FloorDeskLaw" (9 : Nat) ({ cls := "FloorDesk", name := "<init>", desc := "()V" } : Jvm.MethodName)) ∈ lw_all := lw_g (lw_at lw_m0 6 rfl) rfl
theorem q14 : (Jvm.Cond.methodLink "FloorDeskLaw" (13 : Nat) ({ cls := "FloorDesk", name := "floorOf", desc := "(IIII)J" } : Jvm.MethodName)) ∈ lw_all := lw_g (lw_at lw_m0 13 rfl) rfl
theorem q29 : (Jvm.Cond.methodLink "FloorDeskLaw" (18 : Nat) ({ cls := "FloorDesk", name := "restOf", desc := "(IIII)J" } : Jvm.MethodName)) ∈ lw_all := lw_g (lw_at lw_m0 28 rfl) rfl
theorem q36 : (Jvm.Cond.methodLink "FloorDeskLaw" (22 : Nat) ({ cls := "FloorDesk", name := "rest", desc := "(III)I" } : Jvm.MethodName)) ∈ lw_all := lw_g (lw_at lw_m0 35 rfl) rfl
theorem q47 : (Jvm.Cond.methodLink "FloorDeskLaw" (27 : Nat) ({ cls := "FloorDesk", name := "floor", desc := "(II)I" } : Jvm.MethodName)) ∈ lw_all := lw_g (lw_at lw_m0 46 rfl) rfl
theorem q54 : (Jvm.Cond.methodLink "FloorDeskLaw" (32 : Nat) ({ cls := "FloorDesk", name := "modulo", desc := "(II)I" } : Jvm.MethodName)) ∈ lw_all := lw_g (lw_at lw_m0 53 rfl) rfl
theorem q61 : (Jvm.Cond.methodLink "FloorDeskLaw" (36 : Nat) ({ cls := "FloorDesk", name := "order", desc := "(II)I" } : Jvm.MethodName)) ∈ lw_all := lw_g (lw_at lw_m0 60 rfl) rfl
theorem q68 : (Jvm.Cond.methodLink "FloorDeskLaw" (40 : Nat) ({ cls := "FloorDesk", name := "orderOf", desc := "(IIII)I" } : Jvm.MethodName)) ∈ lw_all := lw_g (lw_at lw_m0 67 rfl) rfl
theorem q75 : (Jvm.Cond.classLink "FloorDeskLaw" (10 : Nat) "FloorDeskModel") ∈ lw_all := lw_g (lw_at lw_m0 74 rfl) rfl
theorem q77 : (Jvm.Cond.methodLink "FloorDeskLaw" (12 : Nat) ({ cls := "FloorDeskModel", name := "<init>", desc := "()V" } : Jvm.MethodName)) ∈ lw_all := lw_g (lw_at lw_m0 76 rfl) rfl
theorem q88 : (Jvm.Cond.methodLink "FloorDeskLaw" (17 : Nat) ({ cls := "FloorDeskModel", name := "floorOf", desc := "(IIII)J" } : Jvm.MethodName)) ∈ lw_all := lw_g (lw_at lw_m0 87 rfl) rfl
theorem q106 : (Jvm.Cond.methodLink "FloorDeskLaw" (21 : Nat) ({ cls := "FloorDeskModel", name := "restOf", desc := "(IIII)J" } : Jvm.MethodName)) ∈ lw_all := lw_g (lw_at lw_m0 105 rfl) rfl
theorem q110 : (Jvm.Cond.methodLink "FloorDeskLaw" (26 : Nat) ({ cls := "FloorDeskModel", name := "rest", desc := "(III)I" } : Jvm.MethodName)) ∈ lw_all := lw_g (lw_at lw_m0 109 rfl) rfl
theorem q118 : (Jvm.Cond.methodLink "FloorDeskLaw" (31 : Nat) ({ cls := "FloorDeskModel", name := "floor", desc := "(II)I" } : Jvm.MethodName)) ∈ lw_all := lw_g (lw_at lw_m0 117 rfl) rfl
theorem q122 : (Jvm.Cond.methodLink "FloorDeskLaw" (35 : Nat) ({ cls := "FloorDeskModel", name := "modulo", desc := "(II)I" } : Jvm.MethodName)) ∈ lw_all := lw_g (lw_at lw_m0 121 rfl) rfl
theorem q126 : (Jvm.Cond.methodLink "FloorDeskLaw" (39 : Nat) ({ cls := "FloorDeskModel", name := "order", desc := "(II)I" } : Jvm.MethodName)) ∈ lw_all := lw_g (lw_at lw_m0 125 rfl) rfl
theorem q133 : (Jvm.Cond.methodLink "FloorDeskLaw" (44 : Nat) ({ cls := "FloorDeskModel", name := "orderOf", desc := "(IIII)I" } : Jvm.MethodName)) ∈ lw_all := lw_g (lw_at lw_m0 132 rfl) rfl
/-! the law's own entry -/
set_option maxRecDepth 100000
abbrev cL_law : ByteArray := code
def dkwL_law_15 : List UInt8 := [6, 96, 46, 42, 29, 7, 96, 46, 182, 0, 44, 159, 0, 5, 3, 172, 132, 3, 6, 167, 254, 148, 4, 172]
abbrev dktL_law_15 : List UInt8 := dkwL_law_15 ++ []
def dkwL_law_14 : List UInt8 := [6, 96, 46, 42, 29, 7, 96, 46, 182, 0, 40, 44, 42, 29, 4, 96, 46, 42, 29, 5, 96, 46, 42, 29]
abbrev dktL_law_14 : List UInt8 := dkwL_law_14 ++ dktL_law_15
def dkwL_law_13 : List UInt8 := [5, 96, 46, 182, 0, 39, 159, 0, 58, 3, 172, 43, 42, 29, 4, 96, 46, 42, 29, 5, 96, 46, 42, 29]
abbrev dktL_law_13 : List UInt8 := dkwL_law_13 ++ dktL_law_14
def dkwL_law_12 : List UInt8 := [3, 172, 43, 42, 29, 4, 96, 46, 42, 29, 5, 96, 46, 182, 0, 36, 44, 42, 29, 4, 96, 46, 42, 29]
abbrev dktL_law_12 : List UInt8 := dkwL_law_12 ++ dktL_law_13
def dkwL_law_11 : List UInt8 := [29, 5, 96, 46, 182, 0, 32, 44, 42, 29, 4, 96, 46, 42, 29, 5, 96, 46, 182, 0, 35, 159, 0, 91]
abbrev dktL_law_11 : List UInt8 := dkwL_law_11 ++ dktL_law_12
def dkwL_law_10 : List UInt8 := [29, 4, 96, 46, 42, 29, 5, 96, 46, 182, 0, 31, 159, 0, 124, 3, 172, 43, 42, 29, 4, 96, 46, 42]
abbrev dktL_law_10 : List UInt8 := dkwL_law_10 ++ dktL_law_11
def dkwL_law_9 : List UInt8 := [182, 0, 26, 159, 0, 157, 3, 172, 43, 42, 29, 4, 96, 46, 42, 29, 5, 96, 46, 182, 0, 27, 44, 42]
abbrev dktL_law_9 : List UInt8 := dkwL_law_9 ++ dktL_law_10
def dkwL_law_8 : List UInt8 := [29, 6, 96, 46, 182, 0, 22, 44, 42, 29, 4, 96, 46, 42, 29, 5, 96, 46, 42, 29, 6, 96, 46]
abbrev dktL_law_8 : List UInt8 := dkwL_law_8 ++ dktL_law_9
def dkwL_law_7 : List UInt8 := [7, 96, 46, 182, 0, 21, 148, 153, 0, 200, 3, 172, 43, 42, 29, 4, 96, 46, 42, 29, 5, 96, 46, 42]
abbrev dktL_law_7 : List UInt8 := dkwL_law_7 ++ dktL_law_8
def dkwL_law_6 : List UInt8 := [7, 96, 46, 182, 0, 18, 44, 42, 29, 4, 96, 46, 42, 29, 5, 96, 46, 42, 29, 6, 96, 46, 42, 29]
abbrev dktL_law_6 : List UInt8 := dkwL_law_6 ++ dktL_law_7
def dkwL_law_5 : List UInt8 := [148, 153, 0, 254, 3, 172, 43, 42, 29, 4, 96, 46, 42, 29, 5, 96, 46, 42, 29, 6, 96, 46, 42, 29]
abbrev dktL_law_5 : List UInt8 := dkwL_law_5 ++ dktL_law_6
def dkwL_law_4 : List UInt8 := [44, 42, 29, 4, 96, 46, 42, 29, 5, 96, 46, 42, 29, 6, 96, 46, 42, 29, 7, 96, 46, 182, 0, 17]
abbrev dktL_law_4 : List UInt8 := dkwL_law_4 ++ dktL_law_5
def dkwL_law_3 : List UInt8 := [43, 42, 29, 4, 96, 46, 42, 29, 5, 96, 46, 42, 29, 6, 96, 46, 42, 29, 7, 96, 46, 182, 0, 13]
abbrev dktL_law_3 : List UInt8 := dkwL_law_3 ++ dktL_law_4
def dkwL_law_2 : List UInt8 := [170, 0, 0, 0, 0, 1, 90, 0, 0, 0, 0, 0, 0, 0, 6, 0, 0, 0, 43, 0, 0, 0, 97, 0, 0, 0, 151, 0, 0, 0, 194, 0, 0, 0, 227, 0, 0, 1, 4, 0, 0, 1, 37]
abbrev dktL_law_2 : List UInt8 := dkwL_law_2 ++ dktL_law_3
def dkwL_law_1 : List UInt8 := [163, 1, 105, 42, 29, 46, 16, 7, 126]
abbrev dktL_law_1 : List UInt8 := dkwL_law_1 ++ dktL_law_2
def dkwL_law_0 : List UInt8 := [187, 0, 7, 89, 183, 0, 9, 76, 187, 0, 10, 89, 183, 0, 12, 77, 3, 62, 29, 42, 190, 16, 6, 100]
abbrev dktL_law_0 : List UInt8 := dkwL_law_0 ++ dktL_law_1
theorem dksL_law_0 : cL_law.data.toList.drop 0 = dktL_law_0 := by decide +kernel
theorem dksL_law_1 : cL_law.data.toList.drop 24 = dktL_law_1 := dk_seg dksL_law_0 24 rfl rfl
theorem dksL_law_2 : cL_law.data.toList.drop 33 = dktL_law_2 := dk_seg dksL_law_1 9 rfl rfl
theorem dksL_law_3 : cL_law.data.toList.drop 76 = dktL_law_3 := dk_seg dksL_law_2 43 rfl rfl
theorem dksL_law_4 : cL_law.data.toList.drop 100 = dktL_law_4 := dk_seg dksL_law_3 24 rfl rfl
theorem dksL_law_5 : cL_law.data.toList.drop 124 = dktL_law_5 := dk_seg dksL_law_4 24 rfl rfl
theorem dksL_law_6 : cL_law.data.toList.drop 148 = dktL_law_6 := dk_seg dksL_law_5 24 rfl rfl
theorem dksL_law_7 : cL_law.data.toList.drop 172 = dktL_law_7 := dk_seg dksL_law_6 24 rfl rfl
theorem dksL_law_8 : cL_law.data.toList.drop 196 = dktL_law_8 := dk_seg dksL_law_7 24 rfl rfl
theorem dksL_law_9 : cL_law.data.toList.drop 219 = dktL_law_9 := dk_seg dksL_law_8 23 rfl rfl
theorem dksL_law_10 : cL_law.data.toList.drop 243 = dktL_law_10 := dk_seg dksL_law_9 24 rfl rfl
theorem dksL_law_11 : cL_law.data.toList.drop 267 = dktL_law_11 := dk_seg dksL_law_10 24 rfl rfl
theorem dksL_law_12 : cL_law.data.toList.drop 291 = dktL_law_12 := dk_seg dksL_law_11 24 rfl rfl
theorem dksL_law_13 : cL_law.data.toList.drop 315 = dktL_law_13 := dk_seg dksL_law_12 24 rfl rfl
theorem dksL_law_14 : cL_law.data.toList.drop 339 = dktL_law_14 := dk_seg dksL_law_13 24 rfl rfl
theorem dksL_law_15 : cL_law.data.toList.drop 363 = dktL_law_15 := dk_seg dksL_law_14 24 rfl rfl
theorem dL_law_0 : decode cL_law 0 = .ok (.new 7, 3) := dk_187 0 7 (dk_at dksL_law_0 0 rfl rfl)
theorem dL_law_3 : decode cL_law 3 = .ok (.dup, 1) := dk_89 (dk_at dksL_law_0 3 rfl rfl)
theorem dL_law_4 : decode cL_law 4 = .ok (.invokespecial 9, 3) := dk_183 0 9 (dk_at dksL_law_0 4 rfl rfl)
theorem dL_law_7 : decode cL_law 7 = .ok (.astore_n 1, 1) := dk_76 (dk_at dksL_law_0 7 rfl rfl)
theorem dL_law_8 : decode cL_law 8 = .ok (.new 10, 3) := dk_187 0 10 (dk_at dksL_law_0 8 rfl rfl)
theorem dL_law_11 : decode cL_law 11 = .ok (.dup, 1) := dk_89 (dk_at dksL_law_0 11 rfl rfl)
theorem dL_law_12 : decode cL_law 12 = .ok (.invokespecial 12, 3) := dk_183 0 12 (dk_at dksL_law_0 12 rfl rfl)
theorem dL_law_15 : decode cL_law 15 = .ok (.astore_n 2, 1) := dk_77 (dk_at dksL_law_0 15 rfl rfl)
theorem dL_law_16 : decode cL_law 16 = .ok (.iconst 0, 1) := dk_3 (dk_at dksL_law_0 16 rfl rfl)
theorem dL_law_17 : decode cL_law 17 = .ok (.istore_n 3, 1) := dk_62 (dk_at dksL_law_0 17 rfl rfl)
theorem dL_law_18 : decode cL_law 18 = .ok (.iload_n 3, 1) := dk_29 (dk_at dksL_law_0 18 rfl rfl)
theorem dL_law_19 : decode cL_law 19 = .ok (.aload_n 0, 1) := dk_42 (dk_at dksL_law_0 19 rfl rfl)
theorem dL_law_20 : decode cL_law 20 = .ok (.arraylength, 1) := dk_190 (dk_at dksL_law_0 20 rfl rfl)
theorem dL_law_21 : decode cL_law 21 = .ok (.bipush 6, 2) := dk_16 6 (dk_at dksL_law_0 21 rfl rfl)
theorem dL_law_23 : decode cL_law 23 = .ok (.isub, 1) := dk_100 (dk_at dksL_law_0 23 rfl rfl)
theorem dL_law_24 : decode cL_law 24 = .ok (.if_icmp .gt 361, 3) := dk_163 1 105 (dk_at dksL_law_1 0 rfl rfl)
theorem dL_law_27 : decode cL_law 27 = .ok (.aload_n 0, 1) := dk_42 (dk_at dksL_law_1 3 rfl rfl)
theorem dL_law_28 : decode cL_law 28 = .ok (.iload_n 3, 1) := dk_29 (dk_at dksL_law_1 4 rfl rfl)
theorem dL_law_29 : decode cL_law 29 = .ok (.iaload, 1) := dk_46 (dk_at dksL_law_1 5 rfl rfl)
theorem dL_law_30 : decode cL_law 30 = .ok (.bipush 7, 2) := dk_16 7 (dk_at dksL_law_1 6 rfl rfl)
theorem dL_law_32 : decode cL_law 32 = .ok (.iand, 1) := dk_126 (dk_at dksL_law_1 8 rfl rfl)
theorem dL_law_33 : decode cL_law 33 = .ok (.tableswitch 346 0 6 #[43, 97, 151, 194, 227, 260, 293], 43) := by decide +kernel
theorem dL_law_76 : decode cL_law 76 = .ok (.aload_n 1, 1) := dk_43 (dk_at dksL_law_3 0 rfl rfl)
theorem dL_law_77 : decode cL_law 77 = .ok (.aload_n 0, 1) := dk_42 (dk_at dksL_law_3 1 rfl rfl)
theorem dL_law_78 : decode cL_law 78 = .ok (.iload_n 3, 1) := dk_29 (dk_at dksL_law_3 2 rfl rfl)
theorem dL_law_79 : decode cL_law 79 = .ok (.iconst 1, 1) := dk_4 (dk_at dksL_law_3 3 rfl rfl)
theorem dL_law_80 : decode cL_law 80 = .ok (.iadd, 1) := dk_96 (dk_at dksL_law_3 4 rfl rfl)
theorem dL_law_81 : decode cL_law 81 = .ok (.iaload, 1) := dk_46 (dk_at dksL_law_3 5 rfl rfl)
theorem dL_law_82 : decode cL_law 82 = .ok (.aload_n 0, 1) := dk_42 (dk_at dksL_law_3 6 rfl rfl)
theorem dL_law_83 : decode cL_law 83 = .ok (.iload_n 3, 1) := dk_29 (dk_at dksL_law_3 7 rfl rfl)
theorem dL_law_84 : decode cL_law 84 = .ok (.iconst 2, 1) := dk_5 (dk_at dksL_law_3 8 rfl rfl)
theorem dL_law_85 : decode cL_law 85 = .ok (.iadd, 1) := dk_96 (dk_at dksL_law_3 9 rfl rfl)
theorem dL_law_86 : decode cL_law 86 = .ok (.iaload, 1) := dk_46 (dk_at dksL_law_3 10 rfl rfl)
theorem dL_law_87 : decode cL_law 87 = .ok (.aload_n 0, 1) := dk_42 (dk_at dksL_law_3 11 rfl rfl)
theorem dL_law_88 : decode cL_law 88 = .ok (.iload_n 3, 1) := dk_29 (dk_at dksL_law_3 12 rfl rfl)
theorem dL_law_89 : decode cL_law 89 = .ok (.iconst 3, 1) := dk_6 (dk_at dksL_law_3 13 rfl rfl)
theorem dL_law_90 : decode cL_law 90 = .ok (.iadd, 1) := dk_96 (dk_at dksL_law_3 14 rfl rfl)
theorem dL_law_91 : decode cL_law 91 = .ok (.iaload, 1) := dk_46 (dk_at dksL_law_3 15 rfl rfl)
theorem dL_law_92 : decode cL_law 92 = .ok (.aload_n 0, 1) := dk_42 (dk_at dksL_law_3 16 rfl rfl)
theorem dL_law_93 : decode cL_law 93 = .ok (.iload_n 3, 1) := dk_29 (dk_at dksL_law_3 17 rfl rfl)
theorem dL_law_94 : decode cL_law 94 = .ok (.iconst 4, 1) := dk_7 (dk_at dksL_law_3 18 rfl rfl)
theorem dL_law_95 : decode cL_law 95 = .ok (.iadd, 1) := dk_96 (dk_at dksL_law_3 19 rfl rfl)
theorem dL_law_96 : decode cL_law 96 = .ok (.iaload, 1) := dk_46 (dk_at dksL_law_3 20 rfl rfl)
theorem dL_law_97 : decode cL_law 97 = .ok (.invokevirtual 13, 3) := dk_182 0 13 (dk_at dksL_law_3 21 rfl rfl)
theorem dL_law_100 : decode cL_law 100 = .ok (.aload_n 2, 1) := dk_44 (dk_at dksL_law_4 0 rfl rfl)
theorem dL_law_101 : decode cL_law 101 = .ok (.aload_n 0, 1) := dk_42 (dk_at dksL_law_4 1 rfl rfl)
theorem dL_law_102 : decode cL_law 102 = .ok (.iload_n 3, 1) := dk_29 (dk_at dksL_law_4 2 rfl rfl)
theorem dL_law_103 : decode cL_law 103 = .ok (.iconst 1, 1) := dk_4 (dk_at dksL_law_4 3 rfl rfl)
theorem dL_law_104 : decode cL_law 104 = .ok (.iadd, 1) := dk_96 (dk_at dksL_law_4 4 rfl rfl)
theorem dL_law_105 : decode cL_law 105 = .ok (.iaload, 1) := dk_46 (dk_at dksL_law_4 5 rfl rfl)
theorem dL_law_106 : decode cL_law 106 = .ok (.aload_n 0, 1) := dk_42 (dk_at dksL_law_4 6 rfl rfl)
theorem dL_law_107 : decode cL_law 107 = .ok (.iload_n 3, 1) := dk_29 (dk_at dksL_law_4 7 rfl rfl)
theorem dL_law_108 : decode cL_law 108 = .ok (.iconst 2, 1) := dk_5 (dk_at dksL_law_4 8 rfl rfl)
theorem dL_law_109 : decode cL_law 109 = .ok (.iadd, 1) := dk_96 (dk_at dksL_law_4 9 rfl rfl)
theorem dL_law_110 : decode cL_law 110 = .ok (.iaload, 1) := dk_46 (dk_at dksL_law_4 10 rfl rfl)
theorem dL_law_111 : decode cL_law 111 = .ok (.aload_n 0, 1) := dk_42 (dk_at dksL_law_4 11 rfl rfl)
theorem dL_law_112 : decode cL_law 112 = .ok (.iload_n 3, 1) := dk_29 (dk_at dksL_law_4 12 rfl rfl)
theorem dL_law_113 : decode cL_law 113 = .ok (.iconst 3, 1) := dk_6 (dk_at dksL_law_4 13 rfl rfl)
theorem dL_law_114 : decode cL_law 114 = .ok (.iadd, 1) := dk_96 (dk_at dksL_law_4 14 rfl rfl)
theorem dL_law_115 : decode cL_law 115 = .ok (.iaload, 1) := dk_46 (dk_at dksL_law_4 15 rfl rfl)
theorem dL_law_116 : decode cL_law 116 = .ok (.aload_n 0, 1) := dk_42 (dk_at dksL_law_4 16 rfl rfl)
theorem dL_law_117 : decode cL_law 117 = .ok (.iload_n 3, 1) := dk_29 (dk_at dksL_law_4 17 rfl rfl)
theorem dL_law_118 : decode cL_law 118 = .ok (.iconst 4, 1) := dk_7 (dk_at dksL_law_4 18 rfl rfl)
theorem dL_law_119 : decode cL_law 119 = .ok (.iadd, 1) := dk_96 (dk_at dksL_law_4 19 rfl rfl)
theorem dL_law_120 : decode cL_law 120 = .ok (.iaload, 1) := dk_46 (dk_at dksL_law_4 20 rfl rfl)
theorem dL_law_121 : decode cL_law 121 = .ok (.invokevirtual 17, 3) := dk_182 0 17 (dk_at dksL_law_4 21 rfl rfl)
theorem dL_law_124 : decode cL_law 124 = .ok (.lcmp, 1) := dk_148 (dk_at dksL_law_5 0 rfl rfl)
theorem dL_law_125 : decode cL_law 125 = .ok (.ifCond .eq 254, 3) := dk_153 0 254 (dk_at dksL_law_5 1 rfl rfl)
theorem dL_law_128 : decode cL_law 128 = .ok (.iconst 0, 1) := dk_3 (dk_at dksL_law_5 4 rfl rfl)
theorem dL_law_129 : decode cL_law 129 = .ok (.ireturn, 1) := dk_172 (dk_at dksL_law_5 5 rfl rfl)
theorem dL_law_130 : decode cL_law 130 = .ok (.aload_n 1, 1) := dk_43 (dk_at dksL_law_5 6 rfl rfl)
theorem dL_law_131 : decode cL_law 131 = .ok (.aload_n 0, 1) := dk_42 (dk_at dksL_law_5 7 rfl rfl)
theorem dL_law_132 : decode cL_law 132 = .ok (.iload_n 3, 1) := dk_29 (dk_at dksL_law_5 8 rfl rfl)
theorem dL_law_133 : decode cL_law 133 = .ok (.iconst 1, 1) := dk_4 (dk_at dksL_law_5 9 rfl rfl)
theorem dL_law_134 : decode cL_law 134 = .ok (.iadd, 1) := dk_96 (dk_at dksL_law_5 10 rfl rfl)
theorem dL_law_135 : decode cL_law 135 = .ok (.iaload, 1) := dk_46 (dk_at dksL_law_5 11 rfl rfl)
theorem dL_law_136 : decode cL_law 136 = .ok (.aload_n 0, 1) := dk_42 (dk_at dksL_law_5 12 rfl rfl)
theorem dL_law_137 : decode cL_law 137 = .ok (.iload_n 3, 1) := dk_29 (dk_at dksL_law_5 13 rfl rfl)
theorem dL_law_138 : decode cL_law 138 = .ok (.iconst 2, 1) := dk_5 (dk_at dksL_law_5 14 rfl rfl)
theorem dL_law_139 : decode cL_law 139 = .ok (.iadd, 1) := dk_96 (dk_at dksL_law_5 15 rfl rfl)
theorem dL_law_140 : decode cL_law 140 = .ok (.iaload, 1) := dk_46 (dk_at dksL_law_5 16 rfl rfl)
theorem dL_law_141 : decode cL_law 141 = .ok (.aload_n 0, 1) := dk_42 (dk_at dksL_law_5 17 rfl rfl)
theorem dL_law_142 : decode cL_law 142 = .ok (.iload_n 3, 1) := dk_29 (dk_at dksL_law_5 18 rfl rfl)
theorem dL_law_143 : decode cL_law 143 = .ok (.iconst 3, 1) := dk_6 (dk_at dksL_law_5 19 rfl rfl)
theorem dL_law_144 : decode cL_law 144 = .ok (.iadd, 1) := dk_96 (dk_at dksL_law_5 20 rfl rfl)
theorem dL_law_145 : decode cL_law 145 = .ok (.iaload, 1) := dk_46 (dk_at dksL_law_5 21 rfl rfl)
theorem dL_law_146 : decode cL_law 146 = .ok (.aload_n 0, 1) := dk_42 (dk_at dksL_law_5 22 rfl rfl)
theorem dL_law_147 : decode cL_law 147 = .ok (.iload_n 3, 1) := dk_29 (dk_at dksL_law_5 23 rfl rfl)
theorem dL_law_148 : decode cL_law 148 = .ok (.iconst 4, 1) := dk_7 (dk_at dksL_law_6 0 rfl rfl)
theorem dL_law_149 : decode cL_law 149 = .ok (.iadd, 1) := dk_96 (dk_at dksL_law_6 1 rfl rfl)
theorem dL_law_150 : decode cL_law 150 = .ok (.iaload, 1) := dk_46 (dk_at dksL_law_6 2 rfl rfl)
theorem dL_law_151 : decode cL_law 151 = .ok (.invokevirtual 18, 3) := dk_182 0 18 (dk_at dksL_law_6 3 rfl rfl)
theorem dL_law_154 : decode cL_law 154 = .ok (.aload_n 2, 1) := dk_44 (dk_at dksL_law_6 6 rfl rfl)
theorem dL_law_155 : decode cL_law 155 = .ok (.aload_n 0, 1) := dk_42 (dk_at dksL_law_6 7 rfl rfl)
theorem dL_law_156 : decode cL_law 156 = .ok (.iload_n 3, 1) := dk_29 (dk_at dksL_law_6 8 rfl rfl)
theorem dL_law_157 : decode cL_law 157 = .ok (.iconst 1, 1) := dk_4 (dk_at dksL_law_6 9 rfl rfl)
theorem dL_law_158 : decode cL_law 158 = .ok (.iadd, 1) := dk_96 (dk_at dksL_law_6 10 rfl rfl)
theorem dL_law_159 : decode cL_law 159 = .ok (.iaload, 1) := dk_46 (dk_at dksL_law_6 11 rfl rfl)
theorem dL_law_160 : decode cL_law 160 = .ok (.aload_n 0, 1) := dk_42 (dk_at dksL_law_6 12 rfl rfl)
theorem dL_law_161 : decode cL_law 161 = .ok (.iload_n 3, 1) := dk_29 (dk_at dksL_law_6 13 rfl rfl)
theorem dL_law_162 : decode cL_law 162 = .ok (.iconst 2, 1) := dk_5 (dk_at dksL_law_6 14 rfl rfl)
theorem dL_law_163 : decode cL_law 163 = .ok (.iadd, 1) := dk_96 (dk_at dksL_law_6 15 rfl rfl)
theorem dL_law_164 : decode cL_law 164 = .ok (.iaload, 1) := dk_46 (dk_at dksL_law_6 16 rfl rfl)
theorem dL_law_165 : decode cL_law 165 = .ok (.aload_n 0, 1) := dk_42 (dk_at dksL_law_6 17 rfl rfl)
theorem dL_law_166 : decode cL_law 166 = .ok (.iload_n 3, 1) := dk_29 (dk_at dksL_law_6 18 rfl rfl)
theorem dL_law_167 : decode cL_law 167 = .ok (.iconst 3, 1) := dk_6 (dk_at dksL_law_6 19 rfl rfl)
theorem dL_law_168 : decode cL_law 168 = .ok (.iadd, 1) := dk_96 (dk_at dksL_law_6 20 rfl rfl)
theorem dL_law_169 : decode cL_law 169 = .ok (.iaload, 1) := dk_46 (dk_at dksL_law_6 21 rfl rfl)
theorem dL_law_170 : decode cL_law 170 = .ok (.aload_n 0, 1) := dk_42 (dk_at dksL_law_6 22 rfl rfl)
theorem dL_law_171 : decode cL_law 171 = .ok (.iload_n 3, 1) := dk_29 (dk_at dksL_law_6 23 rfl rfl)
theorem dL_law_172 : decode cL_law 172 = .ok (.iconst 4, 1) := dk_7 (dk_at dksL_law_7 0 rfl rfl)
theorem dL_law_173 : decode cL_law 173 = .ok (.iadd, 1) := dk_96 (dk_at dksL_law_7 1 rfl rfl)
theorem dL_law_174 : decode cL_law 174 = .ok (.iaload, 1) := dk_46 (dk_at dksL_law_7 2 rfl rfl)
theorem dL_law_175 : decode cL_law 175 = .ok (.invokevirtual 21, 3) := dk_182 0 21 (dk_at dksL_law_7 3 rfl rfl)
theorem dL_law_178 : decode cL_law 178 = .ok (.lcmp, 1) := dk_148 (dk_at dksL_law_7 6 rfl rfl)
theorem dL_law_179 : decode cL_law 179 = .ok (.ifCond .eq 200, 3) := dk_153 0 200 (dk_at dksL_law_7 7 rfl rfl)
theorem dL_law_182 : decode cL_law 182 = .ok (.iconst 0, 1) := dk_3 (dk_at dksL_law_7 10 rfl rfl)
theorem dL_law_183 : decode cL_law 183 = .ok (.ireturn, 1) := dk_172 (dk_at dksL_law_7 11 rfl rfl)
theorem dL_law_184 : decode cL_law 184 = .ok (.aload_n 1, 1) := dk_43 (dk_at dksL_law_7 12 rfl rfl)
theorem dL_law_185 : decode cL_law 185 = .ok (.aload_n 0, 1) := dk_42 (dk_at dksL_law_7 13 rfl rfl)
theorem dL_law_186 : decode cL_law 186 = .ok (.iload_n 3, 1) := dk_29 (dk_at dksL_law_7 14 rfl rfl)
theorem dL_law_187 : decode cL_law 187 = .ok (.iconst 1, 1) := dk_4 (dk_at dksL_law_7 15 rfl rfl)
theorem dL_law_188 : decode cL_law 188 = .ok (.iadd, 1) := dk_96 (dk_at dksL_law_7 16 rfl rfl)
theorem dL_law_189 : decode cL_law 189 = .ok (.iaload, 1) := dk_46 (dk_at dksL_law_7 17 rfl rfl)
theorem dL_law_190 : decode cL_law 190 = .ok (.aload_n 0, 1) := dk_42 (dk_at dksL_law_7 18 rfl rfl)
theorem dL_law_191 : decode cL_law 191 = .ok (.iload_n 3, 1) := dk_29 (dk_at dksL_law_7 19 rfl rfl)
theorem dL_law_192 : decode cL_law 192 = .ok (.iconst 2, 1) := dk_5 (dk_at dksL_law_7 20 rfl rfl)
theorem dL_law_193 : decode cL_law 193 = .ok (.iadd, 1) := dk_96 (dk_at dksL_law_7 21 rfl rfl)
theorem dL_law_194 : decode cL_law 194 = .ok (.iaload, 1) := dk_46 (dk_at dksL_law_7 22 rfl rfl)
theorem dL_law_195 : decode cL_law 195 = .ok (.aload_n 0, 1) := dk_42 (dk_at dksL_law_7 23 rfl rfl)
theorem dL_law_196 : decode cL_law 196 = .ok (.iload_n 3, 1) := dk_29 (dk_at dksL_law_8 0 rfl rfl)
theorem dL_law_197 : decode cL_law 197 = .ok (.iconst 3, 1) := dk_6 (dk_at dksL_law_8 1 rfl rfl)
theorem dL_law_198 : decode cL_law 198 = .ok (.iadd, 1) := dk_96 (dk_at dksL_law_8 2 rfl rfl)
theorem dL_law_199 : decode cL_law 199 = .ok (.iaload, 1) := dk_46 (dk_at dksL_law_8 3 rfl rfl)
theorem dL_law_200 : decode cL_law 200 = .ok (.invokevirtual 22, 3) := dk_182 0 22 (dk_at dksL_law_8 4 rfl rfl)
theorem dL_law_203 : decode cL_law 203 = .ok (.aload_n 2, 1) := dk_44 (dk_at dksL_law_8 7 rfl rfl)
theorem dL_law_204 : decode cL_law 204 = .ok (.aload_n 0, 1) := dk_42 (dk_at dksL_law_8 8 rfl rfl)
theorem dL_law_205 : decode cL_law 205 = .ok (.iload_n 3, 1) := dk_29 (dk_at dksL_law_8 9 rfl rfl)
theorem dL_law_206 : decode cL_law 206 = .ok (.iconst 1, 1) := dk_4 (dk_at dksL_law_8 10 rfl rfl)
theorem dL_law_207 : decode cL_law 207 = .ok (.iadd, 1) := dk_96 (dk_at dksL_law_8 11 rfl rfl)
theorem dL_law_208 : decode cL_law 208 = .ok (.iaload, 1) := dk_46 (dk_at dksL_law_8 12 rfl rfl)
theorem dL_law_209 : decode cL_law 209 = .ok (.aload_n 0, 1) := dk_42 (dk_at dksL_law_8 13 rfl rfl)
theorem dL_law_210 : decode cL_law 210 = .ok (.iload_n 3, 1) := dk_29 (dk_at dksL_law_8 14 rfl rfl)
theorem dL_law_211 : decode cL_law 211 = .ok (.iconst 2, 1) := dk_5 (dk_at dksL_law_8 15 rfl rfl)
theorem dL_law_212 : decode cL_law 212 = .ok (.iadd, 1) := dk_96 (dk_at dksL_law_8 16 rfl rfl)
theorem dL_law_213 : decode cL_law 213 = .ok (.iaload, 1) := dk_46 (dk_at dksL_law_8 17 rfl rfl)
theorem dL_law_214 : decode cL_law 214 = .ok (.aload_n 0, 1) := dk_42 (dk_at dksL_law_8 18 rfl rfl)
theorem dL_law_215 : decode cL_law 215 = .ok (.iload_n 3, 1) := dk_29 (dk_at dksL_law_8 19 rfl rfl)
theorem dL_law_216 : decode cL_law 216 = .ok (.iconst 3, 1) := dk_6 (dk_at dksL_law_8 20 rfl rfl)
theorem dL_law_217 : decode cL_law 217 = .ok (.iadd, 1) := dk_96 (dk_at dksL_law_8 21 rfl rfl)
theorem dL_law_218 : decode cL_law 218 = .ok (.iaload, 1) := dk_46 (dk_at dksL_law_8 22 rfl rfl)
theorem dL_law_219 : decode cL_law 219 = .ok (.invokevirtual 26, 3) := dk_182 0 26 (dk_at dksL_law_9 0 rfl rfl)
theorem dL_law_222 : decode cL_law 222 = .ok (.if_icmp .eq 157, 3) := dk_159 0 157 (dk_at dksL_law_9 3 rfl rfl)
theorem dL_law_225 : decode cL_law 225 = .ok (.iconst 0, 1) := dk_3 (dk_at dksL_law_9 6 rfl rfl)
theorem dL_law_226 : decode cL_law 226 = .ok (.ireturn, 1) := dk_172 (dk_at dksL_law_9 7 rfl rfl)
theorem dL_law_227 : decode cL_law 227 = .ok (.aload_n 1, 1) := dk_43 (dk_at dksL_law_9 8 rfl rfl)
theorem dL_law_228 : decode cL_law 228 = .ok (.aload_n 0, 1) := dk_42 (dk_at dksL_law_9 9 rfl rfl)
theorem dL_law_229 : decode cL_law 229 = .ok (.iload_n 3, 1) := dk_29 (dk_at dksL_law_9 10 rfl rfl)
theorem dL_law_230 : decode cL_law 230 = .ok (.iconst 1, 1) := dk_4 (dk_at dksL_law_9 11 rfl rfl)
theorem dL_law_231 : decode cL_law 231 = .ok (.iadd, 1) := dk_96 (dk_at dksL_law_9 12 rfl rfl)
theorem dL_law_232 : decode cL_law 232 = .ok (.iaload, 1) := dk_46 (dk_at dksL_law_9 13 rfl rfl)
theorem dL_law_233 : decode cL_law 233 = .ok (.aload_n 0, 1) := dk_42 (dk_at dksL_law_9 14 rfl rfl)
theorem dL_law_234 : decode cL_law 234 = .ok (.iload_n 3, 1) := dk_29 (dk_at dksL_law_9 15 rfl rfl)
theorem dL_law_235 : decode cL_law 235 = .ok (.iconst 2, 1) := dk_5 (dk_at dksL_law_9 16 rfl rfl)
theorem dL_law_236 : decode cL_law 236 = .ok (.iadd, 1) := dk_96 (dk_at dksL_law_9 17 rfl rfl)
theorem dL_law_237 : decode cL_law 237 = .ok (.iaload, 1) := dk_46 (dk_at dksL_law_9 18 rfl rfl)
theorem dL_law_238 : decode cL_law 238 = .ok (.invokevirtual 27, 3) := dk_182 0 27 (dk_at dksL_law_9 19 rfl rfl)
theorem dL_law_241 : decode cL_law 241 = .ok (.aload_n 2, 1) := dk_44 (dk_at dksL_law_9 22 rfl rfl)
theorem dL_law_242 : decode cL_law 242 = .ok (.aload_n 0, 1) := dk_42 (dk_at dksL_law_9 23 rfl rfl)
theorem dL_law_243 : decode cL_law 243 = .ok (.iload_n 3, 1) := dk_29 (dk_at dksL_law_10 0 rfl rfl)
theorem dL_law_244 : decode cL_law 244 = .ok (.iconst 1, 1) := dk_4 (dk_at dksL_law_10 1 rfl rfl)
theorem dL_law_245 : decode cL_law 245 = .ok (.iadd, 1) := dk_96 (dk_at dksL_law_10 2 rfl rfl)
theorem dL_law_246 : decode cL_law 246 = .ok (.iaload, 1) := dk_46 (dk_at dksL_law_10 3 rfl rfl)
theorem dL_law_247 : decode cL_law 247 = .ok (.aload_n 0, 1) := dk_42 (dk_at dksL_law_10 4 rfl rfl)
theorem dL_law_248 : decode cL_law 248 = .ok (.iload_n 3, 1) := dk_29 (dk_at dksL_law_10 5 rfl rfl)
theorem dL_law_249 : decode cL_law 249 = .ok (.iconst 2, 1) := dk_5 (dk_at dksL_law_10 6 rfl rfl)
theorem dL_law_250 : decode cL_law 250 = .ok (.iadd, 1) := dk_96 (dk_at dksL_law_10 7 rfl rfl)
theorem dL_law_251 : decode cL_law 251 = .ok (.iaload, 1) := dk_46 (dk_at dksL_law_10 8 rfl rfl)
theorem dL_law_252 : decode cL_law 252 = .ok (.invokevirtual 31, 3) := dk_182 0 31 (dk_at dksL_law_10 9 rfl rfl)
theorem dL_law_255 : decode cL_law 255 = .ok (.if_icmp .eq 124, 3) := dk_159 0 124 (dk_at dksL_law_10 12 rfl rfl)
theorem dL_law_258 : decode cL_law 258 = .ok (.iconst 0, 1) := dk_3 (dk_at dksL_law_10 15 rfl rfl)
theorem dL_law_259 : decode cL_law 259 = .ok (.ireturn, 1) := dk_172 (dk_at dksL_law_10 16 rfl rfl)
theorem dL_law_260 : decode cL_law 260 = .ok (.aload_n 1, 1) := dk_43 (dk_at dksL_law_10 17 rfl rfl)
theorem dL_law_261 : decode cL_law 261 = .ok (.aload_n 0, 1) := dk_42 (dk_at dksL_law_10 18 rfl rfl)
theorem dL_law_262 : decode cL_law 262 = .ok (.iload_n 3, 1) := dk_29 (dk_at dksL_law_10 19 rfl rfl)
theorem dL_law_263 : decode cL_law 263 = .ok (.iconst 1, 1) := dk_4 (dk_at dksL_law_10 20 rfl rfl)
theorem dL_law_264 : decode cL_law 264 = .ok (.iadd, 1) := dk_96 (dk_at dksL_law_10 21 rfl rfl)
theorem dL_law_265 : decode cL_law 265 = .ok (.iaload, 1) := dk_46 (dk_at dksL_law_10 22 rfl rfl)
theorem dL_law_266 : decode cL_law 266 = .ok (.aload_n 0, 1) := dk_42 (dk_at dksL_law_10 23 rfl rfl)
theorem dL_law_267 : decode cL_law 267 = .ok (.iload_n 3, 1) := dk_29 (dk_at dksL_law_11 0 rfl rfl)
theorem dL_law_268 : decode cL_law 268 = .ok (.iconst 2, 1) := dk_5 (dk_at dksL_law_11 1 rfl rfl)
theorem dL_law_269 : decode cL_law 269 = .ok (.iadd, 1) := dk_96 (dk_at dksL_law_11 2 rfl rfl)
theorem dL_law_270 : decode cL_law 270 = .ok (.iaload, 1) := dk_46 (dk_at dksL_law_11 3 rfl rfl)
theorem dL_law_271 : decode cL_law 271 = .ok (.invokevirtual 32, 3) := dk_182 0 32 (dk_at dksL_law_11 4 rfl rfl)
theorem dL_law_274 : decode cL_law 274 = .ok (.aload_n 2, 1) := dk_44 (dk_at dksL_law_11 7 rfl rfl)
theorem dL_law_275 : decode cL_law 275 = .ok (.aload_n 0, 1) := dk_42 (dk_at dksL_law_11 8 rfl rfl)
theorem dL_law_276 : decode cL_law 276 = .ok (.iload_n 3, 1) := dk_29 (dk_at dksL_law_11 9 rfl rfl)
theorem dL_law_277 : decode cL_law 277 = .ok (.iconst 1, 1) := dk_4 (dk_at dksL_law_11 10 rfl rfl)
theorem dL_law_278 : decode cL_law 278 = .ok (.iadd, 1) := dk_96 (dk_at dksL_law_11 11 rfl rfl)
theorem dL_law_279 : decode cL_law 279 = .ok (.iaload, 1) := dk_46 (dk_at dksL_law_11 12 rfl rfl)
theorem dL_law_280 : decode cL_law 280 = .ok (.aload_n 0, 1) := dk_42 (dk_at dksL_law_11 13 rfl rfl)
theorem dL_law_281 : decode cL_law 281 = .ok (.iload_n 3, 1) := dk_29 (dk_at dksL_law_11 14 rfl rfl)
theorem dL_law_282 : decode cL_law 282 = .ok (.iconst 2, 1) := dk_5 (dk_at dksL_law_11 15 rfl rfl)
theorem dL_law_283 : decode cL_law 283 = .ok (.iadd, 1) := dk_96 (dk_at dksL_law_11 16 rfl rfl)
theorem dL_law_284 : decode cL_law 284 = .ok (.iaload, 1) := dk_46 (dk_at dksL_law_11 17 rfl rfl)
theorem dL_law_285 : decode cL_law 285 = .ok (.invokevirtual 35, 3) := dk_182 0 35 (dk_at dksL_law_11 18 rfl rfl)
theorem dL_law_288 : decode cL_law 288 = .ok (.if_icmp .eq 91, 3) := dk_159 0 91 (dk_at dksL_law_11 21 rfl rfl)
theorem dL_law_291 : decode cL_law 291 = .ok (.iconst 0, 1) := dk_3 (dk_at dksL_law_12 0 rfl rfl)
theorem dL_law_292 : decode cL_law 292 = .ok (.ireturn, 1) := dk_172 (dk_at dksL_law_12 1 rfl rfl)
theorem dL_law_293 : decode cL_law 293 = .ok (.aload_n 1, 1) := dk_43 (dk_at dksL_law_12 2 rfl rfl)
theorem dL_law_294 : decode cL_law 294 = .ok (.aload_n 0, 1) := dk_42 (dk_at dksL_law_12 3 rfl rfl)
theorem dL_law_295 : decode cL_law 295 = .ok (.iload_n 3, 1) := dk_29 (dk_at dksL_law_12 4 rfl rfl)
theorem dL_law_296 : decode cL_law 296 = .ok (.iconst 1, 1) := dk_4 (dk_at dksL_law_12 5 rfl rfl)
theorem dL_law_297 : decode cL_law 297 = .ok (.iadd, 1) := dk_96 (dk_at dksL_law_12 6 rfl rfl)
theorem dL_law_298 : decode cL_law 298 = .ok (.iaload, 1) := dk_46 (dk_at dksL_law_12 7 rfl rfl)
theorem dL_law_299 : decode cL_law 299 = .ok (.aload_n 0, 1) := dk_42 (dk_at dksL_law_12 8 rfl rfl)
theorem dL_law_300 : decode cL_law 300 = .ok (.iload_n 3, 1) := dk_29 (dk_at dksL_law_12 9 rfl rfl)
theorem dL_law_301 : decode cL_law 301 = .ok (.iconst 2, 1) := dk_5 (dk_at dksL_law_12 10 rfl rfl)
theorem dL_law_302 : decode cL_law 302 = .ok (.iadd, 1) := dk_96 (dk_at dksL_law_12 11 rfl rfl)
theorem dL_law_303 : decode cL_law 303 = .ok (.iaload, 1) := dk_46 (dk_at dksL_law_12 12 rfl rfl)
theorem dL_law_304 : decode cL_law 304 = .ok (.invokevirtual 36, 3) := dk_182 0 36 (dk_at dksL_law_12 13 rfl rfl)
theorem dL_law_307 : decode cL_law 307 = .ok (.aload_n 2, 1) := dk_44 (dk_at dksL_law_12 16 rfl rfl)
theorem dL_law_308 : decode cL_law 308 = .ok (.aload_n 0, 1) := dk_42 (dk_at dksL_law_12 17 rfl rfl)
theorem dL_law_309 : decode cL_law 309 = .ok (.iload_n 3, 1) := dk_29 (dk_at dksL_law_12 18 rfl rfl)
theorem dL_law_310 : decode cL_law 310 = .ok (.iconst 1, 1) := dk_4 (dk_at dksL_law_12 19 rfl rfl)
theorem dL_law_311 : decode cL_law 311 = .ok (.iadd, 1) := dk_96 (dk_at dksL_law_12 20 rfl rfl)
theorem dL_law_312 : decode cL_law 312 = .ok (.iaload, 1) := dk_46 (dk_at dksL_law_12 21 rfl rfl)
theorem dL_law_313 : decode cL_law 313 = .ok (.aload_n 0, 1) := dk_42 (dk_at dksL_law_12 22 rfl rfl)
theorem dL_law_314 : decode cL_law 314 = .ok (.iload_n 3, 1) := dk_29 (dk_at dksL_law_12 23 rfl rfl)
theorem dL_law_315 : decode cL_law 315 = .ok (.iconst 2, 1) := dk_5 (dk_at dksL_law_13 0 rfl rfl)
theorem dL_law_316 : decode cL_law 316 = .ok (.iadd, 1) := dk_96 (dk_at dksL_law_13 1 rfl rfl)
theorem dL_law_317 : decode cL_law 317 = .ok (.iaload, 1) := dk_46 (dk_at dksL_law_13 2 rfl rfl)
theorem dL_law_318 : decode cL_law 318 = .ok (.invokevirtual 39, 3) := dk_182 0 39 (dk_at dksL_law_13 3 rfl rfl)
theorem dL_law_321 : decode cL_law 321 = .ok (.if_icmp .eq 58, 3) := dk_159 0 58 (dk_at dksL_law_13 6 rfl rfl)
theorem dL_law_324 : decode cL_law 324 = .ok (.iconst 0, 1) := dk_3 (dk_at dksL_law_13 9 rfl rfl)
theorem dL_law_325 : decode cL_law 325 = .ok (.ireturn, 1) := dk_172 (dk_at dksL_law_13 10 rfl rfl)
theorem dL_law_326 : decode cL_law 326 = .ok (.aload_n 1, 1) := dk_43 (dk_at dksL_law_13 11 rfl rfl)
theorem dL_law_327 : decode cL_law 327 = .ok (.aload_n 0, 1) := dk_42 (dk_at dksL_law_13 12 rfl rfl)
theorem dL_law_328 : decode cL_law 328 = .ok (.iload_n 3, 1) := dk_29 (dk_at dksL_law_13 13 rfl rfl)
theorem dL_law_329 : decode cL_law 329 = .ok (.iconst 1, 1) := dk_4 (dk_at dksL_law_13 14 rfl rfl)
theorem dL_law_330 : decode cL_law 330 = .ok (.iadd, 1) := dk_96 (dk_at dksL_law_13 15 rfl rfl)
theorem dL_law_331 : decode cL_law 331 = .ok (.iaload, 1) := dk_46 (dk_at dksL_law_13 16 rfl rfl)
theorem dL_law_332 : decode cL_law 332 = .ok (.aload_n 0, 1) := dk_42 (dk_at dksL_law_13 17 rfl rfl)
theorem dL_law_333 : decode cL_law 333 = .ok (.iload_n 3, 1) := dk_29 (dk_at dksL_law_13 18 rfl rfl)
theorem dL_law_334 : decode cL_law 334 = .ok (.iconst 2, 1) := dk_5 (dk_at dksL_law_13 19 rfl rfl)
theorem dL_law_335 : decode cL_law 335 = .ok (.iadd, 1) := dk_96 (dk_at dksL_law_13 20 rfl rfl)
theorem dL_law_336 : decode cL_law 336 = .ok (.iaload, 1) := dk_46 (dk_at dksL_law_13 21 rfl rfl)
theorem dL_law_337 : decode cL_law 337 = .ok (.aload_n 0, 1) := dk_42 (dk_at dksL_law_13 22 rfl rfl)
theorem dL_law_338 : decode cL_law 338 = .ok (.iload_n 3, 1) := dk_29 (dk_at dksL_law_13 23 rfl rfl)
theorem dL_law_339 : decode cL_law 339 = .ok (.iconst 3, 1) := dk_6 (dk_at dksL_law_14 0 rfl rfl)
theorem dL_law_340 : decode cL_law 340 = .ok (.iadd, 1) := dk_96 (dk_at dksL_law_14 1 rfl rfl)
theorem dL_law_341 : decode cL_law 341 = .ok (.iaload, 1) := dk_46 (dk_at dksL_law_14 2 rfl rfl)
theorem dL_law_342 : decode cL_law 342 = .ok (.aload_n 0, 1) := dk_42 (dk_at dksL_law_14 3 rfl rfl)
theorem dL_law_343 : decode cL_law 343 = .ok (.iload_n 3, 1) := dk_29 (dk_at dksL_law_14 4 rfl rfl)
theorem dL_law_344 : decode cL_law 344 = .ok (.iconst 4, 1) := dk_7 (dk_at dksL_law_14 5 rfl rfl)
theorem dL_law_345 : decode cL_law 345 = .ok (.iadd, 1) := dk_96 (dk_at dksL_law_14 6 rfl rfl)
theorem dL_law_346 : decode cL_law 346 = .ok (.iaload, 1) := dk_46 (dk_at dksL_law_14 7 rfl rfl)
theorem dL_law_347 : decode cL_law 347 = .ok (.invokevirtual 40, 3) := dk_182 0 40 (dk_at dksL_law_14 8 rfl rfl)
theorem dL_law_350 : decode cL_law 350 = .ok (.aload_n 2, 1) := dk_44 (dk_at dksL_law_14 11 rfl rfl)
theorem dL_law_351 : decode cL_law 351 = .ok (.aload_n 0, 1) := dk_42 (dk_at dksL_law_14 12 rfl rfl)
theorem dL_law_352 : decode cL_law 352 = .ok (.iload_n 3, 1) := dk_29 (dk_at dksL_law_14 13 rfl rfl)
theorem dL_law_353 : decode cL_law 353 = .ok (.iconst 1, 1) := dk_4 (dk_at dksL_law_14 14 rfl rfl)
theorem dL_law_354 : decode cL_law 354 = .ok (.iadd, 1) := dk_96 (dk_at dksL_law_14 15 rfl rfl)
theorem dL_law_355 : decode cL_law 355 = .ok (.iaload, 1) := dk_46 (dk_at dksL_law_14 16 rfl rfl)
theorem dL_law_356 : decode cL_law 356 = .ok (.aload_n 0, 1) := dk_42 (dk_at dksL_law_14 17 rfl rfl)
theorem dL_law_357 : decode cL_law 357 = .ok (.iload_n 3, 1) := dk_29 (dk_at dksL_law_14 18 rfl rfl)
theorem dL_law_358 : decode cL_law 358 = .ok (.iconst 2, 1) := dk_5 (dk_at dksL_law_14 19 rfl rfl)
theorem dL_law_359 : decode cL_law 359 = .ok (.iadd, 1) := dk_96 (dk_at dksL_law_14 20 rfl rfl)
theorem dL_law_360 : decode cL_law 360 = .ok (.iaload, 1) := dk_46 (dk_at dksL_law_14 21 rfl rfl)
theorem dL_law_361 : decode cL_law 361 = .ok (.aload_n 0, 1) := dk_42 (dk_at dksL_law_14 22 rfl rfl)
theorem dL_law_362 : decode cL_law 362 = .ok (.iload_n 3, 1) := dk_29 (dk_at dksL_law_14 23 rfl rfl)
theorem dL_law_363 : decode cL_law 363 = .ok (.iconst 3, 1) := dk_6 (dk_at dksL_law_15 0 rfl rfl)
theorem dL_law_364 : decode cL_law 364 = .ok (.iadd, 1) := dk_96 (dk_at dksL_law_15 1 rfl rfl)
theorem dL_law_365 : decode cL_law 365 = .ok (.iaload, 1) := dk_46 (dk_at dksL_law_15 2 rfl rfl)
theorem dL_law_366 : decode cL_law 366 = .ok (.aload_n 0, 1) := dk_42 (dk_at dksL_law_15 3 rfl rfl)
theorem dL_law_367 : decode cL_law 367 = .ok (.iload_n 3, 1) := dk_29 (dk_at dksL_law_15 4 rfl rfl)
theorem dL_law_368 : decode cL_law 368 = .ok (.iconst 4, 1) := dk_7 (dk_at dksL_law_15 5 rfl rfl)
theorem dL_law_369 : decode cL_law 369 = .ok (.iadd, 1) := dk_96 (dk_at dksL_law_15 6 rfl rfl)
theorem dL_law_370 : decode cL_law 370 = .ok (.iaload, 1) := dk_46 (dk_at dksL_law_15 7 rfl rfl)
theorem dL_law_371 : decode cL_law 371 = .ok (.invokevirtual 44, 3) := dk_182 0 44 (dk_at dksL_law_15 8 rfl rfl)
theorem dL_law_374 : decode cL_law 374 = .ok (.if_icmp .eq 5, 3) := dk_159 0 5 (dk_at dksL_law_15 11 rfl rfl)
theorem dL_law_377 : decode cL_law 377 = .ok (.iconst 0, 1) := dk_3 (dk_at dksL_law_15 14 rfl rfl)
theorem dL_law_378 : decode cL_law 378 = .ok (.ireturn, 1) := dk_172 (dk_at dksL_law_15 15 rfl rfl)
theorem dL_law_379 : decode cL_law 379 = .ok (.iinc 3 6, 3) := dk_132 3 6 (dk_at dksL_law_15 16 rfl rfl)
theorem dL_law_382 : decode cL_law 382 = .ok (.goto (-364), 3) := dk_167 254 148 (dk_at dksL_law_15 19 rfl rfl)
theorem dL_law_385 : decode cL_law 385 = .ok (.iconst 1, 1) := dk_4 (dk_at dksL_law_15 22 rfl rfl)
theorem dL_law_386 : decode cL_law 386 = .ok (.ireturn, 1) := dk_172 (dk_at dksL_law_15 23 rfl rfl)
end
section
/-! PLAIN NUMBERS: what both sides compute, as one value each; no program here -/
def fz_n (h l : Int32) : Int64 := Int64.ofInt (h.toInt * 4294967296 + l.toInt % 4294967296)
def fz_pt (v : Int64) : Int64 := Int64.ofInt (1 + v.toInt % 4611686018427387904)
def fz_pi (b : Int32) : Int32 := Int32.ofInt (1 + b.toInt % 1073741824)
def fz_q (a b : Int64) : Int64 := Int64.ofInt (a.toInt / b.toInt)
def fz_r (a b : Int64) : Int64 := Int64.ofInt (a.toInt % b.toInt)
def fz_c (a b : Int64) : Int32 := if a < b then -1 else if b < a then 1 else 0
theorem fz_i {x y : Int64} (h : x.toInt = y.toInt) : x = y := Int64.toInt_inj.1 h
theorem fz_i32 {x y : Int32} (h : x.toInt = y.toInt) : x = y := Int32.toInt_inj.1 h
theorem fz_nz {b : Int64} (h : 0 < b.toInt) : ¬ b = 0 := fun e => by
  rw [e, Int64.toInt_zero] at h
  exact absurd h (by decide)
theorem fz_nz32 {b : Int32} (h : 0 < b.toInt) : ¬ b = 0 := fun e => by
  rw [e, Int32.toInt_zero] at h
  exact absurd h (by decide)
theorem fz_nI (h l : Int32) : (fz_n h l).toInt = h.toInt * 4294967296 + l.toInt % 4294967296 := by
  have a := h.toInt_lt
  have b := h.le_toInt
  unfold fz_n
  exact Int64.toInt_ofInt_of_le (by omega) (by omega)
theorem fz_ptI (v : Int64) : (fz_pt v).toInt = 1 + v.toInt % 4611686018427387904 := by
  unfold fz_pt
  exact Int64.toInt_ofInt_of_le (by omega) (by omega)
theorem fz_pt_pos (v : Int64) : 0 < (fz_pt v).toInt := by
  rw [fz_ptI]
  omega
theorem fz_pt_le (v : Int64) : (fz_pt v).toInt ≤ 4611686018427387904 := by
  rw [fz_ptI]
  omega
theorem fz_piI (b : Int32) : (fz_pi b).toInt = 1 + b.toInt % 1073741824 := by
  unfold fz_pi
  exact Int32.toInt_ofInt_of_le (by omega) (by omega)
theorem fz_pi_pos (b : Int32) : 0 < (fz_pi b).toInt := by
  rw [fz_piI]
  omega
theorem fz_pi_le (b : Int32) : (fz_pi b).toInt ≤ 1073741824 := by
  rw [fz_piI]
  omega
theorem fz_pl_pos (b : Int32) : 0 < (fz_pi b).toInt64.toInt := by
  rw [Int32.toInt_toInt64]
  exact fz_pi_pos b
theorem fz_pl_le (b : Int32) : (fz_pi b).toInt64.toInt ≤ 4611686018427387904 := by
  rw [Int32.toInt_toInt64]
  have h := fz_pi_le b
  omega
theorem fz_ediv {a b : Int} (hb : 0 < b) (h1 : -9223372036854775808 ≤ a) (h2 : a < 9223372036854775808) : -9223372036854775808 ≤ a / b ∧ a / b < 9223372036854775808 :=
  ⟨(Int.le_ediv_iff_mul_le hb).mpr (by omega), (Int.ediv_lt_iff_lt_mul hb).mpr (by omega)⟩
theorem fz_ediv32 {a b : Int} (hb : 0 < b) (h1 : -2147483648 ≤ a) (h2 : a < 2147483648) : -2147483648 ≤ a / b ∧ a / b < 2147483648 :=
  ⟨(Int.le_ediv_iff_mul_le hb).mpr (by omega), (Int.ediv_lt_iff_lt_mul hb).mpr (by omega)⟩
theorem fz_qI {a b : Int64} (hb : 0 < b.toInt) : (fz_q a b).toInt = a.toInt / b.toInt := by
  have a1 := a.toInt_lt
  have a2 := a.le_toInt
  have h := fz_ediv (a := a.toInt) hb (by omega) (by omega)
  unfold fz_q
  exact Int64.toInt_ofInt_of_le (by omega) (by omega)
theorem fz_rI {a b : Int64} (hb : 0 < b.toInt) : (fz_r a b).toInt = a.toInt % b.toInt := by
  have h1 := Int.emod_nonneg a.toInt (show b.toInt ≠ 0 by omega)
  have h2 := Int.emod_lt_of_pos a.toInt hb
  have b1 := b.toInt_lt
  unfold fz_r
  exact Int64.toInt_ofInt_of_le (by omega) (by omega)
theorem fz_qi {a b : Int32} (hb : 0 < b.toInt) : (fz_q a.toInt64 b.toInt64).toInt32.toInt = a.toInt / b.toInt := by
  have a1 := a.toInt_lt
  have a2 := a.le_toInt
  have h := fz_ediv32 (a := a.toInt) hb (by omega) (by omega)
  have hb2 : 0 < b.toInt64.toInt := by rw [Int32.toInt_toInt64]; exact hb
  have e : (fz_q a.toInt64 b.toInt64).toInt = a.toInt / b.toInt := by rw [fz_qI hb2, Int32.toInt_toInt64, Int32.toInt_toInt64]
  rw [Jvm.Kit.i32_of_i64 (by omega) (by omega), e]
theorem fz_ri {a b : Int32} (hb : 0 < b.toInt) : (fz_r a.toInt64 b.toInt64).toInt32.toInt = a.toInt % b.toInt := by
  have h1 := Int.emod_nonneg a.toInt (show b.toInt ≠ 0 by omega)
  have h2 := Int.emod_lt_of_pos a.toInt hb
  have b1 := b.toInt_lt
  have hb2 : 0 < b.toInt64.toInt := by rw [Int32.toInt_toInt64]; exact hb
  have e : (fz_r a.toInt64 b.toInt64).toInt = a.toInt % b.toInt := by rw [fz_rI hb2, Int32.toInt_toInt64, Int32.toInt_toInt64]
  rw [Jvm.Kit.i32_of_i64 (by omega) (by omega), e]
/-- a number below 0 lies as far from -1/2 as -1 - u, u from 0 on -/
theorem fz_below {u b : Int} (hb : 0 < b) : (-1 - u) / b = -1 - u / b ∧ (-1 - u) % b = b - 1 - u % b := by
  refine (Int.ediv_emod_unique hb).mpr ⟨?_, ?_, ?_⟩
  · have h := Int.emod_add_mul_ediv u b
    have e : b * (-1 - u / b) = -b - b * (u / b) := by rw [Int.mul_sub, Int.mul_neg, Int.mul_one]
    rw [e]
    omega
  · have := Int.emod_lt_of_pos u hb
    omega
  · have := Int.emod_nonneg u (show b ≠ 0 by omega)
    omega
theorem fz_em {t a b k : Int} (h : t = a + b * k) : t % b = a % b := by rw [h, Int.add_mul_emod_self_left]
/-! ===== the library's own methods ===== -/
theorem fz_fd1 {a b : Int64} (hb : 0 < b.toInt) (ha : 0 ≤ a.toInt) : a / b = fz_q a b := by
  apply fz_i
  rw [fz_qI hb, Jvm.Kit.i64_div (by omega), Int.tdiv_eq_ediv_of_nonneg ha]
theorem fz_fd2 {a b : Int64} (hb : 0 < b.toInt) (ha : a.toInt < 0) : (a + 1) / b - 1 = fz_q a b := by
  have a2 := a.le_toInt
  have o : (1 : Int64).toInt = 1 := Int64.toInt_one
  obtain ⟨u, hu⟩ : ∃ u : Int, u = -1 - a.toInt := ⟨_, rfl⟩
  have e0 : (a + 1).toInt = -u := by
    rw [Jvm.Kit.i64_add (by omega) (by omega)]
    omega
  have e1 : ((a + 1) / b).toInt = -(u / b.toInt) := by
    rw [Jvm.Kit.i64_div (by omega), e0, Int.neg_tdiv, Int.tdiv_eq_ediv_of_nonneg (by omega)]
  have e3 := (fz_below (u := u) hb).1
  have e4 : -1 - u = a.toInt := by omega
  rw [e4] at e3
  have h := fz_ediv (a := a.toInt) hb (by omega) (by omega)
  apply fz_i
  rw [fz_qI hb, Jvm.Kit.i64_sub (by omega) (by omega), e1, o, e3]
  omega
theorem fz_fm {a b : Int64} (hb : 0 < b.toInt) (hb2 : b.toInt ≤ 4611686018427387904) : (a - a / b * b + b) - (a - a / b * b + b) / b * b = fz_r a b := by
  have e1 := Jvm.Kit.i64_rem a b
  have h1 := Int.tmod_lt_of_pos a.toInt hb
  have h2 := Int.lt_tmod_of_pos a.toInt hb
  have e2 : (a - a / b * b + b).toInt = a.toInt.tmod b.toInt + b.toInt := by rw [Jvm.Kit.i64_add (by omega) (by omega), e1]
  have e3 : (a.toInt.tmod b.toInt + b.toInt) % b.toInt = a.toInt % b.toInt := fz_em (k := 1 - a.toInt.tdiv b.toInt) (by
    rw [Int.tmod_def, Int.mul_sub, Int.mul_one]
    omega)
  apply fz_i
  rw [fz_rI hb, Jvm.Kit.i64_rem, e2, Int.tmod_eq_emod_of_nonneg (by omega), e3]
theorem fz_rem32 (x y : Int32) : (x - (x / y) * y).toInt = x.toInt.tmod y.toInt := by
  have a := (x % y).toInt_lt
  have b := (x % y).le_toInt
  rw [Int32.toInt_mod] at a b
  rw [Int32.toInt_sub, Int32.toInt_mul, Int32.toInt_div, Int.bmod_mul_bmod, Int.sub_bmod_bmod, Int.mul_comm, ← Int.tmod_def]
  exact Jvm.Kit.bmod32 b a
theorem fz_fd1i {a b : Int32} (hb : 0 < b.toInt) (ha : 0 ≤ a.toInt) : a / b = (fz_q a.toInt64 b.toInt64).toInt32 := by
  apply fz_i32
  rw [fz_qi hb, Jvm.Kit.i32_div (by omega), Int.tdiv_eq_ediv_of_nonneg ha]
theorem fz_fd2i {a b : Int32} (hb : 0 < b.toInt) (ha : a.toInt < 0) : (a + 1) / b - 1 = (fz_q a.toInt64 b.toInt64).toInt32 := by
  have a2 := a.le_toInt
  have o : (1 : Int32).toInt = 1 := Int32.toInt_one
  obtain ⟨u, hu⟩ : ∃ u : Int, u = -1 - a.toInt := ⟨_, rfl⟩
  have e0 : (a + 1).toInt = -u := by
    rw [Jvm.Kit.i32_add (by omega) (by omega)]
    omega
  have e1 : ((a + 1) / b).toInt = -(u / b.toInt) := by
    rw [Jvm.Kit.i32_div (by omega), e0, Int.neg_tdiv, Int.tdiv_eq_ediv_of_nonneg (by omega)]
  have e3 := (fz_below (u := u) hb).1
  have e4 : -1 - u = a.toInt := by omega
  rw [e4] at e3
  have h := fz_ediv32 (a := a.toInt) hb (by omega) (by omega)
  apply fz_i32
  rw [fz_qi hb, Jvm.Kit.i32_sub (by omega) (by omega), e1, o, e3]
  omega
theorem fz_fmi {a b : Int32} (hb : 0 < b.toInt) (hb2 : b.toInt ≤ 1073741824) : (a - a / b * b + b) - (a - a / b * b + b) / b * b = (fz_r a.toInt64 b.toInt64).toInt32 := by
  have e1 := fz_rem32 a b
  have h1 := Int.tmod_lt_of_pos a.toInt hb
  have h2 := Int.lt_tmod_of_pos a.toInt hb
  have e2 : (a - a / b * b + b).toInt = a.toInt.tmod b.toInt + b.toInt := by rw [Jvm.Kit.i32_add (by omega) (by omega), e1]
  have e3 : (a.toInt.tmod b.toInt + b.toInt) % b.toInt = a.toInt % b.toInt := fz_em (k := 1 - a.toInt.tdiv b.toInt) (by
    rw [Int.tmod_def, Int.mul_sub, Int.mul_one]
    omega)
  apply fz_i32
  rw [fz_ri hb, fz_rem32, e2, Int.tmod_eq_emod_of_nonneg (by omega), e3]
theorem fz_c_lt {a b : Int64} (h : a.toInt < b.toInt) : (-1 : Int32) = fz_c a b := by
  unfold fz_c
  rw [if_pos (Int64.lt_iff_toInt_lt.mpr h)]
theorem fz_c_gt {a b : Int64} (h : b.toInt < a.toInt) : (1 : Int32) = fz_c a b := by
  unfold fz_c
  rw [if_neg (fun q => by have := Int64.lt_iff_toInt_lt.mp q; omega), if_pos (Int64.lt_iff_toInt_lt.mpr h)]
theorem fz_c_eq {a b : Int64} (h : a.toInt = b.toInt) : (0 : Int32) = fz_c a b := by
  unfold fz_c
  rw [if_neg (fun q => by have := Int64.lt_iff_toInt_lt.mp q; omega), if_neg (fun q => by have := Int64.lt_iff_toInt_lt.mp q; omega)]
/-- the order of ints as longs, and of longs, as whole numbers -/
theorem fz_le32 {a b : Int32} (h : a ≤ b) : a.toInt64.toInt ≤ b.toInt64.toInt := by
  rw [Int32.toInt_toInt64, Int32.toInt_toInt64]
  exact Int32.le_iff_toInt_le.mp h
theorem fz_nle32 {a b : Int32} (h : ¬ a ≤ b) : b.toInt64.toInt < a.toInt64.toInt := by
  rw [Int32.toInt_toInt64, Int32.toInt_toInt64]
  exact Int.not_le.mp (fun q => h (Int32.le_iff_toInt_le.mpr q))
theorem fz_cl {x y : Int64} (h : lg_cmp x y < 0) : x.toInt < y.toInt := Int64.lt_iff_toInt_lt.mp ((lg_cmp_lt x y).mp h)
theorem fz_ncl {x y : Int64} (h : ¬ lg_cmp x y < 0) : y.toInt ≤ x.toInt := Int.not_lt.mp (fun q => h ((lg_cmp_lt x y).mpr (Int64.lt_iff_toInt_lt.mpr q)))
theorem fz_cg {x y : Int64} (h : 0 ≤ lg_cmp x y) : y.toInt ≤ x.toInt := Int64.le_iff_toInt_le.mp ((lg_cmp_ge x y).mp h)
theorem fz_ncg {x y : Int64} (h : ¬ 0 ≤ lg_cmp x y) : x.toInt < y.toInt := Int.not_le.mp (fun q => h ((lg_cmp_ge x y).mpr (Int64.le_iff_toInt_le.mpr q)))
theorem fz_ce {x y : Int64} (h : lg_cmp x y ≤ 0) : x.toInt ≤ y.toInt := Int64.le_iff_toInt_le.mp ((lg_cmp_le x y).mp h)
theorem fz_nce {x y : Int64} (h : ¬ lg_cmp x y ≤ 0) : y.toInt < x.toInt := Int.not_le.mp (fun q => h ((lg_cmp_le x y).mpr (Int64.le_iff_toInt_le.mpr q)))
/-! ===== the face: halves put together by bits, parts by masks ===== -/
theorem fz_hi : ∀ j : Fin 64, ¬ j.val < 32 → (4294967295#64).getLsbD j.val = false := by decide +kernel
theorem fz_or (h l : Int32) : (h.toInt64 <<< ((32 : Int32).toInt64 &&& 63)) ||| (l.toInt64 &&& 4294967295) = fz_n h l := by
  have a := h.toInt_lt
  have b := h.le_toInt
  have hX : (h.toInt64 <<< ((32 : Int32).toInt64 &&& 63)).toBitVec = h.toInt64.toBitVec <<< (32 : Nat) := by
    show h.toInt64.toBitVec <<< (((32 : Int32).toInt64 &&& 63).toBitVec.smod 64) = _
    rw [show ((32 : Int32).toInt64 &&& 63).toBitVec.smod 64 = BitVec.ofNat 64 32 by decide +kernel, BitVec.shiftLeft_eq']
    rfl
  have hY : (l.toInt64 &&& 4294967295).toBitVec = l.toInt64.toBitVec &&& 4294967295#64 := rfl
  have hd : (h.toInt64 <<< ((32 : Int32).toInt64 &&& 63)).toBitVec &&& (l.toInt64 &&& 4294967295).toBitVec = 0#64 := by
    rw [hX, hY]
    apply BitVec.eq_of_getLsbD_eq
    intro i hi
    rw [BitVec.getLsbD_and, BitVec.getLsbD_and, BitVec.getLsbD_shiftLeft]
    by_cases h3 : i < 32
    · simp [h3]
    · rw [fz_hi ⟨i, hi⟩ h3]
      simp
  have ho : (h.toInt64 <<< ((32 : Int32).toInt64 &&& 63)) ||| (l.toInt64 &&& 4294967295) = (h.toInt64 <<< ((32 : Int32).toInt64 &&& 63)) + (l.toInt64 &&& 4294967295) := by
    apply Int64.toBitVec_inj.1
    rw [Int64.toBitVec_or, Int64.toBitVec_add]
    exact (BitVec.add_eq_or_of_and_eq_zero _ _ hd).symm
  have e1 : (h.toInt64 <<< ((32 : Int32).toInt64 &&& 63)).toInt = h.toInt * 4294967296 := by
    rw [Jvm.Kit.i64_shl (k := 32) _ _ (by decide +kernel) (by rw [Int32.toInt_toInt64]; omega) (by rw [Int32.toInt_toInt64]; omega), Int32.toInt_toInt64]
    rfl
  have e2 : (l.toInt64 &&& 4294967295).toInt = l.toInt % 4294967296 := by
    rw [Jvm.Kit.i64_mask (k := 32) _ _ (by decide) (by decide +kernel), Int32.toInt_toInt64]
    rfl
  rw [ho]
  apply fz_i
  rw [fz_nI, Jvm.Kit.i64_add (by omega) (by omega), e1, e2]
theorem fz_m32 (b : Int32) : 1 + (b &&& 1073741823) = fz_pi b := by
  have e : (b &&& 1073741823).toInt = b.toInt % 1073741824 := Jvm.Kit.i32_mask (k := 30) _ _ (by decide) (by decide +kernel)
  have o : (1 : Int32).toInt = 1 := Int32.toInt_one
  apply fz_i32
  rw [fz_piI, Jvm.Kit.i32_add (by omega) (by omega), e, o]
theorem fz_m64 (v : Int64) : 1 + (v &&& 4611686018427387903) = fz_pt v := by
  have e : (v &&& 4611686018427387903).toInt = v.toInt % 4611686018427387904 := Jvm.Kit.i64_mask (k := 62) _ _ (by decide) (by decide +kernel)
  have o : (1 : Int64).toInt = 1 := Int64.toInt_one
  apply fz_i
  rw [fz_ptI, Jvm.Kit.i64_add (by omega) (by omega), e, o]
/-! ===== the reference: the same by sums and remainders ===== -/
theorem fz_k32 : (4294967296 : Int64).toInt = 4294967296 := by decide +kernel
theorem fz_k62 : (4611686018427387904 : Int64).toInt = 4611686018427387904 := by decide +kernel
theorem fz_k30 : (1073741824 : Int32).toInt = 1073741824 := by decide +kernel
theorem fz_j {h l : Int32} {t : Int64} (ht : t.toInt = l.toInt % 4294967296) : h.toInt64 * 4294967296 + t = fz_n h l := by
  have a := h.toInt_lt
  have b := h.le_toInt
  have c := fz_k32
  have d := Int32.toInt_toInt64 h
  have e : (h.toInt64 * 4294967296).toInt = h.toInt * 4294967296 := by
    rw [Jvm.Kit.i64_mul (by rw [d, c]; omega) (by rw [d, c]; omega), d, c]
  apply fz_i
  rw [fz_nI, Jvm.Kit.i64_add (by omega) (by omega), e, ht]
theorem fz_t1 {l : Int32} (h : 0 ≤ l) : l.toInt64.toInt = l.toInt % 4294967296 := by
  have a := l.toInt_lt
  have b := Jvm.Kit.i32_nonneg.mp h
  rw [Int32.toInt_toInt64]
  omega
theorem fz_t2 {l : Int32} (h : ¬ 0 ≤ l) : (l.toInt64 + 4294967296).toInt = l.toInt % 4294967296 := by
  have a := l.le_toInt
  have b : l.toInt < 0 := Int.not_le.mp (fun q => h (Jvm.Kit.i32_nonneg.mpr q))
  have c := fz_k32
  have d := Int32.toInt_toInt64 l
  rw [Jvm.Kit.i64_add (by omega) (by omega), c, d]
  omega
/-- the remainder that cuts towards 0, by a number's sign -/
theorem fz_tm {x y : Int} (hx : x < 0) : x.tmod y = -((-x) % y) := by
  obtain ⟨u, hu⟩ : ∃ u : Int, u = -x := ⟨_, rfl⟩
  have e : x = -u := by omega
  rw [e, Int.neg_tmod, Int.neg_neg, Int.tmod_eq_emod_of_nonneg (by omega)]
theorem fz_p1 {b : Int32} (h : 0 ≤ b) : b - b / 1073741824 * 1073741824 + 0 + 1 = fz_pi b := by
  have g := Jvm.Kit.i32_nonneg.mp h
  have o : (1 : Int32).toInt = 1 := Int32.toInt_one
  have z : (0 : Int32).toInt = 0 := Int32.toInt_zero
  have e : (b - b / 1073741824 * 1073741824).toInt = b.toInt % 1073741824 := by
    rw [fz_rem32, fz_k30, Int.tmod_eq_emod_of_nonneg g]
  have e2 : (b - b / 1073741824 * 1073741824 + 0).toInt = b.toInt % 1073741824 := by
    rw [Jvm.Kit.i32_add (by omega) (by omega)]
    omega
  apply fz_i32
  rw [fz_piI, Jvm.Kit.i32_add (by omega) (by omega)]
  omega
theorem fz_p2 {b : Int32} (h : ¬ 0 ≤ b) (h0 : b - b / 1073741824 * 1073741824 = 0) : b - b / 1073741824 * 1073741824 + 0 + 1 = fz_pi b := by
  have g : b.toInt < 0 := Int.not_le.mp (fun q => h (Jvm.Kit.i32_nonneg.mpr q))
  have e : (b - b / 1073741824 * 1073741824).toInt = -((-b.toInt) % 1073741824) := by
    rw [fz_rem32, fz_k30, fz_tm g]
  rw [h0, Int32.toInt_zero] at e
  rw [h0]
  apply fz_i32
  rw [fz_piI]
  have o : (0 + 0 + 1 : Int32).toInt = 1 := by decide +kernel
  rw [o]
  omega
theorem fz_p3 {b : Int32} (h : ¬ 0 ≤ b) (h0 : ¬ b - b / 1073741824 * 1073741824 = 0) : b - b / 1073741824 * 1073741824 + 1073741824 + 1 = fz_pi b := by
  have g : b.toInt < 0 := Int.not_le.mp (fun q => h (Jvm.Kit.i32_nonneg.mpr q))
  have o : (1 : Int32).toInt = 1 := Int32.toInt_one
  have k := fz_k30
  have e : (b - b / 1073741824 * 1073741824).toInt = -((-b.toInt) % 1073741824) := by
    rw [fz_rem32, fz_k30, fz_tm g]
  have n : ¬ (b - b / 1073741824 * 1073741824).toInt = 0 := fun q => h0 (fz_i32 (by rw [q, Int32.toInt_zero]))
  have e2 : (b - b / 1073741824 * 1073741824 + 1073741824).toInt = -((-b.toInt) % 1073741824) + 1073741824 := by
    rw [Jvm.Kit.i32_add (by omega) (by omega)]
    omega
  apply fz_i32
  rw [fz_piI, Jvm.Kit.i32_add (by omega) (by omega)]
  omega
theorem fz_P1 {v : Int64} (h : 0 ≤ (v - v / 4611686018427387904 * 4611686018427387904).toInt) : v - v / 4611686018427387904 * 4611686018427387904 + 1 = fz_pt v := by
  have o : (1 : Int64).toInt = 1 := Int64.toInt_one
  have e := Jvm.Kit.i64_rem v 4611686018427387904
  rw [fz_k62] at e
  have e2 : (v - v / 4611686018427387904 * 4611686018427387904).toInt = v.toInt % 4611686018427387904 := by
    rcases (show v.toInt < 0 ∨ 0 ≤ v.toInt by omega) with g | g
    · rw [fz_tm g] at e
      omega
    · rw [Int.tmod_eq_emod_of_nonneg g] at e
      exact e
  apply fz_i
  rw [fz_ptI, Jvm.Kit.i64_add (by omega) (by omega)]
  omega
theorem fz_P2 {v : Int64} (h : (v - v / 4611686018427387904 * 4611686018427387904).toInt < 0) : v - v / 4611686018427387904 * 4611686018427387904 + 4611686018427387904 + 1 = fz_pt v := by
  have o : (1 : Int64).toInt = 1 := Int64.toInt_one
  have k := fz_k62
  have e := Jvm.Kit.i64_rem v 4611686018427387904
  rw [fz_k62] at e
  have e2 : (v - v / 4611686018427387904 * 4611686018427387904).toInt = v.toInt % 4611686018427387904 - 4611686018427387904 := by
    rcases (show v.toInt < 0 ∨ 0 ≤ v.toInt by omega) with g | g
    · rw [fz_tm g] at e
      omega
    · rw [Int.tmod_eq_emod_of_nonneg g] at e
      omega
  have e3 : (v - v / 4611686018427387904 * 4611686018427387904 + 4611686018427387904).toInt = v.toInt % 4611686018427387904 := by
    rw [Jvm.Kit.i64_add (by omega) (by omega)]
    omega
  apply fz_i
  rw [fz_ptI, Jvm.Kit.i64_add (by omega) (by omega)]
  omega
/-! ===== the reference's division, digit by digit ===== -/
/-- with n digits still to come: t is what the digits so far say, up the rest, dg the next digit's worth -/
def fz_I (U B : Int) (n : Nat) (up dg le wh : Int64) : Prop := ∃ t : Int, 0 ≤ t ∧ 0 ≤ up.toInt ∧ up.toInt < 2 ^ n ∧ U = t * 2 ^ n + up.toInt ∧ dg.toInt = 2 ^ n / 2 ∧ le.toInt = t % B ∧ wh.toInt = t / B
theorem fz_I_start {U B : Int} {up : Int64} (h0 : 0 ≤ U) (hU : U < 9223372036854775808) (hu : up.toInt = U) : fz_I U B 63 up 4611686018427387904 0 0 := by
  have z : (0 : Int64).toInt = 0 := Int64.toInt_zero
  refine ⟨0, by omega, by omega, by omega, by omega, by rw [fz_k62]; decide +kernel, by rw [z, Int.zero_emod], by rw [z, Int.zero_ediv]⟩
theorem fz_I_end {U B : Int} {up dg le wh : Int64} (h : fz_I U B 0 up dg le wh) : le.toInt = U % B ∧ wh.toInt = U / B := by
  obtain ⟨t, h1, h2, h3, h4, h5, h6, h7⟩ := h
  have e : (2 : Int) ^ 0 = 1 := rfl
  rw [e] at h3 h4
  have : U = t := by omega
  rw [this]
  exact ⟨h6, h7⟩
/-- one digit more -/
theorem fz_digit {t B β : Int} (hB : 0 < B) (hβ : β = 0 ∨ β = 1) : (2 * (t % B) + β < B → (2 * t + β) / B = 2 * (t / B) ∧ (2 * t + β) % B = 2 * (t % B) + β) ∧ (B ≤ 2 * (t % B) + β → (2 * t + β) / B = 2 * (t / B) + 1 ∧ (2 * t + β) % B = 2 * (t % B) + β - B) := by
  have h := Int.emod_add_mul_ediv t B
  have h1 := Int.emod_nonneg t (show B ≠ 0 by omega)
  have h2 := Int.emod_lt_of_pos t hB
  have e1 : B * (2 * (t / B)) = 2 * (B * (t / B)) := by rw [← Int.mul_assoc, Int.mul_comm B 2, Int.mul_assoc]
  have e2 : B * (2 * (t / B) + 1) = 2 * (B * (t / B)) + B := by rw [Int.mul_add, e1, Int.mul_one]
  constructor
  · intro g
    refine (Int.ediv_emod_unique hB).mpr ⟨?_, by omega, by omega⟩
    rw [e1]
    omega
  · intro g
    refine (Int.ediv_emod_unique hB).mpr ⟨?_, by omega, by omega⟩
    rw [e2]
    omega
theorem fz_half {m : Nat} {dg : Int64} (h : dg.toInt = 2 ^ (m + 1) / 2) : dg.toInt = 2 ^ m ∧ (dg / 2).toInt = 2 ^ m / 2 := by
  have e : (2 : Int) ^ (m + 1) = 2 ^ m * 2 := Int.pow_succ 2 m
  rw [e] at h
  have h1 : dg.toInt = 2 ^ m := by omega
  have hp : (0 : Int) < 2 ^ m := Int.pow_pos (by decide)
  have w : (2 : Int64).toInt = 2 := by decide +kernel
  refine ⟨h1, ?_⟩
  rw [Jvm.Kit.i64_div (by omega), w, Int.tdiv_eq_ediv_of_nonneg (by omega), h1]
theorem fz_I_step {U B : Int} {m : Nat} {up up2 dg le wh be : Int64} (hB : 0 < B) (hB2 : B ≤ 4611686018427387904) (hU : U < 9223372036854775808) (h : fz_I U B (m + 1) up dg le wh)
    (hb : (be = 1 ∧ dg.toInt ≤ up.toInt ∧ up2 = up - dg) ∨ (be = 0 ∧ up.toInt < dg.toInt ∧ up2 = up)) :
    ((le + le + be).toInt < B → fz_I U B m up2 (dg / 2) (le + le + be) (wh + wh)) ∧ (B ≤ (le + le + be).toInt → ∀ b : Int64, b.toInt = B → fz_I U B m up2 (dg / 2) (le + le + be - b) (wh + wh + 1)) := by
  obtain ⟨t, h1, h2, h3, h4, h5, h6, h7⟩ := h
  obtain ⟨d1, d2⟩ := fz_half h5
  have e : (2 : Int) ^ (m + 1) = 2 ^ m * 2 := Int.pow_succ 2 m
  rw [e] at h3 h4
  have hp : (0 : Int) < 2 ^ m := Int.pow_pos (by decide)
  generalize hP : (2 : Int) ^ m = P at *
  have e4 : t * (P * 2) = 2 * (t * P) := by rw [Int.mul_comm P 2, ← Int.mul_assoc, Int.mul_comm t 2, Int.mul_assoc]
  rw [e4] at h4
  have o : (1 : Int64).toInt = 1 := Int64.toInt_one
  have z : (0 : Int64).toInt = 0 := Int64.toInt_zero
  obtain ⟨β, hβ, hbe, hu1, hu2, hu3⟩ : ∃ β : Int, (β = 0 ∨ β = 1) ∧ be.toInt = β ∧ 0 ≤ up2.toInt ∧ up2.toInt < P ∧ U = (2 * t + β) * P + up2.toInt := by
    rcases hb with ⟨b1, b2, b3⟩ | ⟨b1, b2, b3⟩
    · refine ⟨1, Or.inr rfl, by rw [b1, o], ?_⟩
      have u1 := up.toInt_lt
      have u2 : up2.toInt = up.toInt - P := by rw [b3, Jvm.Kit.i64_sub (by omega) (by omega), d1]
      have e5 : (2 * t + 1) * P = 2 * (t * P) + P := by rw [Int.add_mul, Int.mul_assoc, Int.one_mul]
      exact ⟨by omega, by omega, by rw [e5]; omega⟩
    · refine ⟨0, Or.inl rfl, by rw [b1, z], ?_⟩
      have u2 : up2.toInt = up.toInt := by rw [b3]
      have e5 : (2 * t + 0) * P = 2 * (t * P) := by rw [Int.add_zero, Int.mul_assoc]
      exact ⟨by omega, by omega, by rw [e5]; omega⟩
  have ht : (2 * t + β) * 1 ≤ (2 * t + β) * P := Int.mul_le_mul_of_nonneg_left (by omega) (by omega)
  rw [Int.mul_one] at ht
  have m1 := Int.emod_nonneg t (show B ≠ 0 by omega)
  have m2 := Int.emod_lt_of_pos t hB
  have m3 := Int.ediv_nonneg h1 (Int.le_of_lt hB)
  have m4 := Int.ediv_le_self B h1
  have l1 : (le + le).toInt = 2 * (t % B) := by
    rw [Jvm.Kit.i64_add (by omega) (by omega)]
    omega
  have l2 : (le + le + be).toInt = 2 * (t % B) + β := by
    rw [Jvm.Kit.i64_add (by omega) (by omega)]
    omega
  have w1 : (wh + wh).toInt = 2 * (t / B) := by
    rw [Jvm.Kit.i64_add (by omega) (by omega)]
    omega
  obtain ⟨g1, g2⟩ := fz_digit (t := t) (β := β) hB hβ
  constructor
  · intro q
    obtain ⟨r1, r2⟩ := g1 (by omega)
    exact ⟨2 * t + β, by omega, hu1, hP ▸ hu2, hP ▸ hu3, d2.trans (by rw [hP]), by rw [l2, r2], by rw [w1, r1]⟩
  · intro q b hbb
    obtain ⟨r1, r2⟩ := g2 (by omega)
    have m5 := Int.ediv_le_self (a := 2 * t + β) B (by omega)
    have l3 : (le + le + be - b).toInt = 2 * (t % B) + β - B := by
      rw [Jvm.Kit.i64_sub (by omega) (by omega)]
      omega
    have w2 : (wh + wh + 1).toInt = 2 * (t / B) + 1 := by
      rw [Jvm.Kit.i64_add (by omega) (by omega)]
      omega
    exact ⟨2 * t + β, by omega, hu1, hP ▸ hu2, hP ▸ hu3, d2.trans (by rw [hP]), by rw [l3, r2], by rw [w2, r1]⟩
/-- the division's end: from 0 on, and below 0 -/
theorem fz_e1 {a b le wh : Int64} {U : Int} (hB : 0 < b.toInt) (hU : U = a.toInt) (h1 : le.toInt = U % b.toInt) (h2 : wh.toInt = U / b.toInt) : wh = fz_q a b ∧ le = fz_r a b :=
  ⟨fz_i (by rw [fz_qI hB, h2, hU]), fz_i (by rw [fz_rI hB, h1, hU])⟩
theorem fz_km1 : (-1 : Int64).toInt = -1 := by decide +kernel
theorem fz_e2 {a b le wh : Int64} {U : Int} (hB : 0 < b.toInt) (h0 : 0 ≤ U) (hU : U = -1 - a.toInt) (h1 : le.toInt = U % b.toInt) (h2 : wh.toInt = U / b.toInt) : -1 - wh = fz_q a b ∧ b - 1 - le = fz_r a b := by
  have k := fz_km1
  have o : (1 : Int64).toInt = 1 := Int64.toInt_one
  obtain ⟨f1, f2⟩ := fz_below (u := U) hB
  have e : -1 - U = a.toInt := by omega
  rw [e] at f1 f2
  have a2 := a.le_toInt
  have b1 := b.toInt_lt
  have m1 := Int.emod_nonneg U (show b.toInt ≠ 0 by omega)
  have m2 := Int.emod_lt_of_pos U hB
  have m3 := Int.ediv_nonneg h0 (Int.le_of_lt hB)
  have m4 := Int.ediv_le_self b.toInt h0
  constructor
  · apply fz_i
    rw [fz_qI hB, f1, Jvm.Kit.i64_sub (by omega) (by omega), k, h2]
  · apply fz_i
    have c : (b - 1).toInt = b.toInt - 1 := by rw [Jvm.Kit.i64_sub (by omega) (by omega), o]
    rw [fz_rI hB, f2, Jvm.Kit.i64_sub (by omega) (by omega), c, h1]
/-- the number that is divided: itself, or the one on the other side of -1/2 -/
theorem fz_up {a : Int64} (h : a.toInt < 0) : (-1 - a).toInt = -1 - a.toInt := by
  have k := fz_km1
  have a2 := a.le_toInt
  rw [Jvm.Kit.i64_sub (by omega) (by omega), k]
end
section
/-! CALLS OF METHODS THAT TOUCH NO CELL: one contract shape an answer kind, one row a call -/
abbrev fz_rm (f n : Nat) : Room := { frames := f, cells := 0, slots := 0, locals := n }
/-- the method answers the long v, and changes no cell -/
abbrev fz_Ml (l : Launch) (y : MethodName) (ws : List Cond) (rm : Room) (av : List Value) (v : Int64) : Prop := Met l y ws rm (va_Pc av (fun _ => True)) (va_Ql (fun (r : Int64) (_ : Unit) => r = v) (fun _ _ => True) (fun _ => False)) 0 0 (fun _ => False)
/-- the method answers the int v, and changes no cell -/
abbrev fz_Mi (l : Launch) (y : MethodName) (ws : List Cond) (rm : Room) (av : List Value) (v : Int32) : Prop := Met l y ws rm (va_Pc av (fun _ => True)) (va_Qi (fun (r : Int32) (_ : Unit) => r = v) (fun _ _ => True) (fun _ => False)) 0 0 (fun _ => False)
/-- the method returns, and changes no cell -/
abbrev fz_Mv (l : Launch) (y : MethodName) (ws : List Cond) (rm : Room) (av : List Value) : Prop := Met l y ws rm (va_Pc av (fun _ => True)) (va_Qv (fun _ : Unit => True) (fun _ _ => True) (fun _ => False)) 0 0 (fun _ => False)
theorem fz_keep {D : va_G} {cl : List vw_C} {ws : va_W} {H H1 : Heap} (hP : va_P D cl ws H) (hk : ∀ q : Nat, q < H.size → H1[q]? = H[q]?) : va_P D cl ws H1 := hP.kept (fun k q h => hk q.1 (hP k q h).lt)
section FZC
variable {p : Program} {l : Launch} {e : Env} {R : Room} {s : State} {m : MethodId} {args : Array Value} {below : List Frame} {meth : Method} {c : Code} {H : Heap} {locs : List Loc} {cells slots : Nat} {Q : State → Prop}
variable {pc : Nat} {ls : Array Slot} {rest st : List Value} {A : Nat → Prop} {H0 : Heap}
variable {y : MethodName} {bytes cc : ByteArray} {maxL nL n index : Nat} {ret : Option FieldType} {ws : List Cond} {rm : Room} {Ts : List Cond} {own C : String} {b : Addr} {As : List Value}
theorem fz_callSl {v : Int64} (S : CallFix p m c cc nL s args Ts own) (hM : fz_Ml l y ws rm As v) (cw : CallB R s args own index y bytes maxL ret ws rm 0 0 n ∧ (Cond.static y).before args s = true)
    (hn : As.length = n) (hsize : ls.size = nL) (hst : st = As.reverse ++ rest) (hW : (rest.map fun v => v.category).sum ≤ 8) (hdg : decode cc pc = .ok (.invokestatic index, 3)) (hf : cells + 0 ≤ R.cells ∧ slots + 0 ≤ R.slots) (hS : va_S A H0 H locs)
    (kk : ∀ (H1 : Heap) (locs1 : List Loc), H.size ≤ H1.size → (∀ q : Nat, q < H.size → H1[q]? = H[q]?) → va_S A H0 H1 locs1 → W p l e R s m args below meth c H1 locs1 cells slots Q (F0 m (pc + 3) ls (.long v :: rest))) : W p l e R s m args below meth c H locs cells slots Q (F0 m pc ls st) := by
  refine va_calll (va_runS (rest := rest) S hM cw ⟨fun a U g mk q => q, fun U hU hW => ⟨rfl, trivial⟩⟩ rfl hn hsize hst (lv_room hW) hdg hf) hS (fun q _ h => h.elim) (fun q h => h.elim) (fun r u t H1 locs1 ht hvm hw hB hz hk hS => ?_)
  have hw : r = v := hw
  rw [hw]
  exact kk H1 locs1 hz (fun q h => hk q h (fun z => z)) hS
theorem fz_callSi {v : Int32} (S : CallFix p m c cc nL s args Ts own) (hM : fz_Mi l y ws rm As v) (cw : CallB R s args own index y bytes maxL ret ws rm 0 0 n ∧ (Cond.static y).before args s = true)
    (hn : As.length = n) (hsize : ls.size = nL) (hst : st = As.reverse ++ rest) (hW : (rest.map fun v => v.category).sum ≤ 8) (hdg : decode cc pc = .ok (.invokestatic index, 3)) (hf : cells + 0 ≤ R.cells ∧ slots + 0 ≤ R.slots) (hS : va_S A H0 H locs)
    (kk : ∀ (H1 : Heap) (locs1 : List Loc), H.size ≤ H1.size → (∀ q : Nat, q < H.size → H1[q]? = H[q]?) → va_S A H0 H1 locs1 → W p l e R s m args below meth c H1 locs1 cells slots Q (F0 m (pc + 3) ls (.int v :: rest))) : W p l e R s m args below meth c H locs cells slots Q (F0 m pc ls st) := by
  refine va_calli (va_runS (rest := rest) S hM cw ⟨fun a U g mk q => q, fun U hU hW => ⟨rfl, trivial⟩⟩ rfl hn hsize hst (lv_room hW) hdg hf) hS (fun q _ h => h.elim) (fun q h => h.elim) (fun r u t H1 locs1 ht hvm hw hB hz hk hS => ?_)
  have hw : r = v := hw
  rw [hw]
  exact kk H1 locs1 hz (fun q h => hk q h (fun z => z)) hS
theorem fz_callVl {v : Int64} (S : CallFix p m c cc nL s args Ts own) (hM : fz_Ml l y ws rm (.ref b :: As) v) (cw : CallW R s args own C index y bytes maxL ret ws rm 0 0 n) (hrv : ∃ cell : Cell, H[b]? = some cell ∧ cell.vm.isStatics = false ∧ s.vm.findClass C = some cell.cls)
    (hn : As.length = n) (hsize : ls.size = nL) (hst : st = As.reverse ++ .ref b :: rest) (hW : (rest.map fun v => v.category).sum ≤ 8) (hdg : decode cc pc = .ok (.invokevirtual index, 3)) (hf : cells + 0 ≤ R.cells ∧ slots + 0 ≤ R.slots) (hS : va_S A H0 H locs)
    (kk : ∀ (H1 : Heap) (locs1 : List Loc), H.size ≤ H1.size → (∀ q : Nat, q < H.size → H1[q]? = H[q]?) → va_S A H0 H1 locs1 → W p l e R s m args below meth c H1 locs1 cells slots Q (F0 m (pc + 3) ls (.long v :: rest))) : W p l e R s m args below meth c H locs cells slots Q (F0 m pc ls st) := by
  refine va_calll (va_runV (As := As) (b := b) (rest := rest) S hM cw ⟨fun a U g mk q => q, hrv, fun U hU hW => ⟨rfl, trivial⟩⟩ rfl hn hsize hst (lv_room hW) hdg hf) hS (fun q _ h => h.elim) (fun q h => h.elim) (fun r u t H1 locs1 ht hvm hw hB hz hk hS => ?_)
  have hw : r = v := hw
  rw [hw]
  exact kk H1 locs1 hz (fun q h => hk q h (fun z => z)) hS
theorem fz_callVi {v : Int32} (S : CallFix p m c cc nL s args Ts own) (hM : fz_Mi l y ws rm (.ref b :: As) v) (cw : CallW R s args own C index y bytes maxL ret ws rm 0 0 n) (hrv : ∃ cell : Cell, H[b]? = some cell ∧ cell.vm.isStatics = false ∧ s.vm.findClass C = some cell.cls)
    (hn : As.length = n) (hsize : ls.size = nL) (hst : st = As.reverse ++ .ref b :: rest) (hW : (rest.map fun v => v.category).sum ≤ 8) (hdg : decode cc pc = .ok (.invokevirtual index, 3)) (hf : cells + 0 ≤ R.cells ∧ slots + 0 ≤ R.slots) (hS : va_S A H0 H locs)
    (kk : ∀ (H1 : Heap) (locs1 : List Loc), H.size ≤ H1.size → (∀ q : Nat, q < H.size → H1[q]? = H[q]?) → va_S A H0 H1 locs1 → W p l e R s m args below meth c H1 locs1 cells slots Q (F0 m (pc + 3) ls (.int v :: rest))) : W p l e R s m args below meth c H locs cells slots Q (F0 m pc ls st) := by
  refine va_calli (va_runV (As := As) (b := b) (rest := rest) S hM cw ⟨fun a U g mk q => q, hrv, fun U hU hW => ⟨rfl, trivial⟩⟩ rfl hn hsize hst (lv_room hW) hdg hf) hS (fun q _ h => h.elim) (fun q h => h.elim) (fun r u t H1 locs1 ht hvm hw hB hz hk hS => ?_)
  have hw : r = v := hw
  rw [hw]
  exact kk H1 locs1 hz (fun q h => hk q h (fun z => z)) hS
theorem fz_callIv (S : CallFix p m c cc nL s args Ts own) (hM : fz_Mv l y ws rm (.ref b :: As)) (cw : CallB R s args own index y bytes maxL none ws rm 0 0 n ∧ y.name = "<init>" ∧ (Cond.instanceMethod y).before args s = true)
    (hn : As.length = n) (hsize : ls.size = nL) (hst : st = As.reverse ++ .ref b :: rest) (hW : (rest.map fun v => v.category).sum ≤ 8) (hdg : decode cc pc = .ok (.invokespecial index, 3)) (hf : cells + 0 ≤ R.cells ∧ slots + 0 ≤ R.slots) (hS : va_S A H0 H locs)
    (kk : ∀ (H1 : Heap) (locs1 : List Loc), H.size ≤ H1.size → (∀ q : Nat, q < H.size → H1[q]? = H[q]?) → va_S A H0 H1 locs1 → W p l e R s m args below meth c H1 locs1 cells slots Q (F0 m (pc + 3) ls rest)) : W p l e R s m args below meth c H locs cells slots Q (F0 m pc ls st) := by
  refine va_callv (va_runI (As := As) (b := b) (rest := rest) S hM cw ⟨fun a U g mk q => q, fun U hU hW => ⟨rfl, trivial⟩⟩ rfl hn hsize hst (lv_room hW) hdg hf) hS (fun q _ h => h.elim) (fun q h => h.elim) (fun u t H1 locs1 ht hvm hw hB hz hk hS => ?_)
  exact kk H1 locs1 hz (fun q h => hk q h (fun z => z)) hS
end FZC
end
section
/-! MODULE Jdk8Methods (the library's own methods): seven contracts, no cell touched -/
set_option maxHeartbeats 4000000 in
set_option maxRecDepth 100000 in
/-- floorDiv(long, long), for a divisor above 0 -/
theorem mj_floorDiv (l : Launch) (x y : Int64) (hpos : 0 < y.toInt) : fz_Ml l yX2_floorDiv (ws_ yX2_floorDiv cX2_floorDiv 4 (some .long)) (fz_rm 0 0) [.long x, .long y] ((fz_q x y)) := by
  refine Met.ofW (cc := cX2_floorDiv) (maxL := 4) (ret := (some .long)) (by decide) rfl ?_
  intro p e s m args below meth c s₁ B hml hv
  obtain ⟨rfl, -⟩ := hv
  have hx := B.exec
  have hb := B.bytes
  have hr := B.returns
  have hts := atoms_spec (ws := ws_ yX2_floorDiv cX2_floorDiv 4 (some .long)) B.pre
  have hts : ∀ w ∈ lw_all, w.before _ s = true := fun w h => hts w (List.mem_cons_of_mem _ h)
  have hown : s.vm.findClass RX2 = some m.cls := findClass_of_methodNamed B.named
  have hlocks := B.notSynchronized
  have hS : va_S (fun _ => False) s.heap s.heap [] := va_S.rf
  have hl := lv_entry ([.long x, .long y]) (n := 4) (Nat.le_of_ble_eq_true rfl)
  rw [lg_entry_eq]
  generalize (lg_sl ([.long x, .long y]) ++ List.replicate (4 - (lg_sl ([.long x, .long y])).length) Slot.unset).toArray = ls at hl ⊢
  have hl : lv_has ls 4 [(0, .long x), (2, .long y)] := hl
  refine lv_lload_n hx hb dX2_floorDiv_0 rfl (lv_at hl 0 rfl) ?_
  refine lv_lconst (v := 0) hx hb dX2_floorDiv_1 (by decide) ?_
  refine W.lcmp hx hb dX2_floorDiv_2 ?_
  refine lv_if_lt (tgt := 12) hx hb dX2_floorDiv_3 (by decide) (fun c1 => ?_) (fun c1 => ?_)
  · refine lv_lload_n hx hb dX2_floorDiv_12 rfl (lv_at hl 0 rfl) ?_
    refine lv_lconst (v := 1) hx hb dX2_floorDiv_13 (by decide) ?_
    refine lv_ladd hx hb dX2_floorDiv_14 ?_
    refine lv_lload_n hx hb dX2_floorDiv_15 rfl (lv_at hl 1 rfl) ?_
    refine lv_ldiv hx hb dX2_floorDiv_16 (fz_nz hpos) ?_
    refine lv_lconst (v := 1) hx hb dX2_floorDiv_17 (by decide) ?_
    refine lv_lsub hx hb dX2_floorDiv_18 ?_
    exact W.lret (v := (((x + 1) / y) - 1)) hx hb hr (fun t ht hW => ⟨⟨_, (), rfl, fz_fd2 hpos (by have := fz_cl c1; rw [Int64.toInt_zero] at this; exact this), trivial⟩, hS.F ht⟩) hS.2.2 dX2_floorDiv_19
  · refine lv_lload_n hx hb dX2_floorDiv_6 rfl (lv_at hl 0 rfl) ?_
    refine lv_lload_n hx hb dX2_floorDiv_7 rfl (lv_at hl 1 rfl) ?_
    refine lv_ldiv hx hb dX2_floorDiv_8 (fz_nz hpos) ?_
    refine lv_goto (tgt := 19) hx hb dX2_floorDiv_9 (by decide) ?_
    exact W.lret (v := (x / y)) hx hb hr (fun t ht hW => ⟨⟨_, (), rfl, fz_fd1 hpos (by have := fz_ncl c1; rw [Int64.toInt_zero] at this; exact this), trivial⟩, hS.F ht⟩) hS.2.2 dX2_floorDiv_19
set_option maxHeartbeats 4000000 in
set_option maxRecDepth 100000 in
/-- floorMod(long, long), for a divisor from 1 to 2^62 -/
theorem mj_floorMod (l : Launch) (x y : Int64) (hpos : 0 < y.toInt) (hle : y.toInt ≤ 4611686018427387904) : fz_Ml l yX2_floorMod (ws_ yX2_floorMod cX2_floorMod 4 (some .long)) (fz_rm 0 0) [.long x, .long y] ((fz_r x y)) := by
  refine Met.ofW (cc := cX2_floorMod) (maxL := 4) (ret := (some .long)) (by decide) rfl ?_
  intro p e s m args below meth c s₁ B hml hv
  obtain ⟨rfl, -⟩ := hv
  have hx := B.exec
  have hb := B.bytes
  have hr := B.returns
  have hts := atoms_spec (ws := ws_ yX2_floorMod cX2_floorMod 4 (some .long)) B.pre
  have hts : ∀ w ∈ lw_all, w.before _ s = true := fun w h => hts w (List.mem_cons_of_mem _ h)
  have hown : s.vm.findClass RX2 = some m.cls := findClass_of_methodNamed B.named
  have hlocks := B.notSynchronized
  have hS : va_S (fun _ => False) s.heap s.heap [] := va_S.rf
  have hl := lv_entry ([.long x, .long y]) (n := 4) (Nat.le_of_ble_eq_true rfl)
  rw [lg_entry_eq]
  generalize (lg_sl ([.long x, .long y]) ++ List.replicate (4 - (lg_sl ([.long x, .long y])).length) Slot.unset).toArray = ls at hl ⊢
  have hl : lv_has ls 4 [(0, .long x), (2, .long y)] := hl
  refine lv_lload_n hx hb dX2_floorMod_0 rfl (lv_at hl 0 rfl) ?_
  refine lv_lload_n hx hb dX2_floorMod_1 rfl (lv_at hl 1 rfl) ?_
  refine lv_lrem hx hb dX2_floorMod_2 (fz_nz hpos) ?_
  refine lv_lload_n hx hb dX2_floorMod_3 rfl (lv_at hl 1 rfl) ?_
  refine lv_ladd hx hb dX2_floorMod_4 ?_
  refine lv_lload_n hx hb dX2_floorMod_5 rfl (lv_at hl 1 rfl) ?_
  refine lv_lrem hx hb dX2_floorMod_6 (fz_nz hpos) ?_
  exact W.lret (v := (((x - x / y * y) + y) - ((x - x / y * y) + y) / y * y)) hx hb hr (fun t ht hW => ⟨⟨_, (), rfl, fz_fm hpos hle, trivial⟩, hS.F ht⟩) hS.2.2 dX2_floorMod_7
set_option maxHeartbeats 4000000 in
set_option maxRecDepth 100000 in
/-- floorMod(long, int), for a divisor above 0 -/
theorem mj_floorModJI (l : Launch) (x : Int64) (y : Int32) (hpos : 0 < y.toInt) : fz_Mi l yX2_floorMod_2 (ws_ yX2_floorMod_2 cX2_floorMod_2 3 (some .int)) (fz_rm 0 0) [.long x, .int y] ((fz_r x y.toInt64).toInt32) := by
  refine Met.ofW (cc := cX2_floorMod_2) (maxL := 3) (ret := (some .int)) (by decide) rfl ?_
  intro p e s m args below meth c s₁ B hml hv
  obtain ⟨rfl, -⟩ := hv
  have hx := B.exec
  have hb := B.bytes
  have hr := B.returns
  have hts := atoms_spec (ws := ws_ yX2_floorMod_2 cX2_floorMod_2 3 (some .int)) B.pre
  have hts : ∀ w ∈ lw_all, w.before _ s = true := fun w h => hts w (List.mem_cons_of_mem _ h)
  have hown : s.vm.findClass RX2 = some m.cls := findClass_of_methodNamed B.named
  have hlocks := B.notSynchronized
  have hS : va_S (fun _ => False) s.heap s.heap [] := va_S.rf
  have hl := lv_entry ([.long x, .int y]) (n := 3) (Nat.le_of_ble_eq_true rfl)
  rw [lg_entry_eq]
  generalize (lg_sl ([.long x, .int y]) ++ List.replicate (3 - (lg_sl ([.long x, .int y])).length) Slot.unset).toArray = ls at hl ⊢
  have hl : lv_has ls 3 [(0, .long x), (2, .int y)] := hl
  refine lv_lload_n hx hb dX2_floorMod_2_0 rfl (lv_at hl 0 rfl) ?_
  refine lv_iload_n hx hb dX2_floorMod_2_1 rfl (lv_at hl 1 rfl) ?_
  refine lv_i2l hx hb dX2_floorMod_2_2 rfl ?_
  refine lv_lrem hx hb dX2_floorMod_2_3 (fz_nz (by rw [Int32.toInt_toInt64]; exact hpos)) ?_
  refine lv_iload_n hx hb dX2_floorMod_2_4 rfl (lv_at hl 1 rfl) ?_
  refine lv_i2l hx hb dX2_floorMod_2_5 rfl ?_
  refine lv_ladd hx hb dX2_floorMod_2_6 ?_
  refine lv_iload_n hx hb dX2_floorMod_2_7 rfl (lv_at hl 1 rfl) ?_
  refine lv_i2l hx hb dX2_floorMod_2_8 rfl ?_
  refine lv_lrem hx hb dX2_floorMod_2_9 (fz_nz (by rw [Int32.toInt_toInt64]; exact hpos)) ?_
  refine lv_l2i hx hb dX2_floorMod_2_10 rfl ?_
  exact W.iret (v := (((x - x / y.toInt64 * y.toInt64) + y.toInt64) - ((x - x / y.toInt64 * y.toInt64) + y.toInt64) / y.toInt64 * y.toInt64).toInt32) hx hb hr (fun t ht hW => ⟨⟨_, (), rfl, (congrArg Int64.toInt32 (fz_fm (by rw [Int32.toInt_toInt64]; exact hpos) (by rw [Int32.toInt_toInt64]; have := y.toInt_lt; omega))), trivial⟩, hS.F ht⟩) hS.2.2 dX2_floorMod_2_11
set_option maxHeartbeats 4000000 in
set_option maxRecDepth 100000 in
/-- floorDiv(int, int), for a divisor above 0 -/
theorem mj_floorDivII (l : Launch) (x y : Int32) (hpos : 0 < y.toInt) : fz_Mi l yX2_floorDiv_2 (ws_ yX2_floorDiv_2 cX2_floorDiv_2 2 (some .int)) (fz_rm 0 0) [.int x, .int y] ((fz_q x.toInt64 y.toInt64).toInt32) := by
  refine Met.ofW (cc := cX2_floorDiv_2) (maxL := 2) (ret := (some .int)) (by decide) rfl ?_
  intro p e s m args below meth c s₁ B hml hv
  obtain ⟨rfl, -⟩ := hv
  have hx := B.exec
  have hb := B.bytes
  have hr := B.returns
  have hts := atoms_spec (ws := ws_ yX2_floorDiv_2 cX2_floorDiv_2 2 (some .int)) B.pre
  have hts : ∀ w ∈ lw_all, w.before _ s = true := fun w h => hts w (List.mem_cons_of_mem _ h)
  have hown : s.vm.findClass RX2 = some m.cls := findClass_of_methodNamed B.named
  have hlocks := B.notSynchronized
  have hS : va_S (fun _ => False) s.heap s.heap [] := va_S.rf
  have hl := lv_entry ([.int x, .int y]) (n := 2) (Nat.le_of_ble_eq_true rfl)
  rw [lg_entry_eq]
  generalize (lg_sl ([.int x, .int y]) ++ List.replicate (2 - (lg_sl ([.int x, .int y])).length) Slot.unset).toArray = ls at hl ⊢
  have hl : lv_has ls 2 [(0, .int x), (1, .int y)] := hl
  refine lv_iload_n hx hb dX2_floorDiv_2_0 rfl (lv_at hl 0 rfl) ?_
  refine lv_if_lt (tgt := 10) hx hb dX2_floorDiv_2_1 (by decide) (fun c1 => ?_) (fun c1 => ?_)
  · refine lv_iload_n hx hb dX2_floorDiv_2_10 rfl (lv_at hl 0 rfl) ?_
    refine lv_iconst (v := 1) hx hb dX2_floorDiv_2_11 (by decide) ?_
    refine lv_iadd hx hb dX2_floorDiv_2_12 ?_
    refine lv_iload_n hx hb dX2_floorDiv_2_13 rfl (lv_at hl 1 rfl) ?_
    refine lv_idiv hx hb dX2_floorDiv_2_14 (fz_nz32 hpos) ?_
    refine lv_iconst (v := 1) hx hb dX2_floorDiv_2_15 (by decide) ?_
    refine lv_isub hx hb dX2_floorDiv_2_16 ?_
    exact W.iret (v := (((x + 1) / y) - 1)) hx hb hr (fun t ht hW => ⟨⟨_, (), rfl, fz_fd2i hpos (by have := Int32.lt_iff_toInt_lt.mp c1; rw [Int32.toInt_zero] at this; exact this), trivial⟩, hS.F ht⟩) hS.2.2 dX2_floorDiv_2_17
  · refine lv_iload_n hx hb dX2_floorDiv_2_4 rfl (lv_at hl 0 rfl) ?_
    refine lv_iload_n hx hb dX2_floorDiv_2_5 rfl (lv_at hl 1 rfl) ?_
    refine lv_idiv hx hb dX2_floorDiv_2_6 (fz_nz32 hpos) ?_
    refine lv_goto (tgt := 17) hx hb dX2_floorDiv_2_7 (by decide) ?_
    exact W.iret (v := (x / y)) hx hb hr (fun t ht hW => ⟨⟨_, (), rfl, fz_fd1i hpos (Int.not_lt.mp (fun q => c1 (Int32.lt_iff_toInt_lt.mpr (by rw [Int32.toInt_zero]; exact q)))), trivial⟩, hS.F ht⟩) hS.2.2 dX2_floorDiv_2_17
set_option maxHeartbeats 4000000 in
set_option maxRecDepth 100000 in
/-- floorMod(int, int), for a divisor from 1 to 2^30 -/
theorem mj_floorModII (l : Launch) (x y : Int32) (hpos : 0 < y.toInt) (hle : y.toInt ≤ 1073741824) : fz_Mi l yX2_floorMod_3 (ws_ yX2_floorMod_3 cX2_floorMod_3 2 (some .int)) (fz_rm 0 0) [.int x, .int y] ((fz_r x.toInt64 y.toInt64).toInt32) := by
  refine Met.ofW (cc := cX2_floorMod_3) (maxL := 2) (ret := (some .int)) (by decide) rfl ?_
  intro p e s m args below meth c s₁ B hml hv
  obtain ⟨rfl, -⟩ := hv
  have hx := B.exec
  have hb := B.bytes
  have hr := B.returns
  have hts := atoms_spec (ws := ws_ yX2_floorMod_3 cX2_floorMod_3 2 (some .int)) B.pre
  have hts : ∀ w ∈ lw_all, w.before _ s = true := fun w h => hts w (List.mem_cons_of_mem _ h)
  have hown : s.vm.findClass RX2 = some m.cls := findClass_of_methodNamed B.named
  have hlocks := B.notSynchronized
  have hS : va_S (fun _ => False) s.heap s.heap [] := va_S.rf
  have hl := lv_entry ([.int x, .int y]) (n := 2) (Nat.le_of_ble_eq_true rfl)
  rw [lg_entry_eq]
  generalize (lg_sl ([.int x, .int y]) ++ List.replicate (2 - (lg_sl ([.int x, .int y])).length) Slot.unset).toArray = ls at hl ⊢
  have hl : lv_has ls 2 [(0, .int x), (1, .int y)] := hl
  refine lv_iload_n hx hb dX2_floorMod_3_0 rfl (lv_at hl 0 rfl) ?_
  refine lv_iload_n hx hb dX2_floorMod_3_1 rfl (lv_at hl 1 rfl) ?_
  refine lv_irem hx hb dX2_floorMod_3_2 (fz_nz32 hpos) ?_
  refine lv_iload_n hx hb dX2_floorMod_3_3 rfl (lv_at hl 1 rfl) ?_
  refine lv_iadd hx hb dX2_floorMod_3_4 ?_
  refine lv_iload_n hx hb dX2_floorMod_3_5 rfl (lv_at hl 1 rfl) ?_
  refine lv_irem hx hb dX2_floorMod_3_6 (fz_nz32 hpos) ?_
  exact W.iret (v := (((x - x / y * y) + y) - ((x - x / y * y) + y) / y * y)) hx hb hr (fun t ht hW => ⟨⟨_, (), rfl, fz_fmi hpos hle, trivial⟩, hS.F ht⟩) hS.2.2 dX2_floorMod_3_7
set_option maxHeartbeats 4000000 in
set_option maxRecDepth 100000 in
/-- compareInts -/
theorem mj_compareInts (l : Launch) (x y : Int32) : fz_Mi l yX2_compareInts (ws_ yX2_compareInts cX2_compareInts 2 (some .int)) (fz_rm 0 0) [.int x, .int y] ((fz_c x.toInt64 y.toInt64)) := by
  refine Met.ofW (cc := cX2_compareInts) (maxL := 2) (ret := (some .int)) (by decide) rfl ?_
  intro p e s m args below meth c s₁ B hml hv
  obtain ⟨rfl, -⟩ := hv
  have hx := B.exec
  have hb := B.bytes
  have hr := B.returns
  have hts := atoms_spec (ws := ws_ yX2_compareInts cX2_compareInts 2 (some .int)) B.pre
  have hts : ∀ w ∈ lw_all, w.before _ s = true := fun w h => hts w (List.mem_cons_of_mem _ h)
  have hown : s.vm.findClass RX2 = some m.cls := findClass_of_methodNamed B.named
  have hlocks := B.notSynchronized
  have hS : va_S (fun _ => False) s.heap s.heap [] := va_S.rf
  have hl := lv_entry ([.int x, .int y]) (n := 2) (Nat.le_of_ble_eq_true rfl)
  rw [lg_entry_eq]
  generalize (lg_sl ([.int x, .int y]) ++ List.replicate (2 - (lg_sl ([.int x, .int y])).length) Slot.unset).toArray = ls at hl ⊢
  have hl : lv_has ls 2 [(0, .int x), (1, .int y)] := hl
  refine lv_iload_n hx hb dX2_compareInts_0 rfl (lv_at hl 0 rfl) ?_
  refine lv_iload_n hx hb dX2_compareInts_1 rfl (lv_at hl 1 rfl) ?_
  refine lv_icmp_ge (tgt := 7) hx hb dX2_compareInts_2 (by decide) (fun c1 => ?_) (fun c1 => ?_)
  · refine lv_iload_n hx hb dX2_compareInts_7 rfl (lv_at hl 0 rfl) ?_
    refine lv_iload_n hx hb dX2_compareInts_8 rfl (lv_at hl 1 rfl) ?_
    refine lv_icmp_le (tgt := 14) hx hb dX2_compareInts_9 (by decide) (fun c2 => ?_) (fun c2 => ?_)
    · refine lv_iconst (v := 0) hx hb dX2_compareInts_14 (by decide) ?_
      exact W.iret (v := 0) hx hb hr (fun t ht hW => ⟨⟨_, (), rfl, fz_c_eq (Int.le_antisymm (fz_le32 c2) (fz_le32 c1)), trivial⟩, hS.F ht⟩) hS.2.2 dX2_compareInts_15
    · refine lv_iconst (v := 1) hx hb dX2_compareInts_12 (by decide) ?_
      exact W.iret (v := 1) hx hb hr (fun t ht hW => ⟨⟨_, (), rfl, fz_c_gt (fz_nle32 c2), trivial⟩, hS.F ht⟩) hS.2.2 dX2_compareInts_13
  · refine lv_iconst (v := -1) hx hb dX2_compareInts_5 (by decide) ?_
    exact W.iret (v := (-1)) hx hb hr (fun t ht hW => ⟨⟨_, (), rfl, fz_c_lt (fz_nle32 c1), trivial⟩, hS.F ht⟩) hS.2.2 dX2_compareInts_6
set_option maxHeartbeats 4000000 in
set_option maxRecDepth 100000 in
/-- compareLongs -/
theorem mj_compareLongs (l : Launch) (x y : Int64) : fz_Mi l yX2_compareLongs (ws_ yX2_compareLongs cX2_compareLongs 4 (some .int)) (fz_rm 0 0) [.long x, .long y] ((fz_c x y)) := by
  refine Met.ofW (cc := cX2_compareLongs) (maxL := 4) (ret := (some .int)) (by decide) rfl ?_
  intro p e s m args below meth c s₁ B hml hv
  obtain ⟨rfl, -⟩ := hv
  have hx := B.exec
  have hb := B.bytes
  have hr := B.returns
  have hts := atoms_spec (ws := ws_ yX2_compareLongs cX2_compareLongs 4 (some .int)) B.pre
  have hts : ∀ w ∈ lw_all, w.before _ s = true := fun w h => hts w (List.mem_cons_of_mem _ h)
  have hown : s.vm.findClass RX2 = some m.cls := findClass_of_methodNamed B.named
  have hlocks := B.notSynchronized
  have hS : va_S (fun _ => False) s.heap s.heap [] := va_S.rf
  have hl := lv_entry ([.long x, .long y]) (n := 4) (Nat.le_of_ble_eq_true rfl)
  rw [lg_entry_eq]
  generalize (lg_sl ([.long x, .long y]) ++ List.replicate (4 - (lg_sl ([.long x, .long y])).length) Slot.unset).toArray = ls at hl ⊢
  have hl : lv_has ls 4 [(0, .long x), (2, .long y)] := hl
  refine lv_lload_n hx hb dX2_compareLongs_0 rfl (lv_at hl 0 rfl) ?_
  refine lv_lload_n hx hb dX2_compareLongs_1 rfl (lv_at hl 1 rfl) ?_
  refine W.lcmp hx hb dX2_compareLongs_2 ?_
  refine lv_if_ge (tgt := 8) hx hb dX2_compareLongs_3 (by decide) (fun c1 => ?_) (fun c1 => ?_)
  · refine lv_lload_n hx hb dX2_compareLongs_8 rfl (lv_at hl 0 rfl) ?_
    refine lv_lload_n hx hb dX2_compareLongs_9 rfl (lv_at hl 1 rfl) ?_
    refine W.lcmp hx hb dX2_compareLongs_10 ?_
    refine lv_if_le (tgt := 16) hx hb dX2_compareLongs_11 (by decide) (fun c2 => ?_) (fun c2 => ?_)
    · refine lv_iconst (v := 0) hx hb dX2_compareLongs_16 (by decide) ?_
      exact W.iret (v := 0) hx hb hr (fun t ht hW => ⟨⟨_, (), rfl, fz_c_eq (Int.le_antisymm (fz_ce c2) (fz_cg c1)), trivial⟩, hS.F ht⟩) hS.2.2 dX2_compareLongs_17
    · refine lv_iconst (v := 1) hx hb dX2_compareLongs_14 (by decide) ?_
      exact W.iret (v := 1) hx hb hr (fun t ht hW => ⟨⟨_, (), rfl, fz_c_gt (fz_nce c2), trivial⟩, hS.F ht⟩) hS.2.2 dX2_compareLongs_15
  · refine lv_iconst (v := -1) hx hb dX2_compareLongs_6 (by decide) ?_
    exact W.iret (v := (-1)) hx hb hr (fun t ht hW => ⟨⟨_, (), rfl, fz_c_lt (fz_ncg c1), trivial⟩, hS.F ht⟩) hS.2.2 dX2_compareLongs_7
end
section
/-! MODULE FloorDesk (the face): eleven contracts, no cell touched -/
set_option maxHeartbeats 4000000 in
set_option maxRecDepth 100000 in
/-- FloorDesk() -/
theorem mf_init (l : Launch) (h0 : Nat) : fz_Mv l yX0_init (ws_ yX0_init cX0_init 1 none) (fz_rm 1 12) [.ref h0] := by
  refine Met.ofW (cc := cX0_init) (maxL := 1) (ret := none) (by decide) rfl ?_
  intro p e s m args below meth c s₁ B hml hv
  obtain ⟨rfl, -⟩ := hv
  have hx := B.exec
  have hb := B.bytes
  have hr := B.returns
  have hts := atoms_spec (ws := ws_ yX0_init cX0_init 1 none) B.pre
  have hts : ∀ w ∈ lw_all, w.before _ s = true := fun w h => hts w (List.mem_cons_of_mem _ h)
  have hown : s.vm.findClass RX0 = some m.cls := findClass_of_methodNamed B.named
  have hlocks := B.notSynchronized
  have hS : va_S (fun _ => False) s.heap s.heap [] := va_S.rf
  have hl := lv_entry ([.ref h0]) (n := 1) (Nat.le_of_ble_eq_true rfl)
  rw [lg_entry_eq]
  generalize (lg_sl ([.ref h0]) ++ List.replicate (1 - (lg_sl ([.ref h0])).length) Slot.unset).toArray = ls at hl ⊢
  have hl : lv_has ls 1 [(0, .ref h0)] := hl
  refine lv_aload_n hx hb dX0_init_0 rfl (lv_at hl 0 rfl) ?_
  refine W.objInit hx hb hown (hts _ q10) (hts _ q11) (hts _ q12) rfl (by rw [hml]; exact hl.1) rfl dX0_init_1 (Nat.le_of_ble_eq_true rfl) (Nat.le_of_ble_eq_true rfl) ?_
  refine W.eq (g2 := F0 m 4 ls []) rfl ?_
  exact W.vret hx hb hr (fun t ht hW => ⟨⟨(), rfl, trivial, trivial⟩, hS.F ht⟩) hS.2.2 dX0_init_4
set_option maxHeartbeats 4000000 in
set_option maxRecDepth 100000 in
/-- of(high, low): one long of two ints -/
theorem mf_of (l : Launch) (h k : Int32) : fz_Ml l yX0_of (ws_ yX0_of cX0_of 2 (some .long)) (fz_rm 0 0) [.int h, .int k] ((fz_n h k)) := by
  refine Met.ofW (cc := cX0_of) (maxL := 2) (ret := (some .long)) (by decide) rfl ?_
  intro p e s m args below meth c s₁ B hml hv
  obtain ⟨rfl, -⟩ := hv
  have hx := B.exec
  have hb := B.bytes
  have hr := B.returns
  have hts := atoms_spec (ws := ws_ yX0_of cX0_of 2 (some .long)) B.pre
  have hts : ∀ w ∈ lw_all, w.before _ s = true := fun w h => hts w (List.mem_cons_of_mem _ h)
  have hown : s.vm.findClass RX0 = some m.cls := findClass_of_methodNamed B.named
  have hlocks := B.notSynchronized
  have hS : va_S (fun _ => False) s.heap s.heap [] := va_S.rf
  have hl := lv_entry ([.int h, .int k]) (n := 2) (Nat.le_of_ble_eq_true rfl)
  rw [lg_entry_eq]
  generalize (lg_sl ([.int h, .int k]) ++ List.replicate (2 - (lg_sl ([.int h, .int k])).length) Slot.unset).toArray = ls at hl ⊢
  have hl : lv_has ls 2 [(0, .int h), (1, .int k)] := hl
  refine lv_iload_n hx hb dX0_of_0 rfl (lv_at hl 0 rfl) ?_
  refine lv_i2l hx hb dX0_of_1 rfl ?_
  refine lv_bipush (v := 32) hx hb dX0_of_2 (by decide) ?_
  refine lv_lshl hx hb dX0_of_4 rfl ?_
  refine lv_iload_n hx hb dX0_of_5 rfl (lv_at hl 1 rfl) ?_
  refine lv_i2l hx hb dX0_of_6 rfl ?_
  refine lv_ldc2 hx hb hown (hts _ q21) dX0_of_7 ?_
  refine lv_land hx hb dX0_of_10 ?_
  refine lv_lor hx hb dX0_of_11 ?_
  exact W.lret (v := ((h.toInt64 <<< ((32 : Int32).toInt64 &&& 63)) ||| (k.toInt64 &&& 4294967295))) hx hb hr (fun t ht hW => ⟨⟨_, (), rfl, fz_or h k, trivial⟩, hS.F ht⟩) hS.2.2 dX0_of_12
set_option maxHeartbeats 4000000 in
set_option maxRecDepth 100000 in
/-- part(b): from 1 to 2^30 -/
theorem mf_part (l : Launch) (x : Int32) : fz_Mi l yX0_part (ws_ yX0_part cX0_part 1 (some .int)) (fz_rm 0 0) [.int x] ((fz_pi x)) := by
  refine Met.ofW (cc := cX0_part) (maxL := 1) (ret := (some .int)) (by decide) rfl ?_
  intro p e s m args below meth c s₁ B hml hv
  obtain ⟨rfl, -⟩ := hv
  have hx := B.exec
  have hb := B.bytes
  have hr := B.returns
  have hts := atoms_spec (ws := ws_ yX0_part cX0_part 1 (some .int)) B.pre
  have hts : ∀ w ∈ lw_all, w.before _ s = true := fun w h => hts w (List.mem_cons_of_mem _ h)
  have hown : s.vm.findClass RX0 = some m.cls := findClass_of_methodNamed B.named
  have hlocks := B.notSynchronized
  have hS : va_S (fun _ => False) s.heap s.heap [] := va_S.rf
  have hl := lv_entry ([.int x]) (n := 1) (Nat.le_of_ble_eq_true rfl)
  rw [lg_entry_eq]
  generalize (lg_sl ([.int x]) ++ List.replicate (1 - (lg_sl ([.int x])).length) Slot.unset).toArray = ls at hl ⊢
  have hl : lv_has ls 1 [(0, .int x)] := hl
  refine lv_iconst (v := 1) hx hb dX0_part_0 (by decide) ?_
  refine lv_iload_n hx hb dX0_part_1 rfl (lv_at hl 0 rfl) ?_
  refine lv_ldc hx hb hown (hts _ q43) dX0_part_2 ?_
  refine lv_iand hx hb dX0_part_4 ?_
  refine lv_iadd hx hb dX0_part_5 ?_
  exact W.iret (v := (1 + (x &&& 1073741823))) hx hb hr (fun t ht hW => ⟨⟨_, (), rfl, fz_m32 x, trivial⟩, hS.F ht⟩) hS.2.2 dX0_part_6
set_option maxHeartbeats 4000000 in
set_option maxRecDepth 100000 in
/-- partOf(high, low): from 1 to 2^62 -/
theorem mf_partOf (l : Launch) (h k : Int32) : fz_Ml l yX0_partOf (ws_ yX0_partOf cX0_partOf 2 (some .long)) (fz_rm 1 21) [.int h, .int k] ((fz_pt (fz_n h k))) := by
  refine Met.ofW (cc := cX0_partOf) (maxL := 2) (ret := (some .long)) (by decide) rfl ?_
  intro p e s m args below meth c s₁ B hml hv
  obtain ⟨rfl, -⟩ := hv
  have hx := B.exec
  have hb := B.bytes
  have hr := B.returns
  have hts := atoms_spec (ws := ws_ yX0_partOf cX0_partOf 2 (some .long)) B.pre
  have hts : ∀ w ∈ lw_all, w.before _ s = true := fun w h => hts w (List.mem_cons_of_mem _ h)
  have hown : s.vm.findClass RX0 = some m.cls := findClass_of_methodNamed B.named
  have hlocks := B.notSynchronized
  have hS : va_S (fun _ => False) s.heap s.heap [] := va_S.rf
  have hl := lv_entry ([.int h, .int k]) (n := 2) (Nat.le_of_ble_eq_true rfl)
  rw [lg_entry_eq]
  generalize (lg_sl ([.int h, .int k]) ++ List.replicate (2 - (lg_sl ([.int h, .int k])).length) Slot.unset).toArray = ls at hl ⊢
  have hl : lv_has ls 2 [(0, .int h), (1, .int k)] := hl
  refine lv_lconst (v := 1) hx hb dX0_partOf_0 (by decide) ?_
  refine lv_iload_n hx hb dX0_partOf_1 rfl (lv_at hl 0 rfl) ?_
  refine lv_iload_n hx hb dX0_partOf_2 rfl (lv_at hl 1 rfl) ?_
  refine fz_callSl (As := [.int h, .int k]) (rest := [.long 1]) (v := (fz_n h k)) ⟨hx, hb, hml, hown, hts⟩ (mf_of l h k) (va_cwS 2 hts (lw_S q18 q19 q2 q20) rfl rfl rfl (by decide +kernel) ⟨Nat.le_of_ble_eq_true rfl, Nat.le_of_ble_eq_true rfl⟩) rfl hl.1 rfl (Nat.le_of_ble_eq_true rfl) dX0_partOf_3 ⟨Nat.le_of_ble_eq_true rfl, Nat.le_of_ble_eq_true rfl⟩ hS (fun H1 locs hz hk hS => ?_)
  refine lv_ldc2 hx hb hown (hts _ q25) dX0_partOf_6 ?_
  refine lv_land hx hb dX0_partOf_9 ?_
  refine lv_ladd hx hb dX0_partOf_10 ?_
  exact W.lret (v := (1 + ((fz_n h k) &&& 4611686018427387903))) hx hb hr (fun t ht hW => ⟨⟨_, (), rfl, fz_m64 _, trivial⟩, hS.F ht⟩) hS.2.2 dX0_partOf_11
set_option maxHeartbeats 4000000 in
set_option maxRecDepth 100000 in
/-- floorOf: the whole part -/
theorem mf_floorOf (l : Launch) (h0 : Nat) (a1 a2 a3 a4 : Int32) : fz_Ml l yX0_floorOf (ws_ yX0_floorOf cX0_floorOf 5 (some .long)) (fz_rm 2 42) [.ref h0, .int a1, .int a2, .int a3, .int a4] ((fz_q (fz_n a1 a2) (fz_pt (fz_n a3 a4)))) := by
  refine Met.ofW (cc := cX0_floorOf) (maxL := 5) (ret := (some .long)) (by decide) rfl ?_
  intro p e s m args below meth c s₁ B hml hv
  obtain ⟨rfl, -⟩ := hv
  have hx := B.exec
  have hb := B.bytes
  have hr := B.returns
  have hts := atoms_spec (ws := ws_ yX0_floorOf cX0_floorOf 5 (some .long)) B.pre
  have hts : ∀ w ∈ lw_all, w.before _ s = true := fun w h => hts w (List.mem_cons_of_mem _ h)
  have hown : s.vm.findClass RX0 = some m.cls := findClass_of_methodNamed B.named
  have hlocks := B.notSynchronized
  have hS : va_S (fun _ => False) s.heap s.heap [] := va_S.rf
  have hl := lv_entry ([.ref h0, .int a1, .int a2, .int a3, .int a4]) (n := 5) (Nat.le_of_ble_eq_true rfl)
  rw [lg_entry_eq]
  generalize (lg_sl ([.ref h0, .int a1, .int a2, .int a3, .int a4]) ++ List.replicate (5 - (lg_sl ([.ref h0, .int a1, .int a2, .int a3, .int a4])).length) Slot.unset).toArray = ls at hl ⊢
  have hl : lv_has ls 5 [(0, .ref h0), (1, .int a1), (2, .int a2), (3, .int a3), (4, .int a4)] := hl
  refine lv_iload_n hx hb dX0_floorOf_0 rfl (lv_at hl 1 rfl) ?_
  refine lv_iload_n hx hb dX0_floorOf_1 rfl (lv_at hl 2 rfl) ?_
  refine fz_callSl (As := [.int a1, .int a2]) (rest := []) (v := (fz_n a1 a2)) ⟨hx, hb, hml, hown, hts⟩ (mf_of l a1 a2) (va_cwS 2 hts (lw_S q18 q19 q2 q20) rfl rfl rfl (by decide +kernel) ⟨Nat.le_of_ble_eq_true rfl, Nat.le_of_ble_eq_true rfl⟩) rfl hl.1 rfl (Nat.le_of_ble_eq_true rfl) dX0_floorOf_2 ⟨Nat.le_of_ble_eq_true rfl, Nat.le_of_ble_eq_true rfl⟩ hS (fun H1 locs hz hk hS => ?_)
  refine lv_iload_n hx hb dX0_floorOf_5 rfl (lv_at hl 3 rfl) ?_
  refine lv_iload hx hb dX0_floorOf_6 (lv_at hl 4 rfl) ?_
  refine fz_callSl (As := [.int a3, .int a4]) (rest := [.long (fz_n a1 a2)]) (v := (fz_pt (fz_n a3 a4))) ⟨hx, hb, hml, hown, hts⟩ (mf_partOf l a3 a4) (va_cwS 2 hts (lw_S q22 q23 q2 q24) rfl rfl rfl (by decide +kernel) ⟨Nat.le_of_ble_eq_true rfl, Nat.le_of_ble_eq_true rfl⟩) rfl hl.1 rfl (Nat.le_of_ble_eq_true rfl) dX0_floorOf_8 ⟨Nat.le_of_ble_eq_true rfl, Nat.le_of_ble_eq_true rfl⟩ hS (fun H1 locs hz hk hS => ?_)
  refine fz_callSl (As := [.long (fz_n a1 a2), .long (fz_pt (fz_n a3 a4))]) (rest := []) (v := (fz_q (fz_n a1 a2) (fz_pt (fz_n a3 a4)))) ⟨hx, hb, hml, hown, hts⟩ (mj_floorDiv l (fz_n a1 a2) (fz_pt (fz_n a3 a4)) (fz_pt_pos _)) (va_cwS 2 hts (lw_S q26 q27 q4 q28) rfl rfl rfl (by decide +kernel) ⟨Nat.le_of_ble_eq_true rfl, Nat.le_of_ble_eq_true rfl⟩) rfl hl.1 rfl (Nat.le_of_ble_eq_true rfl) dX0_floorOf_11 ⟨Nat.le_of_ble_eq_true rfl, Nat.le_of_ble_eq_true rfl⟩ hS (fun H1 locs hz hk hS => ?_)
  exact W.lret (v := (fz_q (fz_n a1 a2) (fz_pt (fz_n a3 a4)))) hx hb hr (fun t ht hW => ⟨⟨_, (), rfl, rfl, trivial⟩, hS.F ht⟩) hS.2.2 dX0_floorOf_14
set_option maxHeartbeats 4000000 in
set_option maxRecDepth 100000 in
/-- restOf: the rest -/
theorem mf_restOf (l : Launch) (h0 : Nat) (a1 a2 a3 a4 : Int32) : fz_Ml l yX0_restOf (ws_ yX0_restOf cX0_restOf 5 (some .long)) (fz_rm 2 42) [.ref h0, .int a1, .int a2, .int a3, .int a4] ((fz_r (fz_n a1 a2) (fz_pt (fz_n a3 a4)))) := by
  refine Met.ofW (cc := cX0_restOf) (maxL := 5) (ret := (some .long)) (by decide) rfl ?_
  intro p e s m args below meth c s₁ B hml hv
  obtain ⟨rfl, -⟩ := hv
  have hx := B.exec
  have hb := B.bytes
  have hr := B.returns
  have hts := atoms_spec (ws := ws_ yX0_restOf cX0_restOf 5 (some .long)) B.pre
  have hts : ∀ w ∈ lw_all, w.before _ s = true := fun w h => hts w (List.mem_cons_of_mem _ h)
  have hown : s.vm.findClass RX0 = some m.cls := findClass_of_methodNamed B.named
  have hlocks := B.notSynchronized
  have hS : va_S (fun _ => False) s.heap s.heap [] := va_S.rf
  have hl := lv_entry ([.ref h0, .int a1, .int a2, .int a3, .int a4]) (n := 5) (Nat.le_of_ble_eq_true rfl)
  rw [lg_entry_eq]
  generalize (lg_sl ([.ref h0, .int a1, .int a2, .int a3, .int a4]) ++ List.replicate (5 - (lg_sl ([.ref h0, .int a1, .int a2, .int a3, .int a4])).length) Slot.unset).toArray = ls at hl ⊢
  have hl : lv_has ls 5 [(0, .ref h0), (1, .int a1), (2, .int a2), (3, .int a3), (4, .int a4)] := hl
  refine lv_iload_n hx hb dX0_restOf_0 rfl (lv_at hl 1 rfl) ?_
  refine lv_iload_n hx hb dX0_restOf_1 rfl (lv_at hl 2 rfl) ?_
  refine fz_callSl (As := [.int a1, .int a2]) (rest := []) (v := (fz_n a1 a2)) ⟨hx, hb, hml, hown, hts⟩ (mf_of l a1 a2) (va_cwS 2 hts (lw_S q18 q19 q2 q20) rfl rfl rfl (by decide +kernel) ⟨Nat.le_of_ble_eq_true rfl, Nat.le_of_ble_eq_true rfl⟩) rfl hl.1 rfl (Nat.le_of_ble_eq_true rfl) dX0_restOf_2 ⟨Nat.le_of_ble_eq_true rfl, Nat.le_of_ble_eq_true rfl⟩ hS (fun H1 locs hz hk hS => ?_)
  refine lv_iload_n hx hb dX0_restOf_5 rfl (lv_at hl 3 rfl) ?_
  refine lv_iload hx hb dX0_restOf_6 (lv_at hl 4 rfl) ?_
  refine fz_callSl (As := [.int a3, .int a4]) (rest := [.long (fz_n a1 a2)]) (v := (fz_pt (fz_n a3 a4))) ⟨hx, hb, hml, hown, hts⟩ (mf_partOf l a3 a4) (va_cwS 2 hts (lw_S q22 q23 q2 q24) rfl rfl rfl (by decide +kernel) ⟨Nat.le_of_ble_eq_true rfl, Nat.le_of_ble_eq_true rfl⟩) rfl hl.1 rfl (Nat.le_of_ble_eq_true rfl) dX0_restOf_8 ⟨Nat.le_of_ble_eq_true rfl, Nat.le_of_ble_eq_true rfl⟩ hS (fun H1 locs hz hk hS => ?_)
  refine fz_callSl (As := [.long (fz_n a1 a2), .long (fz_pt (fz_n a3 a4))]) (rest := []) (v := (fz_r (fz_n a1 a2) (fz_pt (fz_n a3 a4)))) ⟨hx, hb, hml, hown, hts⟩ (mj_floorMod l (fz_n a1 a2) (fz_pt (fz_n a3 a4)) (fz_pt_pos _) (fz_pt_le _)) (va_cwS 2 hts (lw_S q33 q34 q4 q35) rfl rfl rfl (by decide +kernel) ⟨Nat.le_of_ble_eq_true rfl, Nat.le_of_ble_eq_true rfl⟩) rfl hl.1 rfl (Nat.le_of_ble_eq_true rfl) dX0_restOf_11 ⟨Nat.le_of_ble_eq_true rfl, Nat.le_of_ble_eq_true rfl⟩ hS (fun H1 locs hz hk hS => ?_)
  exact W.lret (v := (fz_r (fz_n a1 a2) (fz_pt (fz_n a3 a4)))) hx hb hr (fun t ht hW => ⟨⟨_, (), rfl, rfl, trivial⟩, hS.F ht⟩) hS.2.2 dX0_restOf_14
set_option maxHeartbeats 4000000 in
set_option maxRecDepth 100000 in
/-- rest: the rest of a long by an int -/
theorem mf_rest (l : Launch) (h0 : Nat) (a1 a2 a3 : Int32) : fz_Mi l yX0_rest (ws_ yX0_rest cX0_rest 4 (some .int)) (fz_rm 1 22) [.ref h0, .int a1, .int a2, .int a3] ((fz_r (fz_n a1 a2) (fz_pi a3).toInt64).toInt32) := by
  refine Met.ofW (cc := cX0_rest) (maxL := 4) (ret := (some .int)) (by decide) rfl ?_
  intro p e s m args below meth c s₁ B hml hv
  obtain ⟨rfl, -⟩ := hv
  have hx := B.exec
  have hb := B.bytes
  have hr := B.returns
  have hts := atoms_spec (ws := ws_ yX0_rest cX0_rest 4 (some .int)) B.pre
  have hts : ∀ w ∈ lw_all, w.before _ s = true := fun w h => hts w (List.mem_cons_of_mem _ h)
  have hown : s.vm.findClass RX0 = some m.cls := findClass_of_methodNamed B.named
  have hlocks := B.notSynchronized
  have hS : va_S (fun _ => False) s.heap s.heap [] := va_S.rf
  have hl := lv_entry ([.ref h0, .int a1, .int a2, .int a3]) (n := 4) (Nat.le_of_ble_eq_true rfl)
  rw [lg_entry_eq]
  generalize (lg_sl ([.ref h0, .int a1, .int a2, .int a3]) ++ List.replicate (4 - (lg_sl ([.ref h0, .int a1, .int a2, .int a3])).length) Slot.unset).toArray = ls at hl ⊢
  have hl : lv_has ls 4 [(0, .ref h0), (1, .int a1), (2, .int a2), (3, .int a3)] := hl
  refine lv_iload_n hx hb dX0_rest_0 rfl (lv_at hl 1 rfl) ?_
  refine lv_iload_n hx hb dX0_rest_1 rfl (lv_at hl 2 rfl) ?_
  refine fz_callSl (As := [.int a1, .int a2]) (rest := []) (v := (fz_n a1 a2)) ⟨hx, hb, hml, hown, hts⟩ (mf_of l a1 a2) (va_cwS 2 hts (lw_S q18 q19 q2 q20) rfl rfl rfl (by decide +kernel) ⟨Nat.le_of_ble_eq_true rfl, Nat.le_of_ble_eq_true rfl⟩) rfl hl.1 rfl (Nat.le_of_ble_eq_true rfl) dX0_rest_2 ⟨Nat.le_of_ble_eq_true rfl, Nat.le_of_ble_eq_true rfl⟩ hS (fun H1 locs hz hk hS => ?_)
  refine lv_iload_n hx hb dX0_rest_5 rfl (lv_at hl 3 rfl) ?_
  refine fz_callSi (As := [.int a3]) (rest := [.long (fz_n a1 a2)]) (v := (fz_pi a3)) ⟨hx, hb, hml, hown, hts⟩ (mf_part l a3) (va_cwS 1 hts (lw_S q40 q41 q2 q42) rfl rfl rfl (by decide +kernel) ⟨Nat.le_of_ble_eq_true rfl, Nat.le_of_ble_eq_true rfl⟩) rfl hl.1 rfl (Nat.le_of_ble_eq_true rfl) dX0_rest_6 ⟨Nat.le_of_ble_eq_true rfl, Nat.le_of_ble_eq_true rfl⟩ hS (fun H1 locs hz hk hS => ?_)
  refine fz_callSi (As := [.long (fz_n a1 a2), .int (fz_pi a3)]) (rest := []) (v := ((fz_r (fz_n a1 a2) (fz_pi a3).toInt64).toInt32)) ⟨hx, hb, hml, hown, hts⟩ (mj_floorModJI l (fz_n a1 a2) (fz_pi a3) (fz_pi_pos _)) (va_cwS 2 hts (lw_S q44 q45 q4 q46) rfl rfl rfl (by decide +kernel) ⟨Nat.le_of_ble_eq_true rfl, Nat.le_of_ble_eq_true rfl⟩) rfl hl.1 rfl (Nat.le_of_ble_eq_true rfl) dX0_rest_9 ⟨Nat.le_of_ble_eq_true rfl, Nat.le_of_ble_eq_true rfl⟩ hS (fun H1 locs hz hk hS => ?_)
  exact W.iret (v := ((fz_r (fz_n a1 a2) (fz_pi a3).toInt64).toInt32)) hx hb hr (fun t ht hW => ⟨⟨_, (), rfl, rfl, trivial⟩, hS.F ht⟩) hS.2.2 dX0_rest_12
set_option maxHeartbeats 4000000 in
set_option maxRecDepth 100000 in
/-- floor of two ints -/
theorem mf_floor (l : Launch) (h0 : Nat) (a1 a2 : Int32) : fz_Mi l yX0_floor (ws_ yX0_floor cX0_floor 3 (some .int)) (fz_rm 1 21) [.ref h0, .int a1, .int a2] ((fz_q a1.toInt64 (fz_pi a2).toInt64).toInt32) := by
  refine Met.ofW (cc := cX0_floor) (maxL := 3) (ret := (some .int)) (by decide) rfl ?_
  intro p e s m args below meth c s₁ B hml hv
  obtain ⟨rfl, -⟩ := hv
  have hx := B.exec
  have hb := B.bytes
  have hr := B.returns
  have hts := atoms_spec (ws := ws_ yX0_floor cX0_floor 3 (some .int)) B.pre
  have hts : ∀ w ∈ lw_all, w.before _ s = true := fun w h => hts w (List.mem_cons_of_mem _ h)
  have hown : s.vm.findClass RX0 = some m.cls := findClass_of_methodNamed B.named
  have hlocks := B.notSynchronized
  have hS : va_S (fun _ => False) s.heap s.heap [] := va_S.rf
  have hl := lv_entry ([.ref h0, .int a1, .int a2]) (n := 3) (Nat.le_of_ble_eq_true rfl)
  rw [lg_entry_eq]
  generalize (lg_sl ([.ref h0, .int a1, .int a2]) ++ List.replicate (3 - (lg_sl ([.ref h0, .int a1, .int a2])).length) Slot.unset).toArray = ls at hl ⊢
  have hl : lv_has ls 3 [(0, .ref h0), (1, .int a1), (2, .int a2)] := hl
  refine lv_iload_n hx hb dX0_floor_0 rfl (lv_at hl 1 rfl) ?_
  refine lv_iload_n hx hb dX0_floor_1 rfl (lv_at hl 2 rfl) ?_
  refine fz_callSi (As := [.int a2]) (rest := [.int a1]) (v := (fz_pi a2)) ⟨hx, hb, hml, hown, hts⟩ (mf_part l a2) (va_cwS 1 hts (lw_S q40 q41 q2 q42) rfl rfl rfl (by decide +kernel) ⟨Nat.le_of_ble_eq_true rfl, Nat.le_of_ble_eq_true rfl⟩) rfl hl.1 rfl (Nat.le_of_ble_eq_true rfl) dX0_floor_2 ⟨Nat.le_of_ble_eq_true rfl, Nat.le_of_ble_eq_true rfl⟩ hS (fun H1 locs hz hk hS => ?_)
  refine fz_callSi (As := [.int a1, .int (fz_pi a2)]) (rest := []) (v := ((fz_q a1.toInt64 (fz_pi a2).toInt64).toInt32)) ⟨hx, hb, hml, hown, hts⟩ (mj_floorDivII l a1 (fz_pi a2) (fz_pi_pos _)) (va_cwS 2 hts (lw_S q51 q52 q4 q53) rfl rfl rfl (by decide +kernel) ⟨Nat.le_of_ble_eq_true rfl, Nat.le_of_ble_eq_true rfl⟩) rfl hl.1 rfl (Nat.le_of_ble_eq_true rfl) dX0_floor_5 ⟨Nat.le_of_ble_eq_true rfl, Nat.le_of_ble_eq_true rfl⟩ hS (fun H1 locs hz hk hS => ?_)
  exact W.iret (v := ((fz_q a1.toInt64 (fz_pi a2).toInt64).toInt32)) hx hb hr (fun t ht hW => ⟨⟨_, (), rfl, rfl, trivial⟩, hS.F ht⟩) hS.2.2 dX0_floor_8
set_option maxHeartbeats 4000000 in
set_option maxRecDepth 100000 in
/-- modulo of two ints -/
theorem mf_modulo (l : Launch) (h0 : Nat) (a1 a2 : Int32) : fz_Mi l yX0_modulo (ws_ yX0_modulo cX0_modulo 3 (some .int)) (fz_rm 1 21) [.ref h0, .int a1, .int a2] ((fz_r a1.toInt64 (fz_pi a2).toInt64).toInt32) := by
  refine Met.ofW (cc := cX0_modulo) (maxL := 3) (ret := (some .int)) (by decide) rfl ?_
  intro p e s m args below meth c s₁ B hml hv
  obtain ⟨rfl, -⟩ := hv
  have hx := B.exec
  have hb := B.bytes
  have hr := B.returns
  have hts := atoms_spec (ws := ws_ yX0_modulo cX0_modulo 3 (some .int)) B.pre
  have hts : ∀ w ∈ lw_all, w.before _ s = true := fun w h => hts w (List.mem_cons_of_mem _ h)
  have hown : s.vm.findClass RX0 = some m.cls := findClass_of_methodNamed B.named
  have hlocks := B.notSynchronized
  have hS : va_S (fun _ => False) s.heap s.heap [] := va_S.rf
  have hl := lv_entry ([.ref h0, .int a1, .int a2]) (n := 3) (Nat.le_of_ble_eq_true rfl)
  rw [lg_entry_eq]
  generalize (lg_sl ([.ref h0, .int a1, .int a2]) ++ List.replicate (3 - (lg_sl ([.ref h0, .int a1, .int a2])).length) Slot.unset).toArray = ls at hl ⊢
  have hl : lv_has ls 3 [(0, .ref h0), (1, .int a1), (2, .int a2)] := hl
  refine lv_iload_n hx hb dX0_modulo_0 rfl (lv_at hl 1 rfl) ?_
  refine lv_iload_n hx hb dX0_modulo_1 rfl (lv_at hl 2 rfl) ?_
  refine fz_callSi (As := [.int a2]) (rest := [.int a1]) (v := (fz_pi a2)) ⟨hx, hb, hml, hown, hts⟩ (mf_part l a2) (va_cwS 1 hts (lw_S q40 q41 q2 q42) rfl rfl rfl (by decide +kernel) ⟨Nat.le_of_ble_eq_true rfl, Nat.le_of_ble_eq_true rfl⟩) rfl hl.1 rfl (Nat.le_of_ble_eq_true rfl) dX0_modulo_2 ⟨Nat.le_of_ble_eq_true rfl, Nat.le_of_ble_eq_true rfl⟩ hS (fun H1 locs hz hk hS => ?_)
  refine fz_callSi (As := [.int a1, .int (fz_pi a2)]) (rest := []) (v := ((fz_r a1.toInt64 (fz_pi a2).toInt64).toInt32)) ⟨hx, hb, hml, hown, hts⟩ (mj_floorModII l a1 (fz_pi a2) (fz_pi_pos _) (fz_pi_le _)) (va_cwS 2 hts (lw_S q58 q59 q4 q60) rfl rfl rfl (by decide +kernel) ⟨Nat.le_of_ble_eq_true rfl, Nat.le_of_ble_eq_true rfl⟩) rfl hl.1 rfl (Nat.le_of_ble_eq_true rfl) dX0_modulo_5 ⟨Nat.le_of_ble_eq_true rfl, Nat.le_of_ble_eq_true rfl⟩ hS (fun H1 locs hz hk hS => ?_)
  exact W.iret (v := ((fz_r a1.toInt64 (fz_pi a2).toInt64).toInt32)) hx hb hr (fun t ht hW => ⟨⟨_, (), rfl, rfl, trivial⟩, hS.F ht⟩) hS.2.2 dX0_modulo_8
set_option maxHeartbeats 4000000 in
set_option maxRecDepth 100000 in
/-- order of two ints -/
theorem mf_order (l : Launch) (h0 : Nat) (a1 a2 : Int32) : fz_Mi l yX0_order (ws_ yX0_order cX0_order 3 (some .int)) (fz_rm 1 21) [.ref h0, .int a1, .int a2] ((fz_c a1.toInt64 a2.toInt64)) := by
  refine Met.ofW (cc := cX0_order) (maxL := 3) (ret := (some .int)) (by decide) rfl ?_
  intro p e s m args below meth c s₁ B hml hv
  obtain ⟨rfl, -⟩ := hv
  have hx := B.exec
  have hb := B.bytes
  have hr := B.returns
  have hts := atoms_spec (ws := ws_ yX0_order cX0_order 3 (some .int)) B.pre
  have hts : ∀ w ∈ lw_all, w.before _ s = true := fun w h => hts w (List.mem_cons_of_mem _ h)
  have hown : s.vm.findClass RX0 = some m.cls := findClass_of_methodNamed B.named
  have hlocks := B.notSynchronized
  have hS : va_S (fun _ => False) s.heap s.heap [] := va_S.rf
  have hl := lv_entry ([.ref h0, .int a1, .int a2]) (n := 3) (Nat.le_of_ble_eq_true rfl)
  rw [lg_entry_eq]
  generalize (lg_sl ([.ref h0, .int a1, .int a2]) ++ List.replicate (3 - (lg_sl ([.ref h0, .int a1, .int a2])).length) Slot.unset).toArray = ls at hl ⊢
  have hl : lv_has ls 3 [(0, .ref h0), (1, .int a1), (2, .int a2)] := hl
  refine lv_iload_n hx hb dX0_order_0 rfl (lv_at hl 1 rfl) ?_
  refine lv_iload_n hx hb dX0_order_1 rfl (lv_at hl 2 rfl) ?_
  refine fz_callSi (As := [.int a1, .int a2]) (rest := []) (v := (fz_c a1.toInt64 a2.toInt64)) ⟨hx, hb, hml, hown, hts⟩ (mj_compareInts l a1 a2) (va_cwS 2 hts (lw_S q65 q66 q4 q67) rfl rfl rfl (by decide +kernel) ⟨Nat.le_of_ble_eq_true rfl, Nat.le_of_ble_eq_true rfl⟩) rfl hl.1 rfl (Nat.le_of_ble_eq_true rfl) dX0_order_2 ⟨Nat.le_of_ble_eq_true rfl, Nat.le_of_ble_eq_true rfl⟩ hS (fun H1 locs hz hk hS => ?_)
  exact W.iret (v := (fz_c a1.toInt64 a2.toInt64)) hx hb hr (fun t ht hW => ⟨⟨_, (), rfl, rfl, trivial⟩, hS.F ht⟩) hS.2.2 dX0_order_5
set_option maxHeartbeats 4000000 in
set_option maxRecDepth 100000 in
/-- order of two longs -/
theorem mf_orderOf (l : Launch) (h0 : Nat) (a1 a2 a3 a4 : Int32) : fz_Mi l yX0_orderOf (ws_ yX0_orderOf cX0_orderOf 5 (some .int)) (fz_rm 1 23) [.ref h0, .int a1, .int a2, .int a3, .int a4] ((fz_c (fz_n a1 a2) (fz_n a3 a4))) := by
  refine Met.ofW (cc := cX0_orderOf) (maxL := 5) (ret := (some .int)) (by decide) rfl ?_
  intro p e s m args below meth c s₁ B hml hv
  obtain ⟨rfl, -⟩ := hv
  have hx := B.exec
  have hb := B.bytes
  have hr := B.returns
  have hts := atoms_spec (ws := ws_ yX0_orderOf cX0_orderOf 5 (some .int)) B.pre
  have hts : ∀ w ∈ lw_all, w.before _ s = true := fun w h => hts w (List.mem_cons_of_mem _ h)
  have hown : s.vm.findClass RX0 = some m.cls := findClass_of_methodNamed B.named
  have hlocks := B.notSynchronized
  have hS : va_S (fun _ => False) s.heap s.heap [] := va_S.rf
  have hl := lv_entry ([.ref h0, .int a1, .int a2, .int a3, .int a4]) (n := 5) (Nat.le_of_ble_eq_true rfl)
  rw [lg_entry_eq]
  generalize (lg_sl ([.ref h0, .int a1, .int a2, .int a3, .int a4]) ++ List.replicate (5 - (lg_sl ([.ref h0, .int a1, .int a2, .int a3, .int a4])).length) Slot.unset).toArray = ls at hl ⊢
  have hl : lv_has ls 5 [(0, .ref h0), (1, .int a1), (2, .int a2), (3, .int a3), (4, .int a4)] := hl
  refine lv_iload_n hx hb dX0_orderOf_0 rfl (lv_at hl 1 rfl) ?_
  refine lv_iload_n hx hb dX0_orderOf_1 rfl (lv_at hl 2 rfl) ?_
  refine fz_callSl (As := [.int a1, .int a2]) (rest := []) (v := (fz_n a1 a2)) ⟨hx, hb, hml, hown, hts⟩ (mf_of l a1 a2) (va_cwS 2 hts (lw_S q18 q19 q2 q20) rfl rfl rfl (by decide +kernel) ⟨Nat.le_of_ble_eq_true rfl, Nat.le_of_ble_eq_true rfl⟩) rfl hl.1 rfl (Nat.le_of_ble_eq_true rfl) dX0_orderOf_2 ⟨Nat.le_of_ble_eq_true rfl, Nat.le_of_ble_eq_true rfl⟩ hS (fun H1 locs hz hk hS => ?_)
  refine lv_iload_n hx hb dX0_orderOf_5 rfl (lv_at hl 3 rfl) ?_
  refine lv_iload hx hb dX0_orderOf_6 (lv_at hl 4 rfl) ?_
  refine fz_callSl (As := [.int a3, .int a4]) (rest := [.long (fz_n a1 a2)]) (v := (fz_n a3 a4)) ⟨hx, hb, hml, hown, hts⟩ (mf_of l a3 a4) (va_cwS 2 hts (lw_S q18 q19 q2 q20) rfl rfl rfl (by decide +kernel) ⟨Nat.le_of_ble_eq_true rfl, Nat.le_of_ble_eq_true rfl⟩) rfl hl.1 rfl (Nat.le_of_ble_eq_true rfl) dX0_orderOf_8 ⟨Nat.le_of_ble_eq_true rfl, Nat.le_of_ble_eq_true rfl⟩ hS (fun H1 locs hz hk hS => ?_)
  refine fz_callSi (As := [.long (fz_n a1 a2), .long (fz_n a3 a4)]) (rest := []) (v := (fz_c (fz_n a1 a2) (fz_n a3 a4))) ⟨hx, hb, hml, hown, hts⟩ (mj_compareLongs l (fz_n a1 a2) (fz_n a3 a4)) (va_cwS 2 hts (lw_S q72 q73 q4 q74) rfl rfl rfl (by decide +kernel) ⟨Nat.le_of_ble_eq_true rfl, Nat.le_of_ble_eq_true rfl⟩) rfl hl.1 rfl (Nat.le_of_ble_eq_true rfl) dX0_orderOf_11 ⟨Nat.le_of_ble_eq_true rfl, Nat.le_of_ble_eq_true rfl⟩ hS (fun H1 locs hz hk hS => ?_)
  exact W.iret (v := (fz_c (fz_n a1 a2) (fz_n a3 a4))) hx hb hr (fun t ht hW => ⟨⟨_, (), rfl, rfl, trivial⟩, hS.F ht⟩) hS.2.2 dX0_orderOf_14
end
section
/-! MODULE FloorDeskModel (the reference), the methods that touch no cell -/
set_option maxHeartbeats 4000000 in
set_option maxRecDepth 100000 in
/-- FloorDeskModel() -/
theorem mr_init (l : Launch) (h0 : Nat) : fz_Mv l yX1_init (ws_ yX1_init cX1_init 1 none) (fz_rm 1 12) [.ref h0] := by
  refine Met.ofW (cc := cX1_init) (maxL := 1) (ret := none) (by decide) rfl ?_
  intro p e s m args below meth c s₁ B hml hv
  obtain ⟨rfl, -⟩ := hv
  have hx := B.exec
  have hb := B.bytes
  have hr := B.returns
  have hts := atoms_spec (ws := ws_ yX1_init cX1_init 1 none) B.pre
  have hts : ∀ w ∈ lw_all, w.before _ s = true := fun w h => hts w (List.mem_cons_of_mem _ h)
  have hown : s.vm.findClass RX1 = some m.cls := findClass_of_methodNamed B.named
  have hlocks := B.notSynchronized
  have hS : va_S (fun _ => False) s.heap s.heap [] := va_S.rf
  have hl := lv_entry ([.ref h0]) (n := 1) (Nat.le_of_ble_eq_true rfl)
  rw [lg_entry_eq]
  generalize (lg_sl ([.ref h0]) ++ List.replicate (1 - (lg_sl ([.ref h0])).length) Slot.unset).toArray = ls at hl ⊢
  have hl : lv_has ls 1 [(0, .ref h0)] := hl
  refine lv_aload_n hx hb dX1_init_0 rfl (lv_at hl 0 rfl) ?_
  refine W.objInit hx hb hown (hts _ q80) (hts _ q11) (hts _ q12) rfl (by rw [hml]; exact hl.1) rfl dX1_init_1 (Nat.le_of_ble_eq_true rfl) (Nat.le_of_ble_eq_true rfl) ?_
  refine W.eq (g2 := F0 m 4 ls []) rfl ?_
  exact W.vret hx hb hr (fun t ht hW => ⟨⟨(), rfl, trivial, trivial⟩, hS.F ht⟩) hS.2.2 dX1_init_4
set_option maxHeartbeats 4000000 in
set_option maxRecDepth 100000 in
/-- joined(high, low): one long of two ints -/
theorem mr_joined (l : Launch) (h k : Int32) : fz_Ml l yX1_joined (ws_ yX1_joined cX1_joined 4 (some .long)) (fz_rm 0 0) [.int h, .int k] ((fz_n h k)) := by
  refine Met.ofW (cc := cX1_joined) (maxL := 4) (ret := (some .long)) (by decide) rfl ?_
  intro p e s m args below meth c s₁ B hml hv
  obtain ⟨rfl, -⟩ := hv
  have hx := B.exec
  have hb := B.bytes
  have hr := B.returns
  have hts := atoms_spec (ws := ws_ yX1_joined cX1_joined 4 (some .long)) B.pre
  have hts : ∀ w ∈ lw_all, w.before _ s = true := fun w h => hts w (List.mem_cons_of_mem _ h)
  have hown : s.vm.findClass RX1 = some m.cls := findClass_of_methodNamed B.named
  have hlocks := B.notSynchronized
  have hS : va_S (fun _ => False) s.heap s.heap [] := va_S.rf
  have hl := lv_entry ([.int h, .int k]) (n := 4) (Nat.le_of_ble_eq_true rfl)
  rw [lg_entry_eq]
  generalize (lg_sl ([.int h, .int k]) ++ List.replicate (4 - (lg_sl ([.int h, .int k])).length) Slot.unset).toArray = ls at hl ⊢
  have hl : lv_has ls 4 [(0, .int h), (1, .int k)] := hl
  refine lv_iload_n hx hb dX1_joined_0 rfl (lv_at hl 1 rfl) ?_
  refine lv_if_ge (tgt := 13) hx hb dX1_joined_1 (by decide) (fun c1 => ?_) (fun c1 => ?_)
  · refine lv_iload_n hx hb dX1_joined_13 rfl (lv_at hl 1 rfl) ?_
    refine lv_i2l hx hb dX1_joined_14 rfl ?_
    refine lv_lstore_n (lv' := [(2, .long k.toInt64), (0, .int h), (1, .int k)]) hx hb dX1_joined_15 rfl hl (by decide) rfl (fun ls hl => ?_)
    refine lv_iload_n hx hb dX1_joined_16 rfl (lv_at hl 1 rfl) ?_
    refine lv_i2l hx hb dX1_joined_17 rfl ?_
    refine lv_ldc2 hx hb hown (hts _ q95) dX1_joined_18 ?_
    refine lv_lmul hx hb dX1_joined_21 ?_
    refine lv_lload_n hx hb dX1_joined_22 rfl (lv_at hl 0 rfl) ?_
    refine lv_ladd hx hb dX1_joined_23 ?_
    exact W.lret (v := ((h.toInt64 * 4294967296) + k.toInt64)) hx hb hr (fun t ht hW => ⟨⟨_, (), rfl, fz_j (fz_t1 c1), trivial⟩, hS.F ht⟩) hS.2.2 dX1_joined_24
  · refine lv_iload_n hx hb dX1_joined_4 rfl (lv_at hl 1 rfl) ?_
    refine lv_i2l hx hb dX1_joined_5 rfl ?_
    refine lv_ldc2 hx hb hown (hts _ q95) dX1_joined_6 ?_
    refine lv_ladd hx hb dX1_joined_9 ?_
    refine lv_goto (tgt := 15) hx hb dX1_joined_10 (by decide) ?_
    refine lv_lstore_n (lv' := [(2, .long (k.toInt64 + 4294967296)), (0, .int h), (1, .int k)]) hx hb dX1_joined_15 rfl hl (by decide) rfl (fun ls hl => ?_)
    refine lv_iload_n hx hb dX1_joined_16 rfl (lv_at hl 1 rfl) ?_
    refine lv_i2l hx hb dX1_joined_17 rfl ?_
    refine lv_ldc2 hx hb hown (hts _ q95) dX1_joined_18 ?_
    refine lv_lmul hx hb dX1_joined_21 ?_
    refine lv_lload_n hx hb dX1_joined_22 rfl (lv_at hl 0 rfl) ?_
    refine lv_ladd hx hb dX1_joined_23 ?_
    exact W.lret (v := ((h.toInt64 * 4294967296) + (k.toInt64 + 4294967296))) hx hb hr (fun t ht hW => ⟨⟨_, (), rfl, fz_j (fz_t2 c1), trivial⟩, hS.F ht⟩) hS.2.2 dX1_joined_24
set_option maxHeartbeats 4000000 in
set_option maxRecDepth 100000 in
/-- part(b): from 1 to 2^30 -/
theorem mr_part (l : Launch) (x : Int32) : fz_Mi l yX1_part_2 (ws_ yX1_part_2 cX1_part_2 1 (some .int)) (fz_rm 0 0) [.int x] ((fz_pi x)) := by
  refine Met.ofW (cc := cX1_part_2) (maxL := 1) (ret := (some .int)) (by decide) rfl ?_
  intro p e s m args below meth c s₁ B hml hv
  obtain ⟨rfl, -⟩ := hv
  have hx := B.exec
  have hb := B.bytes
  have hr := B.returns
  have hts := atoms_spec (ws := ws_ yX1_part_2 cX1_part_2 1 (some .int)) B.pre
  have hts : ∀ w ∈ lw_all, w.before _ s = true := fun w h => hts w (List.mem_cons_of_mem _ h)
  have hown : s.vm.findClass RX1 = some m.cls := findClass_of_methodNamed B.named
  have hlocks := B.notSynchronized
  have hS : va_S (fun _ => False) s.heap s.heap [] := va_S.rf
  have hl := lv_entry ([.int x]) (n := 1) (Nat.le_of_ble_eq_true rfl)
  rw [lg_entry_eq]
  generalize (lg_sl ([.int x]) ++ List.replicate (1 - (lg_sl ([.int x])).length) Slot.unset).toArray = ls at hl ⊢
  have hl : lv_has ls 1 [(0, .int x)] := hl
  refine lv_iload_n hx hb dX1_part_2_0 rfl (lv_at hl 0 rfl) ?_
  refine lv_ldc hx hb hown (hts _ q117) dX1_part_2_1 ?_
  refine lv_irem hx hb dX1_part_2_3 (by decide) ?_
  refine lv_iload_n hx hb dX1_part_2_4 rfl (lv_at hl 0 rfl) ?_
  refine lv_if_ge (tgt := 20) hx hb dX1_part_2_5 (by decide) (fun c1 => ?_) (fun c1 => ?_)
  · refine lv_iconst (v := 0) hx hb dX1_part_2_20 (by decide) ?_
    refine lv_iadd hx hb dX1_part_2_21 ?_
    refine lv_iconst (v := 1) hx hb dX1_part_2_22 (by decide) ?_
    refine lv_iadd hx hb dX1_part_2_23 ?_
    exact W.iret (v := (((x - x / 1073741824 * 1073741824) + 0) + 1)) hx hb hr (fun t ht hW => ⟨⟨_, (), rfl, fz_p1 c1, trivial⟩, hS.F ht⟩) hS.2.2 dX1_part_2_24
  · refine lv_iload_n hx hb dX1_part_2_8 rfl (lv_at hl 0 rfl) ?_
    refine lv_ldc hx hb hown (hts _ q117) dX1_part_2_9 ?_
    refine lv_irem hx hb dX1_part_2_11 (by decide) ?_
    refine lv_if_eq (tgt := 20) hx hb dX1_part_2_12 (by decide) (fun c2 => ?_) (fun c2 => ?_)
    · refine lv_iconst (v := 0) hx hb dX1_part_2_20 (by decide) ?_
      refine lv_iadd hx hb dX1_part_2_21 ?_
      refine lv_iconst (v := 1) hx hb dX1_part_2_22 (by decide) ?_
      refine lv_iadd hx hb dX1_part_2_23 ?_
      exact W.iret (v := (((x - x / 1073741824 * 1073741824) + 0) + 1)) hx hb hr (fun t ht hW => ⟨⟨_, (), rfl, fz_p2 c1 c2, trivial⟩, hS.F ht⟩) hS.2.2 dX1_part_2_24
    · refine lv_ldc hx hb hown (hts _ q117) dX1_part_2_15 ?_
      refine lv_goto (tgt := 21) hx hb dX1_part_2_17 (by decide) ?_
      refine lv_iadd hx hb dX1_part_2_21 ?_
      refine lv_iconst (v := 1) hx hb dX1_part_2_22 (by decide) ?_
      refine lv_iadd hx hb dX1_part_2_23 ?_
      exact W.iret (v := (((x - x / 1073741824 * 1073741824) + 1073741824) + 1)) hx hb hr (fun t ht hW => ⟨⟨_, (), rfl, fz_p3 c1 c2, trivial⟩, hS.F ht⟩) hS.2.2 dX1_part_2_24
set_option maxHeartbeats 4000000 in
set_option maxRecDepth 100000 in
/-- part(high, low): from 1 to 2^62 -/
theorem mr_partL (l : Launch) (h k : Int32) : fz_Ml l yX1_part (ws_ yX1_part cX1_part 6 (some .long)) (fz_rm 1 23) [.int h, .int k] ((fz_pt (fz_n h k))) := by
  refine Met.ofW (cc := cX1_part) (maxL := 6) (ret := (some .long)) (by decide) rfl ?_
  intro p e s m args below meth c s₁ B hml hv
  obtain ⟨rfl, -⟩ := hv
  have hx := B.exec
  have hb := B.bytes
  have hr := B.returns
  have hts := atoms_spec (ws := ws_ yX1_part cX1_part 6 (some .long)) B.pre
  have hts : ∀ w ∈ lw_all, w.before _ s = true := fun w h => hts w (List.mem_cons_of_mem _ h)
  have hown : s.vm.findClass RX1 = some m.cls := findClass_of_methodNamed B.named
  have hlocks := B.notSynchronized
  have hS : va_S (fun _ => False) s.heap s.heap [] := va_S.rf
  have hl := lv_entry ([.int h, .int k]) (n := 6) (Nat.le_of_ble_eq_true rfl)
  rw [lg_entry_eq]
  generalize (lg_sl ([.int h, .int k]) ++ List.replicate (6 - (lg_sl ([.int h, .int k])).length) Slot.unset).toArray = ls at hl ⊢
  have hl : lv_has ls 6 [(0, .int h), (1, .int k)] := hl
  refine lv_iload_n hx hb dX1_part_0 rfl (lv_at hl 0 rfl) ?_
  refine lv_iload_n hx hb dX1_part_1 rfl (lv_at hl 1 rfl) ?_
  refine fz_callSl (As := [.int h, .int k]) (rest := []) (v := (fz_n h k)) ⟨hx, hb, hml, hown, hts⟩ (mr_joined l h k) (va_cwS 2 hts (lw_S q92 q93 q3 q94) rfl rfl rfl (by decide +kernel) ⟨Nat.le_of_ble_eq_true rfl, Nat.le_of_ble_eq_true rfl⟩) rfl hl.1 rfl (Nat.le_of_ble_eq_true rfl) dX1_part_2 ⟨Nat.le_of_ble_eq_true rfl, Nat.le_of_ble_eq_true rfl⟩ hS (fun H1 locs hz hk hS => ?_)
  generalize fz_n h k = v
  refine lv_lstore_n (lv' := [(2, .long v), (0, .int h), (1, .int k)]) hx hb dX1_part_5 rfl hl (by decide) rfl (fun ls hl => ?_)
  refine lv_lload_n hx hb dX1_part_6 rfl (lv_at hl 0 rfl) ?_
  refine lv_ldc2 hx hb hown (hts _ q99) dX1_part_7 ?_
  refine lv_lrem hx hb dX1_part_10 (by decide) ?_
  refine lv_lstore (lv' := [(4, .long (v - v / 4611686018427387904 * 4611686018427387904)), (2, .long v), (0, .int h), (1, .int k)]) hx hb dX1_part_11 hl (by decide) rfl (fun ls hl => ?_)
  refine lv_lload hx hb dX1_part_13 (lv_at hl 0 rfl) ?_
  refine lv_lconst (v := 0) hx hb dX1_part_15 (by decide) ?_
  refine W.lcmp hx hb dX1_part_16 ?_
  refine lv_if_ge (tgt := 29) hx hb dX1_part_17 (by decide) (fun c1 => ?_) (fun c1 => ?_)
  · refine lv_lload hx hb dX1_part_29 (lv_at hl 0 rfl) ?_
    refine lv_lconst (v := 1) hx hb dX1_part_31 (by decide) ?_
    refine lv_ladd hx hb dX1_part_32 ?_
    exact W.lret (v := ((v - v / 4611686018427387904 * 4611686018427387904) + 1)) hx hb hr (fun t ht hW => ⟨⟨_, (), rfl, fz_P1 (by have := fz_cg c1; rw [Int64.toInt_zero] at this; exact this), trivial⟩, hS.F ht⟩) hS.2.2 dX1_part_33
  · refine lv_lload hx hb dX1_part_20 (lv_at hl 0 rfl) ?_
    refine lv_ldc2 hx hb hown (hts _ q99) dX1_part_22 ?_
    refine lv_ladd hx hb dX1_part_25 ?_
    refine lv_goto (tgt := 31) hx hb dX1_part_26 (by decide) ?_
    refine lv_lconst (v := 1) hx hb dX1_part_31 (by decide) ?_
    refine lv_ladd hx hb dX1_part_32 ?_
    exact W.lret (v := (((v - v / 4611686018427387904 * 4611686018427387904) + 4611686018427387904) + 1)) hx hb hr (fun t ht hW => ⟨⟨_, (), rfl, fz_P2 (by have := fz_ncg c1; rw [Int64.toInt_zero] at this; exact this), trivial⟩, hS.F ht⟩) hS.2.2 dX1_part_33
set_option maxHeartbeats 4000000 in
set_option maxRecDepth 100000 in
/-- compared(a, b) -/
theorem mr_compared (l : Launch) (x y : Int64) : fz_Mi l yX1_compared (ws_ yX1_compared cX1_compared 4 (some .int)) (fz_rm 0 0) [.long x, .long y] ((fz_c x y)) := by
  refine Met.ofW (cc := cX1_compared) (maxL := 4) (ret := (some .int)) (by decide) rfl ?_
  intro p e s m args below meth c s₁ B hml hv
  obtain ⟨rfl, -⟩ := hv
  have hx := B.exec
  have hb := B.bytes
  have hr := B.returns
  have hts := atoms_spec (ws := ws_ yX1_compared cX1_compared 4 (some .int)) B.pre
  have hts : ∀ w ∈ lw_all, w.before _ s = true := fun w h => hts w (List.mem_cons_of_mem _ h)
  have hown : s.vm.findClass RX1 = some m.cls := findClass_of_methodNamed B.named
  have hlocks := B.notSynchronized
  have hS : va_S (fun _ => False) s.heap s.heap [] := va_S.rf
  have hl := lv_entry ([.long x, .long y]) (n := 4) (Nat.le_of_ble_eq_true rfl)
  rw [lg_entry_eq]
  generalize (lg_sl ([.long x, .long y]) ++ List.replicate (4 - (lg_sl ([.long x, .long y])).length) Slot.unset).toArray = ls at hl ⊢
  have hl : lv_has ls 4 [(0, .long x), (2, .long y)] := hl
  refine lv_lload_n hx hb dX1_compared_0 rfl (lv_at hl 0 rfl) ?_
  refine lv_lload_n hx hb dX1_compared_1 rfl (lv_at hl 1 rfl) ?_
  refine W.lcmp hx hb dX1_compared_2 ?_
  refine lv_if_ne (tgt := 10) hx hb dX1_compared_3 (by decide) (fun c1 => ?_) (fun c1 => ?_)
  · refine lv_lload_n hx hb dX1_compared_10 rfl (lv_at hl 0 rfl) ?_
    refine lv_lload_n hx hb dX1_compared_11 rfl (lv_at hl 1 rfl) ?_
    refine W.lcmp hx hb dX1_compared_12 ?_
    refine lv_if_le (tgt := 20) hx hb dX1_compared_13 (by decide) (fun c2 => ?_) (fun c2 => ?_)
    · refine lv_iconst (v := -1) hx hb dX1_compared_20 (by decide) ?_
      exact W.iret (v := (-1)) hx hb hr (fun t ht hW => ⟨⟨_, (), rfl, fz_c_lt (Int.lt_iff_le_and_ne.mpr ⟨fz_ce c2, fun q => c1 ((lg_cmp_eq x y).mpr (fz_i q))⟩), trivial⟩, hS.F ht⟩) hS.2.2 dX1_compared_21
    · refine lv_iconst (v := 1) hx hb dX1_compared_16 (by decide) ?_
      refine lv_goto (tgt := 21) hx hb dX1_compared_17 (by decide) ?_
      exact W.iret (v := 1) hx hb hr (fun t ht hW => ⟨⟨_, (), rfl, fz_c_gt (fz_nce c2), trivial⟩, hS.F ht⟩) hS.2.2 dX1_compared_21
  · refine lv_iconst (v := 0) hx hb dX1_compared_6 (by decide) ?_
    refine lv_goto (tgt := 21) hx hb dX1_compared_7 (by decide) ?_
    exact W.iret (v := 0) hx hb hr (fun t ht hW => ⟨⟨_, (), rfl, fz_c_eq (by rw [(lg_cmp_eq x y).mp c1]), trivial⟩, hS.F ht⟩) hS.2.2 dX1_compared_21
set_option maxHeartbeats 4000000 in
set_option maxRecDepth 100000 in
/-- order of two ints -/
theorem mr_order (l : Launch) (h0 : Nat) (a1 a2 : Int32) : fz_Mi l yX1_order (ws_ yX1_order cX1_order 3 (some .int)) (fz_rm 1 23) [.ref h0, .int a1, .int a2] ((fz_c a1.toInt64 a2.toInt64)) := by
  refine Met.ofW (cc := cX1_order) (maxL := 3) (ret := (some .int)) (by decide) rfl ?_
  intro p e s m args below meth c s₁ B hml hv
  obtain ⟨rfl, -⟩ := hv
  have hx := B.exec
  have hb := B.bytes
  have hr := B.returns
  have hts := atoms_spec (ws := ws_ yX1_order cX1_order 3 (some .int)) B.pre
  have hts : ∀ w ∈ lw_all, w.before _ s = true := fun w h => hts w (List.mem_cons_of_mem _ h)
  have hown : s.vm.findClass RX1 = some m.cls := findClass_of_methodNamed B.named
  have hlocks := B.notSynchronized
  have hS : va_S (fun _ => False) s.heap s.heap [] := va_S.rf
  have hl := lv_entry ([.ref h0, .int a1, .int a2]) (n := 3) (Nat.le_of_ble_eq_true rfl)
  rw [lg_entry_eq]
  generalize (lg_sl ([.ref h0, .int a1, .int a2]) ++ List.replicate (3 - (lg_sl ([.ref h0, .int a1, .int a2])).length) Slot.unset).toArray = ls at hl ⊢
  have hl : lv_has ls 3 [(0, .ref h0), (1, .int a1), (2, .int a2)] := hl
  refine lv_iload_n hx hb dX1_order_0 rfl (lv_at hl 1 rfl) ?_
  refine lv_i2l hx hb dX1_order_1 rfl ?_
  refine lv_iload_n hx hb dX1_order_2 rfl (lv_at hl 2 rfl) ?_
  refine lv_i2l hx hb dX1_order_3 rfl ?_
  refine fz_callSi (As := [.long a1.toInt64, .long a2.toInt64]) (rest := []) (v := (fz_c a1.toInt64 a2.toInt64)) ⟨hx, hb, hml, hown, hts⟩ (mr_compared l a1.toInt64 a2.toInt64) (va_cwS 2 hts (lw_S q130 q131 q3 q132) rfl rfl rfl (by decide +kernel) ⟨Nat.le_of_ble_eq_true rfl, Nat.le_of_ble_eq_true rfl⟩) rfl hl.1 rfl (Nat.le_of_ble_eq_true rfl) dX1_order_4 ⟨Nat.le_of_ble_eq_true rfl, Nat.le_of_ble_eq_true rfl⟩ hS (fun H1 locs hz hk hS => ?_)
  exact W.iret (v := (fz_c a1.toInt64 a2.toInt64)) hx hb hr (fun t ht hW => ⟨⟨_, (), rfl, rfl, trivial⟩, hS.F ht⟩) hS.2.2 dX1_order_7
set_option maxHeartbeats 4000000 in
set_option maxRecDepth 100000 in
/-- order of two longs -/
theorem mr_orderOf (l : Launch) (h0 : Nat) (a1 a2 a3 a4 : Int32) : fz_Mi l yX1_orderOf (ws_ yX1_orderOf cX1_orderOf 5 (some .int)) (fz_rm 1 23) [.ref h0, .int a1, .int a2, .int a3, .int a4] ((fz_c (fz_n a1 a2) (fz_n a3 a4))) := by
  refine Met.ofW (cc := cX1_orderOf) (maxL := 5) (ret := (some .int)) (by decide) rfl ?_
  intro p e s m args below meth c s₁ B hml hv
  obtain ⟨rfl, -⟩ := hv
  have hx := B.exec
  have hb := B.bytes
  have hr := B.returns
  have hts := atoms_spec (ws := ws_ yX1_orderOf cX1_orderOf 5 (some .int)) B.pre
  have hts : ∀ w ∈ lw_all, w.before _ s = true := fun w h => hts w (List.mem_cons_of_mem _ h)
  have hown : s.vm.findClass RX1 = some m.cls := findClass_of_methodNamed B.named
  have hlocks := B.notSynchronized
  have hS : va_S (fun _ => False) s.heap s.heap [] := va_S.rf
  have hl := lv_entry ([.ref h0, .int a1, .int a2, .int a3, .int a4]) (n := 5) (Nat.le_of_ble_eq_true rfl)
  rw [lg_entry_eq]
  generalize (lg_sl ([.ref h0, .int a1, .int a2, .int a3, .int a4]) ++ List.replicate (5 - (lg_sl ([.ref h0, .int a1, .int a2, .int a3, .int a4])).length) Slot.unset).toArray = ls at hl ⊢
  have hl : lv_has ls 5 [(0, .ref h0), (1, .int a1), (2, .int a2), (3, .int a3), (4, .int a4)] := hl
  refine lv_iload_n hx hb dX1_orderOf_0 rfl (lv_at hl 1 rfl) ?_
  refine lv_iload_n hx hb dX1_orderOf_1 rfl (lv_at hl 2 rfl) ?_
  refine fz_callSl (As := [.int a1, .int a2]) (rest := []) (v := (fz_n a1 a2)) ⟨hx, hb, hml, hown, hts⟩ (mr_joined l a1 a2) (va_cwS 2 hts (lw_S q92 q93 q3 q94) rfl rfl rfl (by decide +kernel) ⟨Nat.le_of_ble_eq_true rfl, Nat.le_of_ble_eq_true rfl⟩) rfl hl.1 rfl (Nat.le_of_ble_eq_true rfl) dX1_orderOf_2 ⟨Nat.le_of_ble_eq_true rfl, Nat.le_of_ble_eq_true rfl⟩ hS (fun H1 locs hz hk hS => ?_)
  refine lv_iload_n hx hb dX1_orderOf_5 rfl (lv_at hl 3 rfl) ?_
  refine lv_iload hx hb dX1_orderOf_6 (lv_at hl 4 rfl) ?_
  refine fz_callSl (As := [.int a3, .int a4]) (rest := [.long (fz_n a1 a2)]) (v := (fz_n a3 a4)) ⟨hx, hb, hml, hown, hts⟩ (mr_joined l a3 a4) (va_cwS 2 hts (lw_S q92 q93 q3 q94) rfl rfl rfl (by decide +kernel) ⟨Nat.le_of_ble_eq_true rfl, Nat.le_of_ble_eq_true rfl⟩) rfl hl.1 rfl (Nat.le_of_ble_eq_true rfl) dX1_orderOf_8 ⟨Nat.le_of_ble_eq_true rfl, Nat.le_of_ble_eq_true rfl⟩ hS (fun H1 locs hz hk hS => ?_)
  refine fz_callSi (As := [.long (fz_n a1 a2), .long (fz_n a3 a4)]) (rest := []) (v := (fz_c (fz_n a1 a2) (fz_n a3 a4))) ⟨hx, hb, hml, hown, hts⟩ (mr_compared l (fz_n a1 a2) (fz_n a3 a4)) (va_cwS 2 hts (lw_S q130 q131 q3 q132) rfl rfl rfl (by decide +kernel) ⟨Nat.le_of_ble_eq_true rfl, Nat.le_of_ble_eq_true rfl⟩) rfl hl.1 rfl (Nat.le_of_ble_eq_true rfl) dX1_orderOf_11 ⟨Nat.le_of_ble_eq_true rfl, Nat.le_of_ble_eq_true rfl⟩ hS (fun H1 locs hz hk hS => ?_)
  exact W.iret (v := (fz_c (fz_n a1 a2) (fz_n a3 a4))) hx hb hr (fun t ht hW => ⟨⟨_, (), rfl, rfl, trivial⟩, hS.F ht⟩) hS.2.2 dX1_orderOf_14
end
section
/-! MODULE FloorDeskModel: the division, digit by digit -/
def TX0 : u_T := fun k => match k with
  | _ => ("", "", "", false)
def tyX0 : Nat → FieldType := fun k => match k with
  | _ => .int
theorem in_X0 : ∀ w ∈ u_ws RX0 TX0 0, w ∈ lw_all := fun w h => absurd h List.not_mem_nil
theorem tyX0_ok : ∀ k, k < 0 → parseFieldDescriptor (TX0 k).2.2.1 = some (tyX0 k) := fun k h => absurd h (Nat.not_lt_zero k)
/-- the classes whose objects the worlds hold -/
abbrev vwCl : List vw_C := [(RX0, TX0, 0), (RX1, TX1, 2)]
/-- the world behind a method that divides: the one cell, with its two fields -/
abbrev mr_B (dC : Nat → ClassId) (dI : Nat → Nat → Nat) (A : Nat → Prop) (h0 : Nat) (w l : Int64) (_ : Unit) (t : State) : Prop := va_P (dC, dI) vwCl [(h0, .inr (1, [.long w, .long l]))] t.heap ∧ va_K (dC, dI) vwCl [] t ∧ va_D A [(h0, .inr (1, [.long w, .long l]))]
set_option maxHeartbeats 4000000 in
set_option maxRecDepth 100000 in
/-- the loop, at its head with n digits to come; behind it (at 156) the left is the rest, the whole the whole part -/
theorem mr_loop {p : Program} {l : Launch} {e : Env} {R : Room} {s : State} {m : MethodId} {args : Array Value} {below : List Frame} {meth : Method} {c : Code} {dC : Nat → ClassId} {dI : Nat → Nat → Nat} {A : Nat → Prop} {H0 : Heap} {cells slots : Nat} {Q : State → Prop} {h0 : Nat} {a b : Int64} {x5 : Int32} {U : Int} (hx : p.tables.exec = Jvm.exec) (hb : c.code = cX1_divide) (hown : s.vm.findClass RX1 = some m.cls) (hts : ∀ w ∈ lw_all, w.before args s = true) (hK : va_K (dC, dI) vwCl [] s) (hpos : 0 < b.toInt) (hle : b.toInt ≤ 4611686018427387904) (hU : U < 9223372036854775808)
    (K : ∀ (le wh : Int64) (H : Heap) (locs : List Loc), le.toInt = U % b.toInt → wh.toInt = U / b.toInt → va_P (dC, dI) vwCl [(h0, .inr (1, [.long wh, .long le]))] H → va_D A [(h0, .inr (1, [.long wh, .long le]))] → va_S A H0 H locs → ∀ ls : Array Slot, lv_has ls 11 [(0, .ref h0), (1, .long a), (3, .long b), (5, .int x5)] → W p l e R s m args below meth c H locs cells slots Q (F0 m 156 ls [])) :
    ∀ (n : Nat) (up dg le wh : Int64) (x10 : Int32), n ≤ 63 → x10.toInt = (n : Int) - 1 → fz_I U b.toInt n up dg le wh → ∀ (H : Heap) (locs : List Loc), va_P (dC, dI) vwCl [(h0, .inr (1, [.long wh, .long le]))] H → va_D A [(h0, .inr (1, [.long wh, .long le]))] → va_S A H0 H locs → ∀ ls : Array Slot, lv_has ls 11 [(0, .ref h0), (1, .long a), (3, .long b), (5, .int x5), (6, .long up), (8, .long dg), (10, .int x10)] → W p l e R s m args below meth c H locs cells slots Q (F0 m 48 ls []) := by
  intro n
  induction n with
  | zero =>
    intro up dg le wh x10 hn ex hI H locs hP hD hS ls hl
    obtain ⟨e1, e2⟩ := fz_I_end hI
    refine lv_iload hx hb dX1_divide_48 (lv_at hl 6 rfl) ?_
    refine lv_if_lt (tgt := 156) hx hb dX1_divide_50 (by decide) (fun c1 => ?_) (fun c1 => ?_)
    · exact K le wh H locs e1 e2 hP hD hS ls (lv_sub hl [0, 1, 2, 3] rfl)
    · exact absurd (Int32.lt_iff_toInt_lt.mpr (by rw [Int32.toInt_zero]; omega)) c1
  | succ n ih =>
    intro up dg le wh x10 hn ex hI H locs hP hD hS ls hl
    refine lv_iload hx hb dX1_divide_48 (lv_at hl 6 rfl) ?_
    refine lv_if_lt (tgt := 156) hx hb dX1_divide_50 (by decide) (fun c1 => ?_) (fun c1 => ?_)
    · exact absurd (Int32.lt_iff_toInt_lt.mp c1) (by rw [Int32.toInt_zero]; omega)
    · have k142 : ∀ (up2 le2 wh2 : Int64) (H : Heap) (locs : List Loc), fz_I U b.toInt n up2 (dg / 2) le2 wh2 → va_P (dC, dI) vwCl [(h0, .inr (1, [.long wh2, .long le2]))] H → va_D A [(h0, .inr (1, [.long wh2, .long le2]))] → va_S A H0 H locs → ∀ ls : Array Slot, lv_has ls 11 [(6, .long up2), (0, .ref h0), (1, .long a), (3, .long b), (5, .int x5), (8, .long dg), (10, .int x10)] → W p l e R s m args below meth c H locs cells slots Q (F0 m 142 ls []) := by
        intro up2 le2 wh2 H locs hI2 hP hD hS ls hl
        refine lv_lload hx hb dX1_divide_142 (lv_at hl 5 rfl) ?_
        refine lv_ldc2 hx hb hown (hts _ q105) dX1_divide_144 ?_
        refine lv_ldiv hx hb dX1_divide_147 (by decide +kernel) ?_
        refine lv_topl (fun dg2 edg2 => ?_)
        refine lv_lstore (lv' := [(8, .long dg2), (6, .long up2), (0, .ref h0), (1, .long a), (3, .long b), (5, .int x5), (10, .int x10)]) hx hb dX1_divide_148 hl (by decide) rfl (fun ls hl => ?_)
        obtain ⟨x11, ex11⟩ : ∃ y : Int32, y = x10 + (-1) := ⟨_, rfl⟩
        refine lv_iinc (v := x11) (lv' := [(10, .int x11), (8, .long dg2), (6, .long up2), (0, .ref h0), (1, .long a), (3, .long b), (5, .int x5)]) hx hb dX1_divide_150 hl (k := 6) rfl (by rw [ex11]; rfl) (by decide) rfl (fun ls hl => ?_)
        refine lv_goto (tgt := 48) hx hb dX1_divide_153 (by decide) ?_
        have m1 : (-1 : Int32).toInt = -1 := by decide +kernel
        have ex2 : x11.toInt = (n : Int) - 1 := by rw [ex11, Jvm.Kit.i32_add (by omega) (by omega), m1]; omega
        exact ih up2 dg2 le2 wh2 x11 (by omega) ex2 (by rw [edg2]; exact hI2) H locs hP hD hS ls (lv_sub hl [3, 4, 5, 6, 2, 1, 0] rfl)
      have k98 : ∀ (be up2 : Int64) (H : Heap) (locs : List Loc), ((be = 1 ∧ dg.toInt ≤ up.toInt ∧ up2 = up - dg) ∨ (be = 0 ∧ up.toInt < dg.toInt ∧ up2 = up)) → va_P (dC, dI) vwCl [(h0, .inr (1, [.long wh, .long (le + le + be)]))] H → va_D A [(h0, .inr (1, [.long wh, .long (le + le + be)]))] → va_S A H0 H locs → ∀ ls : Array Slot, lv_has ls 11 [(0, .ref h0), (1, .long a), (3, .long b), (5, .int x5), (6, .long up), (8, .long dg), (10, .int x10)] → W p l e R s m args below meth c H locs cells slots Q (F0 m 98 ls [.long up2]) := by
        intro be up2 H locs hbe hP hD hS ls hl
        obtain ⟨s1, s2⟩ := fz_I_step hpos hle hU hI hbe
        generalize hle1 : le + le + be = le1 at hP hD s1 s2
        have hP : va_P (dC, dI) vwCl [(h0, .inr (1, [.long wh, .long le1]))] H := hP
        have hD : va_D A [(h0, .inr (1, [.long wh, .long le1]))] := hD
        refine lv_lstore (lv' := [(6, .long up2), (0, .ref h0), (1, .long a), (3, .long b), (5, .int x5), (8, .long dg), (10, .int x10)]) hx hb dX1_divide_98 hl (by decide) rfl (fun ls hl => ?_)
        refine lv_aload_n hx hb dX1_divide_100 rfl (lv_at hl 1 rfl) ?_
        refine lv_aload_n hx hb dX1_divide_101 rfl (lv_at hl 1 rfl) ?_
        refine va_get (D := (dC, dI)) (ci := 1) (v := .long wh) (C := RX1) (T := TX1) (N := 2) hx hb hts in_X1 hown hK hP 0 rfl rfl 0 (by decide) (hts _ q81) (fun _ h9 => h9) rfl dX1_divide_102 ?_
        refine lv_aload_n hx hb dX1_divide_105 rfl (lv_at hl 1 rfl) ?_
        refine va_get (D := (dC, dI)) (ci := 1) (v := .long wh) (C := RX1) (T := TX1) (N := 2) hx hb hts in_X1 hown hK hP 0 rfl rfl 0 (by decide) (hts _ q81) (fun _ h9 => h9) rfl dX1_divide_106 ?_
        refine lv_ladd hx hb dX1_divide_109 ?_
        refine lv_topl (fun wh1 ewh1 => ?_)
        refine va_put (D := (dC, dI)) (ci := 1) (v := .long wh1) (ty := .long) (C := RX1) (T := TX1) (N := 2) hx hb hts in_X1 tyX1 tyX1_ok nmX1 hown hK hP hD hS 0 rfl rfl 0 (by decide) (hts _ q81) (fun _ h9 => h9) rfl (by decide +kernel) rfl rfl (Nat.le_of_ble_eq_true rfl) dX1_divide_110 (fun H locs hP hD hS => ?_)
        have hP : va_P (dC, dI) vwCl [(h0, .inr (1, [.long wh1, .long le1]))] H := hP
        have hD : va_D A [(h0, .inr (1, [.long wh1, .long le1]))] := hD
        refine lv_aload_n hx hb dX1_divide_113 rfl (lv_at hl 1 rfl) ?_
        refine va_get (D := (dC, dI)) (ci := 1) (v := .long le1) (C := RX1) (T := TX1) (N := 2) hx hb hts in_X1 hown hK hP 0 rfl rfl 1 (by decide) (hts _ q82) (fun _ h9 => h9) rfl dX1_divide_114 ?_
        refine lv_lload_n hx hb dX1_divide_117 rfl (lv_at hl 3 rfl) ?_
        refine W.lcmp hx hb dX1_divide_118 ?_
        refine lv_if_lt (tgt := 142) hx hb dX1_divide_119 (by decide) (fun c2 => ?_) (fun c2 => ?_)
        · exact k142 up2 le1 wh1 H locs (by rw [ewh1]; exact s1 (fz_cl c2)) hP hD hS ls hl
        · refine lv_aload_n hx hb dX1_divide_122 rfl (lv_at hl 1 rfl) ?_
          refine lv_dup hx hb dX1_divide_123 rfl ?_
          refine va_get (D := (dC, dI)) (ci := 1) (v := .long le1) (C := RX1) (T := TX1) (N := 2) hx hb hts in_X1 hown hK hP 0 rfl rfl 1 (by decide) (hts _ q82) (fun _ h9 => h9) rfl dX1_divide_124 ?_
          refine lv_lload_n hx hb dX1_divide_127 rfl (lv_at hl 3 rfl) ?_
          refine lv_lsub hx hb dX1_divide_128 ?_
          refine lv_topl (fun le2 ele2 => ?_)
          refine va_put (D := (dC, dI)) (ci := 1) (v := .long le2) (ty := .long) (C := RX1) (T := TX1) (N := 2) hx hb hts in_X1 tyX1 tyX1_ok nmX1 hown hK hP hD hS 0 rfl rfl 1 (by decide) (hts _ q82) (fun _ h9 => h9) rfl (by decide +kernel) rfl rfl (Nat.le_of_ble_eq_true rfl) dX1_divide_129 (fun H locs hP hD hS => ?_)
          have hP : va_P (dC, dI) vwCl [(h0, .inr (1, [.long wh1, .long le2]))] H := hP
          have hD : va_D A [(h0, .inr (1, [.long wh1, .long le2]))] := hD
          refine lv_aload_n hx hb dX1_divide_132 rfl (lv_at hl 1 rfl) ?_
          refine lv_dup hx hb dX1_divide_133 rfl ?_
          refine va_get (D := (dC, dI)) (ci := 1) (v := .long wh1) (C := RX1) (T := TX1) (N := 2) hx hb hts in_X1 hown hK hP 0 rfl rfl 0 (by decide) (hts _ q81) (fun _ h9 => h9) rfl dX1_divide_134 ?_
          refine lv_lconst (v := 1) hx hb dX1_divide_137 (by decide) ?_
          refine lv_ladd hx hb dX1_divide_138 ?_
          refine lv_topl (fun wh2 ewh2 => ?_)
          refine va_put (D := (dC, dI)) (ci := 1) (v := .long wh2) (ty := .long) (C := RX1) (T := TX1) (N := 2) hx hb hts in_X1 tyX1 tyX1_ok nmX1 hown hK hP hD hS 0 rfl rfl 0 (by decide) (hts _ q81) (fun _ h9 => h9) rfl (by decide +kernel) rfl rfl (Nat.le_of_ble_eq_true rfl) dX1_divide_139 (fun H locs hP hD hS => ?_)
          have hP : va_P (dC, dI) vwCl [(h0, .inr (1, [.long wh2, .long le2]))] H := hP
          have hD : va_D A [(h0, .inr (1, [.long wh2, .long le2]))] := hD
          exact k142 up2 le2 wh2 H locs (by rw [ewh2, ewh1, ele2]; exact s2 (fz_ncl c2) b rfl) hP hD hS ls hl
      have k76 : ∀ (be : Int64), ((be = 1 ∧ ¬ lg_cmp up dg < 0) ∨ (be = 0 ∧ lg_cmp up dg < 0)) → W p l e R s m args below meth c H locs cells slots Q (F0 m 76 ls [.long be, .long (le + le), .ref h0]) := by
        intro be hbe
        refine lv_ladd hx hb dX1_divide_76 ?_
        refine va_put (D := (dC, dI)) (ci := 1) (v := .long (le + le + be)) (ty := .long) (C := RX1) (T := TX1) (N := 2) hx hb hts in_X1 tyX1 tyX1_ok nmX1 hown hK hP hD hS 0 rfl rfl 1 (by decide) (hts _ q82) (fun _ h9 => h9) rfl (by decide +kernel) rfl rfl (Nat.le_of_ble_eq_true rfl) dX1_divide_77 (fun H locs hP hD hS => ?_)
        have hP : va_P (dC, dI) vwCl [(h0, .inr (1, [.long wh, .long (le + le + be)]))] H := hP
        have hD : va_D A [(h0, .inr (1, [.long wh, .long (le + le + be)]))] := hD
        refine lv_lload hx hb dX1_divide_80 (lv_at hl 4 rfl) ?_
        refine lv_lload hx hb dX1_divide_82 (lv_at hl 5 rfl) ?_
        refine W.lcmp hx hb dX1_divide_84 ?_
        refine lv_if_lt (tgt := 96) hx hb dX1_divide_85 (by decide) (fun c2 => ?_) (fun c2 => ?_)
        · refine lv_lload hx hb dX1_divide_96 (lv_at hl 4 rfl) ?_
          exact k98 be up H locs (hbe.elim (fun q => absurd c2 q.2) (fun q => Or.inr ⟨q.1, fz_cl c2, rfl⟩)) hP hD hS ls hl
        · refine lv_lload hx hb dX1_divide_88 (lv_at hl 4 rfl) ?_
          refine lv_lload hx hb dX1_divide_90 (lv_at hl 5 rfl) ?_
          refine lv_lsub hx hb dX1_divide_92 ?_
          refine lv_goto (tgt := 98) hx hb dX1_divide_93 (by decide) ?_
          exact k98 be (up - dg) H locs (hbe.elim (fun q => Or.inl ⟨q.1, fz_ncl c2, rfl⟩) (fun q => absurd q.2 c2)) hP hD hS ls hl
      refine lv_aload_n hx hb dX1_divide_53 rfl (lv_at hl 0 rfl) ?_
      refine lv_aload_n hx hb dX1_divide_54 rfl (lv_at hl 0 rfl) ?_
      refine va_get (D := (dC, dI)) (ci := 1) (v := .long le) (C := RX1) (T := TX1) (N := 2) hx hb hts in_X1 hown hK hP 0 rfl rfl 1 (by decide) (hts _ q82) (fun _ h9 => h9) rfl dX1_divide_55 ?_
      refine lv_aload_n hx hb dX1_divide_58 rfl (lv_at hl 0 rfl) ?_
      refine va_get (D := (dC, dI)) (ci := 1) (v := .long le) (C := RX1) (T := TX1) (N := 2) hx hb hts in_X1 hown hK hP 0 rfl rfl 1 (by decide) (hts _ q82) (fun _ h9 => h9) rfl dX1_divide_59 ?_
      refine lv_ladd hx hb dX1_divide_62 ?_
      refine lv_lload hx hb dX1_divide_63 (lv_at hl 4 rfl) ?_
      refine lv_lload hx hb dX1_divide_65 (lv_at hl 5 rfl) ?_
      refine W.lcmp hx hb dX1_divide_67 ?_
      refine lv_if_lt (tgt := 75) hx hb dX1_divide_68 (by decide) (fun c2 => ?_) (fun c2 => ?_)
      · refine lv_lconst (v := 0) hx hb dX1_divide_75 (by decide) ?_
        exact k76 0 (Or.inr ⟨rfl, c2⟩)
      · refine lv_lconst (v := 1) hx hb dX1_divide_71 (by decide) ?_
        refine lv_goto (tgt := 76) hx hb dX1_divide_72 (by decide) ?_
        exact k76 1 (Or.inl ⟨rfl, c2⟩)
set_option maxHeartbeats 4000000 in
set_option maxRecDepth 100000 in
/-- divide(a, b): the whole part and what is left, for b from 1 to 2^62 -/
theorem mr_divide (l : Launch) (dC : Nat → ClassId) (dI : Nat → Nat → Nat) (h0 sz : Nat) (wh le : Int64) (a b : Int64) (hpos : 0 < b.toInt) (hle : b.toInt ≤ 4611686018427387904) : Met l yX1_divide (ws_ yX1_divide cX1_divide 11 none) (fz_rm 0 0) (va_Pc [.ref h0, .long a, .long b] (fun U => U.heap.size = sz ∧ va_P (dC, dI) vwCl [(h0, .inr (1, [.long wh, .long le]))] U.heap ∧ va_K (dC, dI) vwCl [] U ∧ va_D (fun _ => True) [(h0, .inr (1, [.long wh, .long le]))])) (va_Qv (fun _ : Unit => True) (mr_B dC dI (va_A [(h0, .inr (1, [.long wh, .long le]))] sz) h0 (fz_q a b) (fz_r a b)) (va_A [(h0, .inr (1, [.long wh, .long le]))] sz)) 0 0 (va_A [(h0, .inr (1, [.long wh, .long le]))] sz) := by
  refine Met.ofW (cc := cX1_divide) (maxL := 11) (ret := none) (by decide) rfl ?_
  intro p e s m args below meth c s₁ B hml hv
  obtain ⟨rfl, hsz, hP, hK, hD0⟩ := hv
  have hx := B.exec
  have hb := B.bytes
  have hr := B.returns
  have hts := atoms_spec (ws := ws_ yX1_divide cX1_divide 11 none) B.pre
  have hts : ∀ w ∈ lw_all, w.before _ s = true := fun w h => hts w (List.mem_cons_of_mem _ h)
  have hown : s.vm.findClass RX1 = some m.cls := findClass_of_methodNamed B.named
  have hlocks := B.notSynchronized
  subst hsz
  have hD := hD0.self (sz := s.heap.size)
  generalize hAe : va_A [(h0, .inr (1, [.long wh, .long le]))] s.heap.size = A at hD ⊢
  have hA : ∀ q : Nat, s.heap.size ≤ q → A q := fun q h => by rw [← hAe]; exact Or.inr h
  have hS : va_S A s.heap s.heap [] := va_S.rf
  have hP : va_P (dC, dI) vwCl [(h0, .inr (1, [.long wh, .long le]))] s.heap := hP
  have hl := lv_entry ([.ref h0, .long a, .long b]) (n := 11) (Nat.le_of_ble_eq_true rfl)
  rw [lg_entry_eq]
  generalize (lg_sl ([.ref h0, .long a, .long b]) ++ List.replicate (11 - (lg_sl ([.ref h0, .long a, .long b])).length) Slot.unset).toArray = ls at hl ⊢
  have hl : lv_has ls 11 [(0, .ref h0), (1, .long a), (3, .long b)] := hl
  have hb1 := b.toInt_lt
  have ha1 := a.toInt_lt
  have ha2 := a.le_toInt
  have k27 : ∀ (x5 : Int32) (up : Int64), ((x5 = 0 ∧ 0 ≤ a.toInt ∧ up = a) ∨ (x5 = 1 ∧ a.toInt < 0 ∧ up = -1 - a)) → ∀ ls : Array Slot, lv_has ls 11 [(5, .int x5), (0, .ref h0), (1, .long a), (3, .long b)] → W p l e (headSpec (ws_ yX1_divide cX1_divide 11 none) (fz_rm 0 0)).room s m ([.ref h0, .long a, .long b] : List Value).toArray below meth c s.heap [] 0 0 (MQ below (va_Qv (fun _ : Unit => True) (mr_B dC dI A h0 (fz_q a b) (fz_r a b)) A) ([.ref h0, .long a, .long b] : List Value).toArray s 0 0 A) (F0 m 27 ls [.long up]) := by
    intro x5 up h5 ls hl
    have hU : 0 ≤ up.toInt ∧ ((x5 = 0 ∧ up.toInt = a.toInt) ∨ (x5 = 1 ∧ up.toInt = -1 - a.toInt)) := by
      rcases h5 with ⟨q1, q2, q3⟩ | ⟨q1, q2, q3⟩
      · exact ⟨by rw [q3]; exact q2, Or.inl ⟨q1, by rw [q3]⟩⟩
      · have q4 := fz_up q2
        exact ⟨by rw [q3, q4]; omega, Or.inr ⟨q1, by rw [q3, q4]⟩⟩
    obtain ⟨hU0, hU5⟩ := hU
    have hUl := up.toInt_lt
    refine lv_lstore (lv' := [(6, .long up), (5, .int x5), (0, .ref h0), (1, .long a), (3, .long b)]) hx hb dX1_divide_27 hl (by decide) rfl (fun ls hl => ?_)
    refine lv_ldc2 hx hb hown (hts _ q99) dX1_divide_29 ?_
    refine lv_lstore (lv' := [(8, .long 4611686018427387904), (6, .long up), (5, .int x5), (0, .ref h0), (1, .long a), (3, .long b)]) hx hb dX1_divide_32 hl (by decide) rfl (fun ls hl => ?_)
    refine lv_aload_n hx hb dX1_divide_34 rfl (lv_at hl 3 rfl) ?_
    refine lv_lconst (v := 0) hx hb dX1_divide_35 (by decide) ?_
    refine va_put (D := (dC, dI)) (ci := 1) (v := .long 0) (ty := .long) (C := RX1) (T := TX1) (N := 2) hx hb hts in_X1 tyX1 tyX1_ok nmX1 hown hK hP hD hS 0 rfl rfl 0 (by decide) (hts _ q81) (fun _ h9 => h9) rfl (by decide +kernel) rfl rfl (Nat.le_of_ble_eq_true rfl) dX1_divide_36 (fun H locs hP hD hS => ?_)
    have hP : va_P (dC, dI) vwCl [(h0, .inr (1, [.long 0, .long le]))] H := hP
    have hD : va_D A [(h0, .inr (1, [.long 0, .long le]))] := hD
    refine lv_aload_n hx hb dX1_divide_39 rfl (lv_at hl 3 rfl) ?_
    refine lv_lconst (v := 0) hx hb dX1_divide_40 (by decide) ?_
    refine va_put (D := (dC, dI)) (ci := 1) (v := .long 0) (ty := .long) (C := RX1) (T := TX1) (N := 2) hx hb hts in_X1 tyX1 tyX1_ok nmX1 hown hK hP hD hS 0 rfl rfl 1 (by decide) (hts _ q82) (fun _ h9 => h9) rfl (by decide +kernel) rfl rfl (Nat.le_of_ble_eq_true rfl) dX1_divide_41 (fun H locs hP hD hS => ?_)
    have hP : va_P (dC, dI) vwCl [(h0, .inr (1, [.long 0, .long 0]))] H := hP
    have hD : va_D A [(h0, .inr (1, [.long 0, .long 0]))] := hD
    refine lv_bipush (v := 62) hx hb dX1_divide_44 (by decide) ?_
    refine lv_istore (lv' := [(10, .int 62), (8, .long 4611686018427387904), (6, .long up), (5, .int x5), (0, .ref h0), (1, .long a), (3, .long b)]) hx hb dX1_divide_46 hl (by decide) rfl (fun ls hl => ?_)
    refine mr_loop hx hb hown hts hK hpos hle hUl ?_ 63 up 4611686018427387904 0 0 62 (Nat.le_refl 63) (by decide +kernel) (fz_I_start hU0 hUl rfl) H locs hP hD hS ls (lv_sub hl [4, 5, 6, 3, 2, 1, 0] rfl)
    intro le2 wh2 H locs e1 e2 hP hD hS ls hl
    refine lv_iload hx hb dX1_divide_156 (lv_at hl 3 rfl) ?_
    refine lv_if_eq (tgt := 185) hx hb dX1_divide_158 (by decide) (fun c5 => ?_) (fun c5 => ?_)
    · have hU6 : up.toInt = a.toInt := hU5.elim (fun q => q.2) (fun q => absurd (q.1.symm.trans c5) (by decide))
      obtain ⟨r1, r2⟩ := fz_e1 hpos hU6 e1 e2
      rw [r1, r2] at hP hD
      have hP9 := hP.sub (ws' := [(h0, .inr (1, [.long (fz_q a b), .long (fz_r a b)]))]) [0] rfl
      have hD9 := hD.sub (ws' := [(h0, .inr (1, [.long (fz_q a b), .long (fz_r a b)]))]) [0] (by decide) rfl
      have hK9 := hK.sub (tys' := []) [] rfl
      exact W.vret hx hb hr (fun t ht hW => ⟨⟨(), rfl, trivial, by rw [ht]; exact hP9, va_K.moved hW.alike hK9, hD9⟩, hS.F ht⟩) hS.2.2 dX1_divide_185
    · have hU6 : up.toInt = -1 - a.toInt := hU5.elim (fun q => absurd q.1 c5) (fun q => q.2)
      obtain ⟨r1, r2⟩ := fz_e2 hpos hU0 hU6 e1 e2
      refine lv_aload_n hx hb dX1_divide_161 rfl (lv_at hl 0 rfl) ?_
      refine lv_ldc2 hx hb hown (hts _ q104) dX1_divide_162 ?_
      refine lv_aload_n hx hb dX1_divide_165 rfl (lv_at hl 0 rfl) ?_
      refine va_get (D := (dC, dI)) (ci := 1) (v := .long wh2) (C := RX1) (T := TX1) (N := 2) hx hb hts in_X1 hown hK hP 0 rfl rfl 0 (by decide) (hts _ q81) (fun _ h9 => h9) rfl dX1_divide_166 ?_
      refine lv_lsub hx hb dX1_divide_169 ?_
      rw [r1]
      refine va_put (D := (dC, dI)) (ci := 1) (v := .long (fz_q a b)) (ty := .long) (C := RX1) (T := TX1) (N := 2) hx hb hts in_X1 tyX1 tyX1_ok nmX1 hown hK hP hD hS 0 rfl rfl 0 (by decide) (hts _ q81) (fun _ h9 => h9) rfl (by decide +kernel) rfl rfl (Nat.le_of_ble_eq_true rfl) dX1_divide_170 (fun H locs hP hD hS => ?_)
      have hP : va_P (dC, dI) vwCl [(h0, .inr (1, [.long (fz_q a b), .long le2]))] H := hP
      have hD : va_D A [(h0, .inr (1, [.long (fz_q a b), .long le2]))] := hD
      refine lv_aload_n hx hb dX1_divide_173 rfl (lv_at hl 0 rfl) ?_
      refine lv_lload_n hx hb dX1_divide_174 rfl (lv_at hl 2 rfl) ?_
      refine lv_lconst (v := 1) hx hb dX1_divide_175 (by decide) ?_
      refine lv_lsub hx hb dX1_divide_176 ?_
      refine lv_aload_n hx hb dX1_divide_177 rfl (lv_at hl 0 rfl) ?_
      refine va_get (D := (dC, dI)) (ci := 1) (v := .long le2) (C := RX1) (T := TX1) (N := 2) hx hb hts in_X1 hown hK hP 0 rfl rfl 1 (by decide) (hts _ q82) (fun _ h9 => h9) rfl dX1_divide_178 ?_
      refine lv_lsub hx hb dX1_divide_181 ?_
      rw [r2]
      refine va_put (D := (dC, dI)) (ci := 1) (v := .long (fz_r a b)) (ty := .long) (C := RX1) (T := TX1) (N := 2) hx hb hts in_X1 tyX1 tyX1_ok nmX1 hown hK hP hD hS 0 rfl rfl 1 (by decide) (hts _ q82) (fun _ h9 => h9) rfl (by decide +kernel) rfl rfl (Nat.le_of_ble_eq_true rfl) dX1_divide_182 (fun H locs hP hD hS => ?_)
      have hP : va_P (dC, dI) vwCl [(h0, .inr (1, [.long (fz_q a b), .long (fz_r a b)]))] H := hP
      have hD : va_D A [(h0, .inr (1, [.long (fz_q a b), .long (fz_r a b)]))] := hD
      have hP9 := hP.sub (ws' := [(h0, .inr (1, [.long (fz_q a b), .long (fz_r a b)]))]) [0] rfl
      have hD9 := hD.sub (ws' := [(h0, .inr (1, [.long (fz_q a b), .long (fz_r a b)]))]) [0] (by decide) rfl
      have hK9 := hK.sub (tys' := []) [] rfl
      exact W.vret hx hb hr (fun t ht hW => ⟨⟨(), rfl, trivial, by rw [ht]; exact hP9, va_K.moved hW.alike hK9, hD9⟩, hS.F ht⟩) hS.2.2 dX1_divide_185
  refine lv_lload_n hx hb dX1_divide_0 rfl (lv_at hl 1 rfl) ?_
  refine lv_lconst (v := 0) hx hb dX1_divide_1 (by decide) ?_
  refine W.lcmp hx hb dX1_divide_2 ?_
  refine lv_if_ge (tgt := 10) hx hb dX1_divide_3 (by decide) (fun c1 => ?_) (fun c1 => ?_)
  · have ca : 0 ≤ a.toInt := by have := fz_cg c1; rw [Int64.toInt_zero] at this; exact this
    refine lv_iconst (v := 0) hx hb dX1_divide_10 (by decide) ?_
    refine lv_istore (lv' := [(5, .int 0), (0, .ref h0), (1, .long a), (3, .long b)]) hx hb dX1_divide_11 hl (by decide) rfl (fun ls hl => ?_)
    refine lv_iload hx hb dX1_divide_13 (lv_at hl 0 rfl) ?_
    refine lv_if_eq (tgt := 26) hx hb dX1_divide_15 (by decide) (fun c2 => ?_) (fun c2 => ?_)
    · refine lv_lload_n hx hb dX1_divide_26 rfl (lv_at hl 2 rfl) ?_
      exact k27 0 a (Or.inl ⟨rfl, ca, rfl⟩) ls hl
    · exact absurd rfl c2
  · have ca : a.toInt < 0 := by have := fz_ncg c1; rw [Int64.toInt_zero] at this; exact this
    refine lv_iconst (v := 1) hx hb dX1_divide_6 (by decide) ?_
    refine lv_goto (tgt := 11) hx hb dX1_divide_7 (by decide) ?_
    refine lv_istore (lv' := [(5, .int 1), (0, .ref h0), (1, .long a), (3, .long b)]) hx hb dX1_divide_11 hl (by decide) rfl (fun ls hl => ?_)
    refine lv_iload hx hb dX1_divide_13 (lv_at hl 0 rfl) ?_
    refine lv_if_eq (tgt := 26) hx hb dX1_divide_15 (by decide) (fun c2 => ?_) (fun c2 => ?_)
    · exact absurd c2 (by decide)
    · refine lv_ldc2 hx hb hown (hts _ q104) dX1_divide_18 ?_
      refine lv_lload_n hx hb dX1_divide_21 rfl (lv_at hl 2 rfl) ?_
      refine lv_lsub hx hb dX1_divide_22 ?_
      refine lv_goto (tgt := 27) hx hb dX1_divide_23 (by decide) ?_
      exact k27 1 (-1 - a) (Or.inr ⟨rfl, ca, rfl⟩) ls hl
end
section
/-! MODULE FloorDeskModel: the methods that divide -/
set_option maxHeartbeats 4000000 in
set_option maxRecDepth 100000 in
/-- floorOf: the whole part -/
theorem mr_floorOf (l : Launch) (dC : Nat → ClassId) (dI : Nat → Nat → Nat) (h0 sz : Nat) (wh le : Int64) (a1 a2 a3 a4 : Int32) : Met l yX1_floorOf (ws_ yX1_floorOf cX1_floorOf 5 (some .long)) (fz_rm 2 48) (va_Pc [.ref h0, .int a1, .int a2, .int a3, .int a4] (fun U => U.heap.size = sz ∧ va_P (dC, dI) vwCl [(h0, .inr (1, [.long wh, .long le]))] U.heap ∧ va_K (dC, dI) vwCl [] U ∧ va_D (fun _ => True) [(h0, .inr (1, [.long wh, .long le]))])) (va_Ql (fun (r : Int64) (_ : Unit) => r = (fz_q (fz_n a1 a2) (fz_pt (fz_n a3 a4)))) (mr_B dC dI (va_A [(h0, .inr (1, [.long wh, .long le]))] sz) h0 (fz_q (fz_n a1 a2) (fz_pt (fz_n a3 a4))) (fz_r (fz_n a1 a2) (fz_pt (fz_n a3 a4)))) (va_A [(h0, .inr (1, [.long wh, .long le]))] sz)) 0 0 (va_A [(h0, .inr (1, [.long wh, .long le]))] sz) := by
  refine Met.ofW (cc := cX1_floorOf) (maxL := 5) (ret := (some .long)) (by decide) rfl ?_
  intro p e s m args below meth c s₁ B hml hv
  obtain ⟨rfl, hsz, hP, hK, hD0⟩ := hv
  have hx := B.exec
  have hb := B.bytes
  have hr := B.returns
  have hts := atoms_spec (ws := ws_ yX1_floorOf cX1_floorOf 5 (some .long)) B.pre
  have hts : ∀ w ∈ lw_all, w.before _ s = true := fun w h => hts w (List.mem_cons_of_mem _ h)
  have hown : s.vm.findClass RX1 = some m.cls := findClass_of_methodNamed B.named
  have hlocks := B.notSynchronized
  subst hsz
  have hD := hD0.self (sz := s.heap.size)
  generalize hAe : va_A [(h0, .inr (1, [.long wh, .long le]))] s.heap.size = A at hD ⊢
  have hA : ∀ q : Nat, s.heap.size ≤ q → A q := fun q h => by rw [← hAe]; exact Or.inr h
  have hS : va_S A s.heap s.heap [] := va_S.rf
  have hP : va_P (dC, dI) vwCl [(h0, .inr (1, [.long wh, .long le]))] s.heap := hP
  have hl := lv_entry ([.ref h0, .int a1, .int a2, .int a3, .int a4]) (n := 5) (Nat.le_of_ble_eq_true rfl)
  rw [lg_entry_eq]
  generalize (lg_sl ([.ref h0, .int a1, .int a2, .int a3, .int a4]) ++ List.replicate (5 - (lg_sl ([.ref h0, .int a1, .int a2, .int a3, .int a4])).length) Slot.unset).toArray = ls at hl ⊢
  have hl : lv_has ls 5 [(0, .ref h0), (1, .int a1), (2, .int a2), (3, .int a3), (4, .int a4)] := hl
  refine lv_aload_n hx hb dX1_floorOf_0 rfl (lv_at hl 0 rfl) ?_
  refine lv_iload_n hx hb dX1_floorOf_1 rfl (lv_at hl 1 rfl) ?_
  refine lv_iload_n hx hb dX1_floorOf_2 rfl (lv_at hl 2 rfl) ?_
  refine fz_callSl (As := [.int a1, .int a2]) (rest := [.ref h0]) (v := (fz_n a1 a2)) ⟨hx, hb, hml, hown, hts⟩ (mr_joined l a1 a2) (va_cwS 2 hts (lw_S q92 q93 q3 q94) rfl rfl rfl (by decide +kernel) ⟨Nat.le_of_ble_eq_true rfl, Nat.le_of_ble_eq_true rfl⟩) rfl hl.1 rfl (Nat.le_of_ble_eq_true rfl) dX1_floorOf_3 ⟨Nat.le_of_ble_eq_true rfl, Nat.le_of_ble_eq_true rfl⟩ hS (fun H1 locs hz hk hS => ?_)
  have hP := fz_keep hP hk
  clear hk hz
  generalize H1 = H at hP hS ⊢
  refine lv_iload_n hx hb dX1_floorOf_6 rfl (lv_at hl 3 rfl) ?_
  refine lv_iload hx hb dX1_floorOf_7 (lv_at hl 4 rfl) ?_
  refine fz_callSl (As := [.int a3, .int a4]) (rest := [.long (fz_n a1 a2), .ref h0]) (v := (fz_pt (fz_n a3 a4))) ⟨hx, hb, hml, hown, hts⟩ (mr_partL l a3 a4) (va_cwS 2 hts (lw_S q96 q97 q3 q98) rfl rfl rfl (by decide +kernel) ⟨Nat.le_of_ble_eq_true rfl, Nat.le_of_ble_eq_true rfl⟩) rfl hl.1 rfl (Nat.le_of_ble_eq_true rfl) dX1_floorOf_9 ⟨Nat.le_of_ble_eq_true rfl, Nat.le_of_ble_eq_true rfl⟩ hS (fun H1 locs hz hk hS => ?_)
  have hP := fz_keep hP hk
  clear hk hz
  generalize H1 = H at hP hS ⊢
  have hPc := hP.sub (ws' := [(h0, .inr (1, [.long wh, .long le]))]) [0] rfl
  have hDc := hD.sub (ws' := [(h0, .inr (1, [.long wh, .long le]))]) [0] (by decide) rfl
  have hKc := hK.sub (tys' := []) [] rfl
  have hFc := va_free (wc := [(h0, .inr (1, [.long wh, .long le]))]) hD hS hA [0] rfl
  refine va_callv (va_runV (As := [.long (fz_n a1 a2), .long (fz_pt (fz_n a3 a4))]) (rest := []) ⟨hx, hb, hml, hown, hts⟩ (mr_divide l dC dI h0 H.size wh le (fz_n a1 a2) (fz_pt (fz_n a3 a4)) (fz_pt_pos _) (fz_pt_le _)) (cwV 2 hts (lw_V q100 q102 qs0 q3 q103) rfl rfl rfl (by decide +kernel) ⟨Nat.le_of_ble_eq_true rfl, Nat.le_of_ble_eq_true rfl⟩) ⟨fun a U g mk q => by obtain ⟨q0, q1, qP, qK, qD⟩ := q; exact ⟨q0, q1, qP, va_K.moved (u := U) (U := U.calling g mk a) (Vm.Alike.refl U.vm) qK, qD⟩, va_recv hKc hPc (ci := 1) (q0 := 0) rfl rfl, fun U hU hW => ⟨rfl, by rw [hU], by rw [hU]; exact hPc, va_K.moved hW.alike hKc, hDc.weaken (fun _ _ _ _ => trivial)⟩⟩ rfl rfl hl.1 rfl (lv_room (Nat.le_of_ble_eq_true rfl)) dX1_floorOf_12 ⟨Nat.le_of_ble_eq_true rfl, Nat.le_of_ble_eq_true rfl⟩) hS (fun q _ h => hFc q h) hFc (fun u t H1 locs ht hvm hw hB hz1 hk1 hS => ?_)
  obtain ⟨hP1, hK1, hD1⟩ := hB
  rw [ht] at hP1
  have hK1 := va_K.moved hvm.symm hK1
  obtain ⟨hP, hD⟩ := va_join (wr := []) (w1 := [(h0, .inr (1, [.long (fz_q (fz_n a1 a2) (fz_pt (fz_n a3 a4))), .long (fz_r (fz_n a1 a2) (fz_pt (fz_n a3 a4)))]))]) hP hD [0] [] rfl rfl (by decide) (by decide) hk1 hFc hP1 hD1
  have hK := (hK.sub (tys' := []) [] rfl).app hK1
  clear hk1 hz1 hFc hP1 hD1 hPc hDc
  generalize H1 = H at hP hS ⊢
  have hP : va_P (dC, dI) vwCl [(h0, .inr (1, [.long (fz_q (fz_n a1 a2) (fz_pt (fz_n a3 a4))), .long (fz_r (fz_n a1 a2) (fz_pt (fz_n a3 a4)))]))] H := hP
  have hD : va_D A [(h0, .inr (1, [.long (fz_q (fz_n a1 a2) (fz_pt (fz_n a3 a4))), .long (fz_r (fz_n a1 a2) (fz_pt (fz_n a3 a4)))]))] := hD
  have hK : va_K (dC, dI) vwCl [] s := hK
  refine lv_aload_n hx hb dX1_floorOf_15 rfl (lv_at hl 0 rfl) ?_
  refine va_get (D := (dC, dI)) (ci := 1) (v := .long (fz_q (fz_n a1 a2) (fz_pt (fz_n a3 a4)))) (C := RX1) (T := TX1) (N := 2) hx hb hts in_X1 hown hK hP 0 rfl rfl 0 (by decide) (hts _ q81) (fun _ h9 => h9) rfl dX1_floorOf_16 ?_
  have hP9 := hP.sub (ws' := [(h0, .inr (1, [.long (fz_q (fz_n a1 a2) (fz_pt (fz_n a3 a4))), .long (fz_r (fz_n a1 a2) (fz_pt (fz_n a3 a4)))]))]) [0] rfl
  have hD9 := hD.sub (ws' := [(h0, .inr (1, [.long (fz_q (fz_n a1 a2) (fz_pt (fz_n a3 a4))), .long (fz_r (fz_n a1 a2) (fz_pt (fz_n a3 a4)))]))]) [0] (by decide) rfl
  have hK9 := hK.sub (tys' := []) [] rfl
  exact W.lret (v := (fz_q (fz_n a1 a2) (fz_pt (fz_n a3 a4)))) hx hb hr (fun t ht hW => ⟨⟨_, (), rfl, rfl, by rw [ht]; exact hP9, va_K.moved hW.alike hK9, hD9⟩, hS.F ht⟩) hS.2.2 dX1_floorOf_19
set_option maxHeartbeats 4000000 in
set_option maxRecDepth 100000 in
/-- restOf: what is left -/
theorem mr_restOf (l : Launch) (dC : Nat → ClassId) (dI : Nat → Nat → Nat) (h0 sz : Nat) (wh le : Int64) (a1 a2 a3 a4 : Int32) : Met l yX1_restOf (ws_ yX1_restOf cX1_restOf 5 (some .long)) (fz_rm 2 48) (va_Pc [.ref h0, .int a1, .int a2, .int a3, .int a4] (fun U => U.heap.size = sz ∧ va_P (dC, dI) vwCl [(h0, .inr (1, [.long wh, .long le]))] U.heap ∧ va_K (dC, dI) vwCl [] U ∧ va_D (fun _ => True) [(h0, .inr (1, [.long wh, .long le]))])) (va_Ql (fun (r : Int64) (_ : Unit) => r = (fz_r (fz_n a1 a2) (fz_pt (fz_n a3 a4)))) (mr_B dC dI (va_A [(h0, .inr (1, [.long wh, .long le]))] sz) h0 (fz_q (fz_n a1 a2) (fz_pt (fz_n a3 a4))) (fz_r (fz_n a1 a2) (fz_pt (fz_n a3 a4)))) (va_A [(h0, .inr (1, [.long wh, .long le]))] sz)) 0 0 (va_A [(h0, .inr (1, [.long wh, .long le]))] sz) := by
  refine Met.ofW (cc := cX1_restOf) (maxL := 5) (ret := (some .long)) (by decide) rfl ?_
  intro p e s m args below meth c s₁ B hml hv
  obtain ⟨rfl, hsz, hP, hK, hD0⟩ := hv
  have hx := B.exec
  have hb := B.bytes
  have hr := B.returns
  have hts := atoms_spec (ws := ws_ yX1_restOf cX1_restOf 5 (some .long)) B.pre
  have hts : ∀ w ∈ lw_all, w.before _ s = true := fun w h => hts w (List.mem_cons_of_mem _ h)
  have hown : s.vm.findClass RX1 = some m.cls := findClass_of_methodNamed B.named
  have hlocks := B.notSynchronized
  subst hsz
  have hD := hD0.self (sz := s.heap.size)
  generalize hAe : va_A [(h0, .inr (1, [.long wh, .long le]))] s.heap.size = A at hD ⊢
  have hA : ∀ q : Nat, s.heap.size ≤ q → A q := fun q h => by rw [← hAe]; exact Or.inr h
  have hS : va_S A s.heap s.heap [] := va_S.rf
  have hP : va_P (dC, dI) vwCl [(h0, .inr (1, [.long wh, .long le]))] s.heap := hP
  have hl := lv_entry ([.ref h0, .int a1, .int a2, .int a3, .int a4]) (n := 5) (Nat.le_of_ble_eq_true rfl)
  rw [lg_entry_eq]
  generalize (lg_sl ([.ref h0, .int a1, .int a2, .int a3, .int a4]) ++ List.replicate (5 - (lg_sl ([.ref h0, .int a1, .int a2, .int a3, .int a4])).length) Slot.unset).toArray = ls at hl ⊢
  have hl : lv_has ls 5 [(0, .ref h0), (1, .int a1), (2, .int a2), (3, .int a3), (4, .int a4)] := hl
  refine lv_aload_n hx hb dX1_restOf_0 rfl (lv_at hl 0 rfl) ?_
  refine lv_iload_n hx hb dX1_restOf_1 rfl (lv_at hl 1 rfl) ?_
  refine lv_iload_n hx hb dX1_restOf_2 rfl (lv_at hl 2 rfl) ?_
  refine fz_callSl (As := [.int a1, .int a2]) (rest := [.ref h0]) (v := (fz_n a1 a2)) ⟨hx, hb, hml, hown, hts⟩ (mr_joined l a1 a2) (va_cwS 2 hts (lw_S q92 q93 q3 q94) rfl rfl rfl (by decide +kernel) ⟨Nat.le_of_ble_eq_true rfl, Nat.le_of_ble_eq_true rfl⟩) rfl hl.1 rfl (Nat.le_of_ble_eq_true rfl) dX1_restOf_3 ⟨Nat.le_of_ble_eq_true rfl, Nat.le_of_ble_eq_true rfl⟩ hS (fun H1 locs hz hk hS => ?_)
  have hP := fz_keep hP hk
  clear hk hz
  generalize H1 = H at hP hS ⊢
  refine lv_iload_n hx hb dX1_restOf_6 rfl (lv_at hl 3 rfl) ?_
  refine lv_iload hx hb dX1_restOf_7 (lv_at hl 4 rfl) ?_
  refine fz_callSl (As := [.int a3, .int a4]) (rest := [.long (fz_n a1 a2), .ref h0]) (v := (fz_pt (fz_n a3 a4))) ⟨hx, hb, hml, hown, hts⟩ (mr_partL l a3 a4) (va_cwS 2 hts (lw_S q96 q97 q3 q98) rfl rfl rfl (by decide +kernel) ⟨Nat.le_of_ble_eq_true rfl, Nat.le_of_ble_eq_true rfl⟩) rfl hl.1 rfl (Nat.le_of_ble_eq_true rfl) dX1_restOf_9 ⟨Nat.le_of_ble_eq_true rfl, Nat.le_of_ble_eq_true rfl⟩ hS (fun H1 locs hz hk hS => ?_)
  have hP := fz_keep hP hk
  clear hk hz
  generalize H1 = H at hP hS ⊢
  have hPc := hP.sub (ws' := [(h0, .inr (1, [.long wh, .long le]))]) [0] rfl
  have hDc := hD.sub (ws' := [(h0, .inr (1, [.long wh, .long le]))]) [0] (by decide) rfl
  have hKc := hK.sub (tys' := []) [] rfl
  have hFc := va_free (wc := [(h0, .inr (1, [.long wh, .long le]))]) hD hS hA [0] rfl
  refine va_callv (va_runV (As := [.long (fz_n a1 a2), .long (fz_pt (fz_n a3 a4))]) (rest := []) ⟨hx, hb, hml, hown, hts⟩ (mr_divide l dC dI h0 H.size wh le (fz_n a1 a2) (fz_pt (fz_n a3 a4)) (fz_pt_pos _) (fz_pt_le _)) (cwV 2 hts (lw_V q100 q102 qs0 q3 q103) rfl rfl rfl (by decide +kernel) ⟨Nat.le_of_ble_eq_true rfl, Nat.le_of_ble_eq_true rfl⟩) ⟨fun a U g mk q => by obtain ⟨q0, q1, qP, qK, qD⟩ := q; exact ⟨q0, q1, qP, va_K.moved (u := U) (U := U.calling g mk a) (Vm.Alike.refl U.vm) qK, qD⟩, va_recv hKc hPc (ci := 1) (q0 := 0) rfl rfl, fun U hU hW => ⟨rfl, by rw [hU], by rw [hU]; exact hPc, va_K.moved hW.alike hKc, hDc.weaken (fun _ _ _ _ => trivial)⟩⟩ rfl rfl hl.1 rfl (lv_room (Nat.le_of_ble_eq_true rfl)) dX1_restOf_12 ⟨Nat.le_of_ble_eq_true rfl, Nat.le_of_ble_eq_true rfl⟩) hS (fun q _ h => hFc q h) hFc (fun u t H1 locs ht hvm hw hB hz1 hk1 hS => ?_)
  obtain ⟨hP1, hK1, hD1⟩ := hB
  rw [ht] at hP1
  have hK1 := va_K.moved hvm.symm hK1
  obtain ⟨hP, hD⟩ := va_join (wr := []) (w1 := [(h0, .inr (1, [.long (fz_q (fz_n a1 a2) (fz_pt (fz_n a3 a4))), .long (fz_r (fz_n a1 a2) (fz_pt (fz_n a3 a4)))]))]) hP hD [0] [] rfl rfl (by decide) (by decide) hk1 hFc hP1 hD1
  have hK := (hK.sub (tys' := []) [] rfl).app hK1
  clear hk1 hz1 hFc hP1 hD1 hPc hDc
  generalize H1 = H at hP hS ⊢
  have hP : va_P (dC, dI) vwCl [(h0, .inr (1, [.long (fz_q (fz_n a1 a2) (fz_pt (fz_n a3 a4))), .long (fz_r (fz_n a1 a2) (fz_pt (fz_n a3 a4)))]))] H := hP
  have hD : va_D A [(h0, .inr (1, [.long (fz_q (fz_n a1 a2) (fz_pt (fz_n a3 a4))), .long (fz_r (fz_n a1 a2) (fz_pt (fz_n a3 a4)))]))] := hD
  have hK : va_K (dC, dI) vwCl [] s := hK
  refine lv_aload_n hx hb dX1_restOf_15 rfl (lv_at hl 0 rfl) ?_
  refine va_get (D := (dC, dI)) (ci := 1) (v := .long (fz_r (fz_n a1 a2) (fz_pt (fz_n a3 a4)))) (C := RX1) (T := TX1) (N := 2) hx hb hts in_X1 hown hK hP 0 rfl rfl 1 (by decide) (hts _ q82) (fun _ h9 => h9) rfl dX1_restOf_16 ?_
  have hP9 := hP.sub (ws' := [(h0, .inr (1, [.long (fz_q (fz_n a1 a2) (fz_pt (fz_n a3 a4))), .long (fz_r (fz_n a1 a2) (fz_pt (fz_n a3 a4)))]))]) [0] rfl
  have hD9 := hD.sub (ws' := [(h0, .inr (1, [.long (fz_q (fz_n a1 a2) (fz_pt (fz_n a3 a4))), .long (fz_r (fz_n a1 a2) (fz_pt (fz_n a3 a4)))]))]) [0] (by decide) rfl
  have hK9 := hK.sub (tys' := []) [] rfl
  exact W.lret (v := (fz_r (fz_n a1 a2) (fz_pt (fz_n a3 a4)))) hx hb hr (fun t ht hW => ⟨⟨_, (), rfl, rfl, by rw [ht]; exact hP9, va_K.moved hW.alike hK9, hD9⟩, hS.F ht⟩) hS.2.2 dX1_restOf_19
set_option maxHeartbeats 4000000 in
set_option maxRecDepth 100000 in
/-- rest: what is left of a long by an int -/
theorem mr_rest (l : Launch) (dC : Nat → ClassId) (dI : Nat → Nat → Nat) (h0 sz : Nat) (wh le : Int64) (a1 a2 a3 : Int32) : Met l yX1_rest (ws_ yX1_rest cX1_rest 4 (some .int)) (fz_rm 1 30) (va_Pc [.ref h0, .int a1, .int a2, .int a3] (fun U => U.heap.size = sz ∧ va_P (dC, dI) vwCl [(h0, .inr (1, [.long wh, .long le]))] U.heap ∧ va_K (dC, dI) vwCl [] U ∧ va_D (fun _ => True) [(h0, .inr (1, [.long wh, .long le]))])) (va_Qi (fun (r : Int32) (_ : Unit) => r = (fz_r (fz_n a1 a2) (fz_pi a3).toInt64).toInt32) (mr_B dC dI (va_A [(h0, .inr (1, [.long wh, .long le]))] sz) h0 (fz_q (fz_n a1 a2) (fz_pi a3).toInt64) (fz_r (fz_n a1 a2) (fz_pi a3).toInt64)) (va_A [(h0, .inr (1, [.long wh, .long le]))] sz)) 0 0 (va_A [(h0, .inr (1, [.long wh, .long le]))] sz) := by
  refine Met.ofW (cc := cX1_rest) (maxL := 4) (ret := (some .int)) (by decide) rfl ?_
  intro p e s m args below meth c s₁ B hml hv
  obtain ⟨rfl, hsz, hP, hK, hD0⟩ := hv
  have hx := B.exec
  have hb := B.bytes
  have hr := B.returns
  have hts := atoms_spec (ws := ws_ yX1_rest cX1_rest 4 (some .int)) B.pre
  have hts : ∀ w ∈ lw_all, w.before _ s = true := fun w h => hts w (List.mem_cons_of_mem _ h)
  have hown : s.vm.findClass RX1 = some m.cls := findClass_of_methodNamed B.named
  have hlocks := B.notSynchronized
  subst hsz
  have hD := hD0.self (sz := s.heap.size)
  generalize hAe : va_A [(h0, .inr (1, [.long wh, .long le]))] s.heap.size = A at hD ⊢
  have hA : ∀ q : Nat, s.heap.size ≤ q → A q := fun q h => by rw [← hAe]; exact Or.inr h
  have hS : va_S A s.heap s.heap [] := va_S.rf
  have hP : va_P (dC, dI) vwCl [(h0, .inr (1, [.long wh, .long le]))] s.heap := hP
  have hl := lv_entry ([.ref h0, .int a1, .int a2, .int a3]) (n := 4) (Nat.le_of_ble_eq_true rfl)
  rw [lg_entry_eq]
  generalize (lg_sl ([.ref h0, .int a1, .int a2, .int a3]) ++ List.replicate (4 - (lg_sl ([.ref h0, .int a1, .int a2, .int a3])).length) Slot.unset).toArray = ls at hl ⊢
  have hl : lv_has ls 4 [(0, .ref h0), (1, .int a1), (2, .int a2), (3, .int a3)] := hl
  refine lv_aload_n hx hb dX1_rest_0 rfl (lv_at hl 0 rfl) ?_
  refine lv_iload_n hx hb dX1_rest_1 rfl (lv_at hl 1 rfl) ?_
  refine lv_iload_n hx hb dX1_rest_2 rfl (lv_at hl 2 rfl) ?_
  refine fz_callSl (As := [.int a1, .int a2]) (rest := [.ref h0]) (v := (fz_n a1 a2)) ⟨hx, hb, hml, hown, hts⟩ (mr_joined l a1 a2) (va_cwS 2 hts (lw_S q92 q93 q3 q94) rfl rfl rfl (by decide +kernel) ⟨Nat.le_of_ble_eq_true rfl, Nat.le_of_ble_eq_true rfl⟩) rfl hl.1 rfl (Nat.le_of_ble_eq_true rfl) dX1_rest_3 ⟨Nat.le_of_ble_eq_true rfl, Nat.le_of_ble_eq_true rfl⟩ hS (fun H1 locs hz hk hS => ?_)
  have hP := fz_keep hP hk
  clear hk hz
  generalize H1 = H at hP hS ⊢
  refine lv_iload_n hx hb dX1_rest_6 rfl (lv_at hl 3 rfl) ?_
  refine fz_callSi (As := [.int a3]) (rest := [.long (fz_n a1 a2), .ref h0]) (v := (fz_pi a3)) ⟨hx, hb, hml, hown, hts⟩ (mr_part l a3) (va_cwS 1 hts (lw_S q114 q115 q3 q116) rfl rfl rfl (by decide +kernel) ⟨Nat.le_of_ble_eq_true rfl, Nat.le_of_ble_eq_true rfl⟩) rfl hl.1 rfl (Nat.le_of_ble_eq_true rfl) dX1_rest_7 ⟨Nat.le_of_ble_eq_true rfl, Nat.le_of_ble_eq_true rfl⟩ hS (fun H1 locs hz hk hS => ?_)
  have hP := fz_keep hP hk
  clear hk hz
  generalize H1 = H at hP hS ⊢
  refine lv_i2l hx hb dX1_rest_10 rfl ?_
  have hPc := hP.sub (ws' := [(h0, .inr (1, [.long wh, .long le]))]) [0] rfl
  have hDc := hD.sub (ws' := [(h0, .inr (1, [.long wh, .long le]))]) [0] (by decide) rfl
  have hKc := hK.sub (tys' := []) [] rfl
  have hFc := va_free (wc := [(h0, .inr (1, [.long wh, .long le]))]) hD hS hA [0] rfl
  refine va_callv (va_runV (As := [.long (fz_n a1 a2), .long (fz_pi a3).toInt64]) (rest := []) ⟨hx, hb, hml, hown, hts⟩ (mr_divide l dC dI h0 H.size wh le (fz_n a1 a2) (fz_pi a3).toInt64 (fz_pl_pos _) (fz_pl_le _)) (cwV 2 hts (lw_V q100 q102 qs0 q3 q103) rfl rfl rfl (by decide +kernel) ⟨Nat.le_of_ble_eq_true rfl, Nat.le_of_ble_eq_true rfl⟩) ⟨fun a U g mk q => by obtain ⟨q0, q1, qP, qK, qD⟩ := q; exact ⟨q0, q1, qP, va_K.moved (u := U) (U := U.calling g mk a) (Vm.Alike.refl U.vm) qK, qD⟩, va_recv hKc hPc (ci := 1) (q0 := 0) rfl rfl, fun U hU hW => ⟨rfl, by rw [hU], by rw [hU]; exact hPc, va_K.moved hW.alike hKc, hDc.weaken (fun _ _ _ _ => trivial)⟩⟩ rfl rfl hl.1 rfl (lv_room (Nat.le_of_ble_eq_true rfl)) dX1_rest_11 ⟨Nat.le_of_ble_eq_true rfl, Nat.le_of_ble_eq_true rfl⟩) hS (fun q _ h => hFc q h) hFc (fun u t H1 locs ht hvm hw hB hz1 hk1 hS => ?_)
  obtain ⟨hP1, hK1, hD1⟩ := hB
  rw [ht] at hP1
  have hK1 := va_K.moved hvm.symm hK1
  obtain ⟨hP, hD⟩ := va_join (wr := []) (w1 := [(h0, .inr (1, [.long (fz_q (fz_n a1 a2) (fz_pi a3).toInt64), .long (fz_r (fz_n a1 a2) (fz_pi a3).toInt64)]))]) hP hD [0] [] rfl rfl (by decide) (by decide) hk1 hFc hP1 hD1
  have hK := (hK.sub (tys' := []) [] rfl).app hK1
  clear hk1 hz1 hFc hP1 hD1 hPc hDc
  generalize H1 = H at hP hS ⊢
  have hP : va_P (dC, dI) vwCl [(h0, .inr (1, [.long (fz_q (fz_n a1 a2) (fz_pi a3).toInt64), .long (fz_r (fz_n a1 a2) (fz_pi a3).toInt64)]))] H := hP
  have hD : va_D A [(h0, .inr (1, [.long (fz_q (fz_n a1 a2) (fz_pi a3).toInt64), .long (fz_r (fz_n a1 a2) (fz_pi a3).toInt64)]))] := hD
  have hK : va_K (dC, dI) vwCl [] s := hK
  refine lv_aload_n hx hb dX1_rest_14 rfl (lv_at hl 0 rfl) ?_
  refine va_get (D := (dC, dI)) (ci := 1) (v := .long (fz_r (fz_n a1 a2) (fz_pi a3).toInt64)) (C := RX1) (T := TX1) (N := 2) hx hb hts in_X1 hown hK hP 0 rfl rfl 1 (by decide) (hts _ q82) (fun _ h9 => h9) rfl dX1_rest_15 ?_
  refine lv_l2i hx hb dX1_rest_18 rfl ?_
  have hP9 := hP.sub (ws' := [(h0, .inr (1, [.long (fz_q (fz_n a1 a2) (fz_pi a3).toInt64), .long (fz_r (fz_n a1 a2) (fz_pi a3).toInt64)]))]) [0] rfl
  have hD9 := hD.sub (ws' := [(h0, .inr (1, [.long (fz_q (fz_n a1 a2) (fz_pi a3).toInt64), .long (fz_r (fz_n a1 a2) (fz_pi a3).toInt64)]))]) [0] (by decide) rfl
  have hK9 := hK.sub (tys' := []) [] rfl
  exact W.iret (v := (fz_r (fz_n a1 a2) (fz_pi a3).toInt64).toInt32) hx hb hr (fun t ht hW => ⟨⟨_, (), rfl, rfl, by rw [ht]; exact hP9, va_K.moved hW.alike hK9, hD9⟩, hS.F ht⟩) hS.2.2 dX1_rest_19
set_option maxHeartbeats 4000000 in
set_option maxRecDepth 100000 in
/-- floor of two ints -/
theorem mr_floor (l : Launch) (dC : Nat → ClassId) (dI : Nat → Nat → Nat) (h0 sz : Nat) (wh le : Int64) (a1 a2 : Int32) : Met l yX1_floor (ws_ yX1_floor cX1_floor 3 (some .int)) (fz_rm 1 30) (va_Pc [.ref h0, .int a1, .int a2] (fun U => U.heap.size = sz ∧ va_P (dC, dI) vwCl [(h0, .inr (1, [.long wh, .long le]))] U.heap ∧ va_K (dC, dI) vwCl [] U ∧ va_D (fun _ => True) [(h0, .inr (1, [.long wh, .long le]))])) (va_Qi (fun (r : Int32) (_ : Unit) => r = (fz_q a1.toInt64 (fz_pi a2).toInt64).toInt32) (mr_B dC dI (va_A [(h0, .inr (1, [.long wh, .long le]))] sz) h0 (fz_q a1.toInt64 (fz_pi a2).toInt64) (fz_r a1.toInt64 (fz_pi a2).toInt64)) (va_A [(h0, .inr (1, [.long wh, .long le]))] sz)) 0 0 (va_A [(h0, .inr (1, [.long wh, .long le]))] sz) := by
  refine Met.ofW (cc := cX1_floor) (maxL := 3) (ret := (some .int)) (by decide) rfl ?_
  intro p e s m args below meth c s₁ B hml hv
  obtain ⟨rfl, hsz, hP, hK, hD0⟩ := hv
  have hx := B.exec
  have hb := B.bytes
  have hr := B.returns
  have hts := atoms_spec (ws := ws_ yX1_floor cX1_floor 3 (some .int)) B.pre
  have hts : ∀ w ∈ lw_all, w.before _ s = true := fun w h => hts w (List.mem_cons_of_mem _ h)
  have hown : s.vm.findClass RX1 = some m.cls := findClass_of_methodNamed B.named
  have hlocks := B.notSynchronized
  subst hsz
  have hD := hD0.self (sz := s.heap.size)
  generalize hAe : va_A [(h0, .inr (1, [.long wh, .long le]))] s.heap.size = A at hD ⊢
  have hA : ∀ q : Nat, s.heap.size ≤ q → A q := fun q h => by rw [← hAe]; exact Or.inr h
  have hS : va_S A s.heap s.heap [] := va_S.rf
  have hP : va_P (dC, dI) vwCl [(h0, .inr (1, [.long wh, .long le]))] s.heap := hP
  have hl := lv_entry ([.ref h0, .int a1, .int a2]) (n := 3) (Nat.le_of_ble_eq_true rfl)
  rw [lg_entry_eq]
  generalize (lg_sl ([.ref h0, .int a1, .int a2]) ++ List.replicate (3 - (lg_sl ([.ref h0, .int a1, .int a2])).length) Slot.unset).toArray = ls at hl ⊢
  have hl : lv_has ls 3 [(0, .ref h0), (1, .int a1), (2, .int a2)] := hl
  refine lv_aload_n hx hb dX1_floor_0 rfl (lv_at hl 0 rfl) ?_
  refine lv_iload_n hx hb dX1_floor_1 rfl (lv_at hl 1 rfl) ?_
  refine lv_i2l hx hb dX1_floor_2 rfl ?_
  refine lv_iload_n hx hb dX1_floor_3 rfl (lv_at hl 2 rfl) ?_
  refine fz_callSi (As := [.int a2]) (rest := [.long a1.toInt64, .ref h0]) (v := (fz_pi a2)) ⟨hx, hb, hml, hown, hts⟩ (mr_part l a2) (va_cwS 1 hts (lw_S q114 q115 q3 q116) rfl rfl rfl (by decide +kernel) ⟨Nat.le_of_ble_eq_true rfl, Nat.le_of_ble_eq_true rfl⟩) rfl hl.1 rfl (Nat.le_of_ble_eq_true rfl) dX1_floor_4 ⟨Nat.le_of_ble_eq_true rfl, Nat.le_of_ble_eq_true rfl⟩ hS (fun H1 locs hz hk hS => ?_)
  have hP := fz_keep hP hk
  clear hk hz
  generalize H1 = H at hP hS ⊢
  refine lv_i2l hx hb dX1_floor_7 rfl ?_
  have hPc := hP.sub (ws' := [(h0, .inr (1, [.long wh, .long le]))]) [0] rfl
  have hDc := hD.sub (ws' := [(h0, .inr (1, [.long wh, .long le]))]) [0] (by decide) rfl
  have hKc := hK.sub (tys' := []) [] rfl
  have hFc := va_free (wc := [(h0, .inr (1, [.long wh, .long le]))]) hD hS hA [0] rfl
  refine va_callv (va_runV (As := [.long a1.toInt64, .long (fz_pi a2).toInt64]) (rest := []) ⟨hx, hb, hml, hown, hts⟩ (mr_divide l dC dI h0 H.size wh le a1.toInt64 (fz_pi a2).toInt64 (fz_pl_pos _) (fz_pl_le _)) (cwV 2 hts (lw_V q100 q102 qs0 q3 q103) rfl rfl rfl (by decide +kernel) ⟨Nat.le_of_ble_eq_true rfl, Nat.le_of_ble_eq_true rfl⟩) ⟨fun a U g mk q => by obtain ⟨q0, q1, qP, qK, qD⟩ := q; exact ⟨q0, q1, qP, va_K.moved (u := U) (U := U.calling g mk a) (Vm.Alike.refl U.vm) qK, qD⟩, va_recv hKc hPc (ci := 1) (q0 := 0) rfl rfl, fun U hU hW => ⟨rfl, by rw [hU], by rw [hU]; exact hPc, va_K.moved hW.alike hKc, hDc.weaken (fun _ _ _ _ => trivial)⟩⟩ rfl rfl hl.1 rfl (lv_room (Nat.le_of_ble_eq_true rfl)) dX1_floor_8 ⟨Nat.le_of_ble_eq_true rfl, Nat.le_of_ble_eq_true rfl⟩) hS (fun q _ h => hFc q h) hFc (fun u t H1 locs ht hvm hw hB hz1 hk1 hS => ?_)
  obtain ⟨hP1, hK1, hD1⟩ := hB
  rw [ht] at hP1
  have hK1 := va_K.moved hvm.symm hK1
  obtain ⟨hP, hD⟩ := va_join (wr := []) (w1 := [(h0, .inr (1, [.long (fz_q a1.toInt64 (fz_pi a2).toInt64), .long (fz_r a1.toInt64 (fz_pi a2).toInt64)]))]) hP hD [0] [] rfl rfl (by decide) (by decide) hk1 hFc hP1 hD1
  have hK := (hK.sub (tys' := []) [] rfl).app hK1
  clear hk1 hz1 hFc hP1 hD1 hPc hDc
  generalize H1 = H at hP hS ⊢
  have hP : va_P (dC, dI) vwCl [(h0, .inr (1, [.long (fz_q a1.toInt64 (fz_pi a2).toInt64), .long (fz_r a1.toInt64 (fz_pi a2).toInt64)]))] H := hP
  have hD : va_D A [(h0, .inr (1, [.long (fz_q a1.toInt64 (fz_pi a2).toInt64), .long (fz_r a1.toInt64 (fz_pi a2).toInt64)]))] := hD
  have hK : va_K (dC, dI) vwCl [] s := hK
  refine lv_aload_n hx hb dX1_floor_11 rfl (lv_at hl 0 rfl) ?_
  refine va_get (D := (dC, dI)) (ci := 1) (v := .long (fz_q a1.toInt64 (fz_pi a2).toInt64)) (C := RX1) (T := TX1) (N := 2) hx hb hts in_X1 hown hK hP 0 rfl rfl 0 (by decide) (hts _ q81) (fun _ h9 => h9) rfl dX1_floor_12 ?_
  refine lv_l2i hx hb dX1_floor_15 rfl ?_
  have hP9 := hP.sub (ws' := [(h0, .inr (1, [.long (fz_q a1.toInt64 (fz_pi a2).toInt64), .long (fz_r a1.toInt64 (fz_pi a2).toInt64)]))]) [0] rfl
  have hD9 := hD.sub (ws' := [(h0, .inr (1, [.long (fz_q a1.toInt64 (fz_pi a2).toInt64), .long (fz_r a1.toInt64 (fz_pi a2).toInt64)]))]) [0] (by decide) rfl
  have hK9 := hK.sub (tys' := []) [] rfl
  exact W.iret (v := (fz_q a1.toInt64 (fz_pi a2).toInt64).toInt32) hx hb hr (fun t ht hW => ⟨⟨_, (), rfl, rfl, by rw [ht]; exact hP9, va_K.moved hW.alike hK9, hD9⟩, hS.F ht⟩) hS.2.2 dX1_floor_16
set_option maxHeartbeats 4000000 in
set_option maxRecDepth 100000 in
/-- modulo of two ints -/
theorem mr_modulo (l : Launch) (dC : Nat → ClassId) (dI : Nat → Nat → Nat) (h0 sz : Nat) (wh le : Int64) (a1 a2 : Int32) : Met l yX1_modulo (ws_ yX1_modulo cX1_modulo 3 (some .int)) (fz_rm 1 30) (va_Pc [.ref h0, .int a1, .int a2] (fun U => U.heap.size = sz ∧ va_P (dC, dI) vwCl [(h0, .inr (1, [.long wh, .long le]))] U.heap ∧ va_K (dC, dI) vwCl [] U ∧ va_D (fun _ => True) [(h0, .inr (1, [.long wh, .long le]))])) (va_Qi (fun (r : Int32) (_ : Unit) => r = (fz_r a1.toInt64 (fz_pi a2).toInt64).toInt32) (mr_B dC dI (va_A [(h0, .inr (1, [.long wh, .long le]))] sz) h0 (fz_q a1.toInt64 (fz_pi a2).toInt64) (fz_r a1.toInt64 (fz_pi a2).toInt64)) (va_A [(h0, .inr (1, [.long wh, .long le]))] sz)) 0 0 (va_A [(h0, .inr (1, [.long wh, .long le]))] sz) := by
  refine Met.ofW (cc := cX1_modulo) (maxL := 3) (ret := (some .int)) (by decide) rfl ?_
  intro p e s m args below meth c s₁ B hml hv
  obtain ⟨rfl, hsz, hP, hK, hD0⟩ := hv
  have hx := B.exec
  have hb := B.bytes
  have hr := B.returns
  have hts := atoms_spec (ws := ws_ yX1_modulo cX1_modulo 3 (some .int)) B.pre
  have hts : ∀ w ∈ lw_all, w.before _ s = true := fun w h => hts w (List.mem_cons_of_mem _ h)
  have hown : s.vm.findClass RX1 = some m.cls := findClass_of_methodNamed B.named
  have hlocks := B.notSynchronized
  subst hsz
  have hD := hD0.self (sz := s.heap.size)
  generalize hAe : va_A [(h0, .inr (1, [.long wh, .long le]))] s.heap.size = A at hD ⊢
  have hA : ∀ q : Nat, s.heap.size ≤ q → A q := fun q h => by rw [← hAe]; exact Or.inr h
  have hS : va_S A s.heap s.heap [] := va_S.rf
  have hP : va_P (dC, dI) vwCl [(h0, .inr (1, [.long wh, .long le]))] s.heap := hP
  have hl := lv_entry ([.ref h0, .int a1, .int a2]) (n := 3) (Nat.le_of_ble_eq_true rfl)
  rw [lg_entry_eq]
  generalize (lg_sl ([.ref h0, .int a1, .int a2]) ++ List.replicate (3 - (lg_sl ([.ref h0, .int a1, .int a2])).length) Slot.unset).toArray = ls at hl ⊢
  have hl : lv_has ls 3 [(0, .ref h0), (1, .int a1), (2, .int a2)] := hl
  refine lv_aload_n hx hb dX1_modulo_0 rfl (lv_at hl 0 rfl) ?_
  refine lv_iload_n hx hb dX1_modulo_1 rfl (lv_at hl 1 rfl) ?_
  refine lv_i2l hx hb dX1_modulo_2 rfl ?_
  refine lv_iload_n hx hb dX1_modulo_3 rfl (lv_at hl 2 rfl) ?_
  refine fz_callSi (As := [.int a2]) (rest := [.long a1.toInt64, .ref h0]) (v := (fz_pi a2)) ⟨hx, hb, hml, hown, hts⟩ (mr_part l a2) (va_cwS 1 hts (lw_S q114 q115 q3 q116) rfl rfl rfl (by decide +kernel) ⟨Nat.le_of_ble_eq_true rfl, Nat.le_of_ble_eq_true rfl⟩) rfl hl.1 rfl (Nat.le_of_ble_eq_true rfl) dX1_modulo_4 ⟨Nat.le_of_ble_eq_true rfl, Nat.le_of_ble_eq_true rfl⟩ hS (fun H1 locs hz hk hS => ?_)
  have hP := fz_keep hP hk
  clear hk hz
  generalize H1 = H at hP hS ⊢
  refine lv_i2l hx hb dX1_modulo_7 rfl ?_
  have hPc := hP.sub (ws' := [(h0, .inr (1, [.long wh, .long le]))]) [0] rfl
  have hDc := hD.sub (ws' := [(h0, .inr (1, [.long wh, .long le]))]) [0] (by decide) rfl
  have hKc := hK.sub (tys' := []) [] rfl
  have hFc := va_free (wc := [(h0, .inr (1, [.long wh, .long le]))]) hD hS hA [0] rfl
  refine va_callv (va_runV (As := [.long a1.toInt64, .long (fz_pi a2).toInt64]) (rest := []) ⟨hx, hb, hml, hown, hts⟩ (mr_divide l dC dI h0 H.size wh le a1.toInt64 (fz_pi a2).toInt64 (fz_pl_pos _) (fz_pl_le _)) (cwV 2 hts (lw_V q100 q102 qs0 q3 q103) rfl rfl rfl (by decide +kernel) ⟨Nat.le_of_ble_eq_true rfl, Nat.le_of_ble_eq_true rfl⟩) ⟨fun a U g mk q => by obtain ⟨q0, q1, qP, qK, qD⟩ := q; exact ⟨q0, q1, qP, va_K.moved (u := U) (U := U.calling g mk a) (Vm.Alike.refl U.vm) qK, qD⟩, va_recv hKc hPc (ci := 1) (q0 := 0) rfl rfl, fun U hU hW => ⟨rfl, by rw [hU], by rw [hU]; exact hPc, va_K.moved hW.alike hKc, hDc.weaken (fun _ _ _ _ => trivial)⟩⟩ rfl rfl hl.1 rfl (lv_room (Nat.le_of_ble_eq_true rfl)) dX1_modulo_8 ⟨Nat.le_of_ble_eq_true rfl, Nat.le_of_ble_eq_true rfl⟩) hS (fun q _ h => hFc q h) hFc (fun u t H1 locs ht hvm hw hB hz1 hk1 hS => ?_)
  obtain ⟨hP1, hK1, hD1⟩ := hB
  rw [ht] at hP1
  have hK1 := va_K.moved hvm.symm hK1
  obtain ⟨hP, hD⟩ := va_join (wr := []) (w1 := [(h0, .inr (1, [.long (fz_q a1.toInt64 (fz_pi a2).toInt64), .long (fz_r a1.toInt64 (fz_pi a2).toInt64)]))]) hP hD [0] [] rfl rfl (by decide) (by decide) hk1 hFc hP1 hD1
  have hK := (hK.sub (tys' := []) [] rfl).app hK1
  clear hk1 hz1 hFc hP1 hD1 hPc hDc
  generalize H1 = H at hP hS ⊢
  have hP : va_P (dC, dI) vwCl [(h0, .inr (1, [.long (fz_q a1.toInt64 (fz_pi a2).toInt64), .long (fz_r a1.toInt64 (fz_pi a2).toInt64)]))] H := hP
  have hD : va_D A [(h0, .inr (1, [.long (fz_q a1.toInt64 (fz_pi a2).toInt64), .long (fz_r a1.toInt64 (fz_pi a2).toInt64)]))] := hD
  have hK : va_K (dC, dI) vwCl [] s := hK
  refine lv_aload_n hx hb dX1_modulo_11 rfl (lv_at hl 0 rfl) ?_
  refine va_get (D := (dC, dI)) (ci := 1) (v := .long (fz_r a1.toInt64 (fz_pi a2).toInt64)) (C := RX1) (T := TX1) (N := 2) hx hb hts in_X1 hown hK hP 0 rfl rfl 1 (by decide) (hts _ q82) (fun _ h9 => h9) rfl dX1_modulo_12 ?_
  refine lv_l2i hx hb dX1_modulo_15 rfl ?_
  have hP9 := hP.sub (ws' := [(h0, .inr (1, [.long (fz_q a1.toInt64 (fz_pi a2).toInt64), .long (fz_r a1.toInt64 (fz_pi a2).toInt64)]))]) [0] rfl
  have hD9 := hD.sub (ws' := [(h0, .inr (1, [.long (fz_q a1.toInt64 (fz_pi a2).toInt64), .long (fz_r a1.toInt64 (fz_pi a2).toInt64)]))]) [0] (by decide) rfl
  have hK9 := hK.sub (tys' := []) [] rfl
  exact W.iret (v := (fz_r a1.toInt64 (fz_pi a2).toInt64).toInt32) hx hb hr (fun t ht hW => ⟨⟨_, (), rfl, rfl, by rw [ht]; exact hP9, va_K.moved hW.alike hK9, hD9⟩, hS.F ht⟩) hS.2.2 dX1_modulo_16
end
section
/-! THE CLAIM OUT OF ONE WALK OF THE LAW'S BODY. Your part is whole_start (and what it stands on); all else here is the same for every law, but numbers. -/
def R_law : String := "FloorDeskLaw"
def lw_P (b : Addr) (xs : List Int32) (args : Array Value) (s : State) : Prop := args = #[.ref b] ∧ s.IntsAt b xs ∧ xs.length ≤ 288 ∧ (Jvm.Cond.and given_1 narrow_1).before args s = true
def lw_Q (_ : Array Value) (s : State) (o : Outcome) (t : State) : Prop := o = .returned (some (.int 1)) ∧ Framed s o t [] 600000 7290000
def lw_Z (below : List Frame) (a : Array Value) (s : State) : State → Prop := fun t => ∃ o, t.status = .running ∧ Ended t below o ∧ lw_Q a s o t
/-- the law's own end, with 1 on the stack, nothing written that was there before, its room as the claim has it -/
theorem lw_ret {p : Program} {l : Launch} {e : Env} {s : State} {m : MethodId} {below : List Frame} {meth : Method} {c : Code} {b : Nat} (hx : p.tables.exec = Jvm.exec) (hb : c.code = code) (hr : meth.sig.returnType = ret) (hlocks : meth.locks = false) {pc : Nat} {H : Heap} {ls : Array Slot} (hdg : decode code pc = .ok (.ireturn, 1)) : W p l e room_1 s m #[Value.ref b] below meth c H [] 600000 7290000 (lw_Z below #[Value.ref b] s) (F0 m pc ls [.int 1]) := by
  intro T hT X
  obtain ⟨fs, hret, hrun, hended, hW, hframe⟩ := X.leave (v := some (.int 1)) (hlocks := hlocks) (fun h => by rw [hr] at h; cases h)
  have hmeth' : T.vm.method? m = some meth := X.method'
  refine ⟨T.setFrames fs, ?_, .returned (some (.int 1)), hrun, hended, rfl, ⟨_, rfl⟩, hW, hframe⟩
  jvm_step X.here [X.here.top, hx, hb, hdg, hmeth', hr, ret, narrow_b1]
  (try refine ⟨rfl, ?_⟩); (try refine ⟨rfl, ?_⟩)
  first | (intro acts; rw [hret _ acts rfl rfl rfl]) | rw [hret _ _ rfl rfl rfl]
  exact Steps.refl _
/-- what holds at the law's entry: the machine, the code, the tables' words (any of lw_tbl by 'hts w (by decide +kernel)'), the script of L ints xs at the cell b, what the Statement gives of the start (any of its parts by flat_of_before) -/
def lw_At (p : Program) (s : State) (m : MethodId) (meth : Method) (c : Code) (b L : Nat) (xs : Nat → Int32) : Prop :=
  p.tables.exec = Jvm.exec ∧ c.code = code ∧ meth.sig.returnType = ret ∧ c.maxLocals = 4 ∧ s.vm.findClass R_law = some m.cls ∧ (∀ w ∈ lw_tbl, w.before #[Value.ref b] s = true) ∧ va_X b L xs s s.heap ∧ b < s.heap.size ∧ meth.locks = false ∧ (Jvm.Cond.and given_1 narrow_1).before #[Value.ref b] s = true
end
section
/-! THE LAW: a case each of its switch; K is what goes on behind it -/
theorem fz_vp {x k : Int32} {i j L : Nat} (hx : x.toInt = (i : Int)) (hk : k.toInt = (j : Int)) (h : i + j < L) (hL : L ≤ 288) : vp_in (x + k) L := vp_in_iff.mpr (by rw [Jvm.Kit.i32_add (by omega) (by omega)]; omega)
set_option maxHeartbeats 4000000 in
set_option maxRecDepth 100000 in
/-- the case floorOf: both sides answer one value -/
theorem lc_floorOf {p : Program} {l : Launch} {e : Env} {s : State} {m : MethodId} {below : List Frame} {meth : Method} {c : Code} {dC : Nat → ClassId} {dI : Nat → Nat → Nat} {b L : Nat} {xs : Nat → Int32} {Q : State → Prop} (hx : p.tables.exec = Jvm.exec) (hb : c.code = code) (hml : c.maxLocals = 4) (hown : s.vm.findClass R_law = some m.cls) (hts : ∀ w ∈ lw_all, w.before #[Value.ref b] s = true) (hX : va_X b L xs s s.heap) (hbl : b < s.heap.size) (hK : va_K (dC, dI) vwCl [] s) {x3 : Int32} (i1 : vp_in (x3 + 1) L) (i2 : vp_in (x3 + 2) L) (i3 : vp_in (x3 + 3) L) (i4 : vp_in (x3 + 4) L) {qx qm : Nat} {wh le : Int64} {H : Heap} {locs : List Loc} (hP : va_P (dC, dI) vwCl [(qx, .inr (0, [])), (qm, .inr (1, [.long wh, .long le]))] H) (hD : va_D (fun q : Nat => s.heap.size ≤ q) [(qx, .inr (0, [])), (qm, .inr (1, [.long wh, .long le]))]) (hS : va_S (fun q : Nat => s.heap.size ≤ q) s.heap H locs) {ls : Array Slot} (hl : lv_has ls 4 [(0, .ref b), (1, .ref qx), (2, .ref qm), (3, .int x3)])
    (K : ∀ (wh le : Int64) (H : Heap) (locs : List Loc), va_P (dC, dI) vwCl [(qx, .inr (0, [])), (qm, .inr (1, [.long wh, .long le]))] H → va_D (fun q : Nat => s.heap.size ≤ q) [(qx, .inr (0, [])), (qm, .inr (1, [.long wh, .long le]))] → va_S (fun q : Nat => s.heap.size ≤ q) s.heap H locs → W p l e room_1 s m #[Value.ref b] below meth c H locs 2 2 Q (F0 m 379 ls [])) : W p l e room_1 s m #[Value.ref b] below meth c H locs 2 2 Q (F0 m 76 ls []) := by
  have hA : ∀ q : Nat, s.heap.size ≤ q → (fun q : Nat => s.heap.size ≤ q) q := fun _ h => h
  have hbA : ¬ (fun q : Nat => s.heap.size ≤ q) b := Nat.not_le.mpr hbl
  refine lv_aload_n hx hb dL_law_76 rfl (lv_at hl 1 rfl) ?_
  refine lv_aload_n hx hb dL_law_77 rfl (lv_at hl 0 rfl) ?_
  refine lv_iload_n hx hb dL_law_78 rfl (lv_at hl 3 rfl) ?_
  refine lv_iconst (v := 1) hx hb dL_law_79 (by decide) ?_
  refine lv_iadd hx hb dL_law_80 ?_
  refine va_sld hx hb hX hbl hbA hS i1 dL_law_81 ?_
  refine lv_aload_n hx hb dL_law_82 rfl (lv_at hl 0 rfl) ?_
  refine lv_iload_n hx hb dL_law_83 rfl (lv_at hl 3 rfl) ?_
  refine lv_iconst (v := 2) hx hb dL_law_84 (by decide) ?_
  refine lv_iadd hx hb dL_law_85 ?_
  refine va_sld hx hb hX hbl hbA hS i2 dL_law_86 ?_
  refine lv_aload_n hx hb dL_law_87 rfl (lv_at hl 0 rfl) ?_
  refine lv_iload_n hx hb dL_law_88 rfl (lv_at hl 3 rfl) ?_
  refine lv_iconst (v := 3) hx hb dL_law_89 (by decide) ?_
  refine lv_iadd hx hb dL_law_90 ?_
  refine va_sld hx hb hX hbl hbA hS i3 dL_law_91 ?_
  refine lv_aload_n hx hb dL_law_92 rfl (lv_at hl 0 rfl) ?_
  refine lv_iload_n hx hb dL_law_93 rfl (lv_at hl 3 rfl) ?_
  refine lv_iconst (v := 4) hx hb dL_law_94 (by decide) ?_
  refine lv_iadd hx hb dL_law_95 ?_
  refine va_sld hx hb hX hbl hbA hS i4 dL_law_96 ?_
  refine fz_callVl (b := qx) (As := [.int (xs (x3 + 1).toNatClampNeg), .int (xs (x3 + 2).toNatClampNeg), .int (xs (x3 + 3).toNatClampNeg), .int (xs (x3 + 4).toNatClampNeg)]) (rest := []) (v := (fz_q (fz_n (xs (x3 + 1).toNatClampNeg) (xs (x3 + 2).toNatClampNeg)) (fz_pt (fz_n (xs (x3 + 3).toNatClampNeg) (xs (x3 + 4).toNatClampNeg))))) ⟨hx, hb, hml, hown, hts⟩ (mf_floorOf l qx (xs (x3 + 1).toNatClampNeg) (xs (x3 + 2).toNatClampNeg) (xs (x3 + 3).toNatClampNeg) (xs (x3 + 4).toNatClampNeg)) (cwV 4 hts (lw_V q14 q15 q16 q2 q17) rfl rfl rfl (by decide +kernel) ⟨Nat.le_of_ble_eq_true rfl, Nat.le_of_ble_eq_true rfl⟩) (va_recv hK hP (ci := 0) (q0 := 0) rfl rfl) rfl hl.1 rfl (Nat.le_of_ble_eq_true rfl) dL_law_97 ⟨Nat.le_of_ble_eq_true rfl, Nat.le_of_ble_eq_true rfl⟩ hS (fun H1 locs hz hk hS => ?_)
  have hP := fz_keep hP hk
  clear hk hz
  generalize H1 = H at hP hS ⊢
  refine lv_aload_n hx hb dL_law_100 rfl (lv_at hl 2 rfl) ?_
  refine lv_aload_n hx hb dL_law_101 rfl (lv_at hl 0 rfl) ?_
  refine lv_iload_n hx hb dL_law_102 rfl (lv_at hl 3 rfl) ?_
  refine lv_iconst (v := 1) hx hb dL_law_103 (by decide) ?_
  refine lv_iadd hx hb dL_law_104 ?_
  refine va_sld hx hb hX hbl hbA hS i1 dL_law_105 ?_
  refine lv_aload_n hx hb dL_law_106 rfl (lv_at hl 0 rfl) ?_
  refine lv_iload_n hx hb dL_law_107 rfl (lv_at hl 3 rfl) ?_
  refine lv_iconst (v := 2) hx hb dL_law_108 (by decide) ?_
  refine lv_iadd hx hb dL_law_109 ?_
  refine va_sld hx hb hX hbl hbA hS i2 dL_law_110 ?_
  refine lv_aload_n hx hb dL_law_111 rfl (lv_at hl 0 rfl) ?_
  refine lv_iload_n hx hb dL_law_112 rfl (lv_at hl 3 rfl) ?_
  refine lv_iconst (v := 3) hx hb dL_law_113 (by decide) ?_
  refine lv_iadd hx hb dL_law_114 ?_
  refine va_sld hx hb hX hbl hbA hS i3 dL_law_115 ?_
  refine lv_aload_n hx hb dL_law_116 rfl (lv_at hl 0 rfl) ?_
  refine lv_iload_n hx hb dL_law_117 rfl (lv_at hl 3 rfl) ?_
  refine lv_iconst (v := 4) hx hb dL_law_118 (by decide) ?_
  refine lv_iadd hx hb dL_law_119 ?_
  refine va_sld hx hb hX hbl hbA hS i4 dL_law_120 ?_
  have hPc := hP.sub (ws' := [(qm, .inr (1, [.long wh, .long le]))]) [1] rfl
  have hDc := hD.sub (ws' := [(qm, .inr (1, [.long wh, .long le]))]) [1] (by decide) rfl
  have hKc := hK.sub (tys' := []) [] rfl
  have hFc := va_free (wc := [(qm, .inr (1, [.long wh, .long le]))]) hD hS hA [1] rfl
  refine va_calll (va_runV (As := [.int (xs (x3 + 1).toNatClampNeg), .int (xs (x3 + 2).toNatClampNeg), .int (xs (x3 + 3).toNatClampNeg), .int (xs (x3 + 4).toNatClampNeg)]) (rest := [.long (fz_q (fz_n (xs (x3 + 1).toNatClampNeg) (xs (x3 + 2).toNatClampNeg)) (fz_pt (fz_n (xs (x3 + 3).toNatClampNeg) (xs (x3 + 4).toNatClampNeg))))]) ⟨hx, hb, hml, hown, hts⟩ (mr_floorOf l dC dI qm H.size wh le (xs (x3 + 1).toNatClampNeg) (xs (x3 + 2).toNatClampNeg) (xs (x3 + 3).toNatClampNeg) (xs (x3 + 4).toNatClampNeg)) (cwV 4 hts (lw_V q88 q89 q90 q3 q91) rfl rfl rfl (by decide +kernel) ⟨Nat.le_of_ble_eq_true rfl, Nat.le_of_ble_eq_true rfl⟩) ⟨fun a U g mk q => by obtain ⟨q0, q1, qP, qK, qD⟩ := q; exact ⟨q0, q1, qP, va_K.moved (u := U) (U := U.calling g mk a) (Vm.Alike.refl U.vm) qK, qD⟩, va_recv hKc hPc (ci := 1) (q0 := 0) rfl rfl, fun U hU hW => ⟨rfl, by rw [hU], by rw [hU]; exact hPc, va_K.moved hW.alike hKc, hDc.weaken (fun _ _ _ _ => trivial)⟩⟩ rfl rfl hl.1 rfl (lv_room (Nat.le_of_ble_eq_true rfl)) dL_law_121 ⟨Nat.le_of_ble_eq_true rfl, Nat.le_of_ble_eq_true rfl⟩) hS (fun q _ h => hFc q h) hFc (fun r u t H1 locs ht hvm hw hB hz1 hk1 hS => ?_)
  have hw : r = (fz_q (fz_n (xs (x3 + 1).toNatClampNeg) (xs (x3 + 2).toNatClampNeg)) (fz_pt (fz_n (xs (x3 + 3).toNatClampNeg) (xs (x3 + 4).toNatClampNeg)))) := hw
  rw [hw]
  obtain ⟨hP1, hK1, hD1⟩ := hB
  rw [ht] at hP1
  obtain ⟨hP, hD⟩ := va_join (wr := [(qx, .inr (0, []))]) (w1 := [(qm, .inr (1, [.long (fz_q (fz_n (xs (x3 + 1).toNatClampNeg) (xs (x3 + 2).toNatClampNeg)) (fz_pt (fz_n (xs (x3 + 3).toNatClampNeg) (xs (x3 + 4).toNatClampNeg)))), .long (fz_r (fz_n (xs (x3 + 1).toNatClampNeg) (xs (x3 + 2).toNatClampNeg)) (fz_pt (fz_n (xs (x3 + 3).toNatClampNeg) (xs (x3 + 4).toNatClampNeg))))]))]) hP hD [1] [0] rfl rfl (by decide) (by decide) hk1 hFc hP1 hD1
  clear hk1 hz1 hFc hP1 hD1 hPc hDc
  generalize H1 = H at hP hS ⊢
  refine W.lcmp hx hb dL_law_124 ?_
  refine lv_if_eq (tgt := 379) hx hb dL_law_125 (by decide) (fun c1 => ?_) (fun c1 => ?_)
  · exact K _ _ H locs hP hD hS
  · exact absurd ((lg_cmp_eq (fz_q (fz_n (xs (x3 + 1).toNatClampNeg) (xs (x3 + 2).toNatClampNeg)) (fz_pt (fz_n (xs (x3 + 3).toNatClampNeg) (xs (x3 + 4).toNatClampNeg)))) (fz_q (fz_n (xs (x3 + 1).toNatClampNeg) (xs (x3 + 2).toNatClampNeg)) (fz_pt (fz_n (xs (x3 + 3).toNatClampNeg) (xs (x3 + 4).toNatClampNeg))))).mpr rfl) c1
set_option maxHeartbeats 4000000 in
set_option maxRecDepth 100000 in
/-- the case restOf: both sides answer one value -/
theorem lc_restOf {p : Program} {l : Launch} {e : Env} {s : State} {m : MethodId} {below : List Frame} {meth : Method} {c : Code} {dC : Nat → ClassId} {dI : Nat → Nat → Nat} {b L : Nat} {xs : Nat → Int32} {Q : State → Prop} (hx : p.tables.exec = Jvm.exec) (hb : c.code = code) (hml : c.maxLocals = 4) (hown : s.vm.findClass R_law = some m.cls) (hts : ∀ w ∈ lw_all, w.before #[Value.ref b] s = true) (hX : va_X b L xs s s.heap) (hbl : b < s.heap.size) (hK : va_K (dC, dI) vwCl [] s) {x3 : Int32} (i1 : vp_in (x3 + 1) L) (i2 : vp_in (x3 + 2) L) (i3 : vp_in (x3 + 3) L) (i4 : vp_in (x3 + 4) L) {qx qm : Nat} {wh le : Int64} {H : Heap} {locs : List Loc} (hP : va_P (dC, dI) vwCl [(qx, .inr (0, [])), (qm, .inr (1, [.long wh, .long le]))] H) (hD : va_D (fun q : Nat => s.heap.size ≤ q) [(qx, .inr (0, [])), (qm, .inr (1, [.long wh, .long le]))]) (hS : va_S (fun q : Nat => s.heap.size ≤ q) s.heap H locs) {ls : Array Slot} (hl : lv_has ls 4 [(0, .ref b), (1, .ref qx), (2, .ref qm), (3, .int x3)])
    (K : ∀ (wh le : Int64) (H : Heap) (locs : List Loc), va_P (dC, dI) vwCl [(qx, .inr (0, [])), (qm, .inr (1, [.long wh, .long le]))] H → va_D (fun q : Nat => s.heap.size ≤ q) [(qx, .inr (0, [])), (qm, .inr (1, [.long wh, .long le]))] → va_S (fun q : Nat => s.heap.size ≤ q) s.heap H locs → W p l e room_1 s m #[Value.ref b] below meth c H locs 2 2 Q (F0 m 379 ls [])) : W p l e room_1 s m #[Value.ref b] below meth c H locs 2 2 Q (F0 m 130 ls []) := by
  have hA : ∀ q : Nat, s.heap.size ≤ q → (fun q : Nat => s.heap.size ≤ q) q := fun _ h => h
  have hbA : ¬ (fun q : Nat => s.heap.size ≤ q) b := Nat.not_le.mpr hbl
  refine lv_aload_n hx hb dL_law_130 rfl (lv_at hl 1 rfl) ?_
  refine lv_aload_n hx hb dL_law_131 rfl (lv_at hl 0 rfl) ?_
  refine lv_iload_n hx hb dL_law_132 rfl (lv_at hl 3 rfl) ?_
  refine lv_iconst (v := 1) hx hb dL_law_133 (by decide) ?_
  refine lv_iadd hx hb dL_law_134 ?_
  refine va_sld hx hb hX hbl hbA hS i1 dL_law_135 ?_
  refine lv_aload_n hx hb dL_law_136 rfl (lv_at hl 0 rfl) ?_
  refine lv_iload_n hx hb dL_law_137 rfl (lv_at hl 3 rfl) ?_
  refine lv_iconst (v := 2) hx hb dL_law_138 (by decide) ?_
  refine lv_iadd hx hb dL_law_139 ?_
  refine va_sld hx hb hX hbl hbA hS i2 dL_law_140 ?_
  refine lv_aload_n hx hb dL_law_141 rfl (lv_at hl 0 rfl) ?_
  refine lv_iload_n hx hb dL_law_142 rfl (lv_at hl 3 rfl) ?_
  refine lv_iconst (v := 3) hx hb dL_law_143 (by decide) ?_
  refine lv_iadd hx hb dL_law_144 ?_
  refine va_sld hx hb hX hbl hbA hS i3 dL_law_145 ?_
  refine lv_aload_n hx hb dL_law_146 rfl (lv_at hl 0 rfl) ?_
  refine lv_iload_n hx hb dL_law_147 rfl (lv_at hl 3 rfl) ?_
  refine lv_iconst (v := 4) hx hb dL_law_148 (by decide) ?_
  refine lv_iadd hx hb dL_law_149 ?_
  refine va_sld hx hb hX hbl hbA hS i4 dL_law_150 ?_
  refine fz_callVl (b := qx) (As := [.int (xs (x3 + 1).toNatClampNeg), .int (xs (x3 + 2).toNatClampNeg), .int (xs (x3 + 3).toNatClampNeg), .int (xs (x3 + 4).toNatClampNeg)]) (rest := []) (v := (fz_r (fz_n (xs (x3 + 1).toNatClampNeg) (xs (x3 + 2).toNatClampNeg)) (fz_pt (fz_n (xs (x3 + 3).toNatClampNeg) (xs (x3 + 4).toNatClampNeg))))) ⟨hx, hb, hml, hown, hts⟩ (mf_restOf l qx (xs (x3 + 1).toNatClampNeg) (xs (x3 + 2).toNatClampNeg) (xs (x3 + 3).toNatClampNeg) (xs (x3 + 4).toNatClampNeg)) (cwV 4 hts (lw_V q29 q30 q31 q2 q32) rfl rfl rfl (by decide +kernel) ⟨Nat.le_of_ble_eq_true rfl, Nat.le_of_ble_eq_true rfl⟩) (va_recv hK hP (ci := 0) (q0 := 0) rfl rfl) rfl hl.1 rfl (Nat.le_of_ble_eq_true rfl) dL_law_151 ⟨Nat.le_of_ble_eq_true rfl, Nat.le_of_ble_eq_true rfl⟩ hS (fun H1 locs hz hk hS => ?_)
  have hP := fz_keep hP hk
  clear hk hz
  generalize H1 = H at hP hS ⊢
  refine lv_aload_n hx hb dL_law_154 rfl (lv_at hl 2 rfl) ?_
  refine lv_aload_n hx hb dL_law_155 rfl (lv_at hl 0 rfl) ?_
  refine lv_iload_n hx hb dL_law_156 rfl (lv_at hl 3 rfl) ?_
  refine lv_iconst (v := 1) hx hb dL_law_157 (by decide) ?_
  refine lv_iadd hx hb dL_law_158 ?_
  refine va_sld hx hb hX hbl hbA hS i1 dL_law_159 ?_
  refine lv_aload_n hx hb dL_law_160 rfl (lv_at hl 0 rfl) ?_
  refine lv_iload_n hx hb dL_law_161 rfl (lv_at hl 3 rfl) ?_
  refine lv_iconst (v := 2) hx hb dL_law_162 (by decide) ?_
  refine lv_iadd hx hb dL_law_163 ?_
  refine va_sld hx hb hX hbl hbA hS i2 dL_law_164 ?_
  refine lv_aload_n hx hb dL_law_165 rfl (lv_at hl 0 rfl) ?_
  refine lv_iload_n hx hb dL_law_166 rfl (lv_at hl 3 rfl) ?_
  refine lv_iconst (v := 3) hx hb dL_law_167 (by decide) ?_
  refine lv_iadd hx hb dL_law_168 ?_
  refine va_sld hx hb hX hbl hbA hS i3 dL_law_169 ?_
  refine lv_aload_n hx hb dL_law_170 rfl (lv_at hl 0 rfl) ?_
  refine lv_iload_n hx hb dL_law_171 rfl (lv_at hl 3 rfl) ?_
  refine lv_iconst (v := 4) hx hb dL_law_172 (by decide) ?_
  refine lv_iadd hx hb dL_law_173 ?_
  refine va_sld hx hb hX hbl hbA hS i4 dL_law_174 ?_
  have hPc := hP.sub (ws' := [(qm, .inr (1, [.long wh, .long le]))]) [1] rfl
  have hDc := hD.sub (ws' := [(qm, .inr (1, [.long wh, .long le]))]) [1] (by decide) rfl
  have hKc := hK.sub (tys' := []) [] rfl
  have hFc := va_free (wc := [(qm, .inr (1, [.long wh, .long le]))]) hD hS hA [1] rfl
  refine va_calll (va_runV (As := [.int (xs (x3 + 1).toNatClampNeg), .int (xs (x3 + 2).toNatClampNeg), .int (xs (x3 + 3).toNatClampNeg), .int (xs (x3 + 4).toNatClampNeg)]) (rest := [.long (fz_r (fz_n (xs (x3 + 1).toNatClampNeg) (xs (x3 + 2).toNatClampNeg)) (fz_pt (fz_n (xs (x3 + 3).toNatClampNeg) (xs (x3 + 4).toNatClampNeg))))]) ⟨hx, hb, hml, hown, hts⟩ (mr_restOf l dC dI qm H.size wh le (xs (x3 + 1).toNatClampNeg) (xs (x3 + 2).toNatClampNeg) (xs (x3 + 3).toNatClampNeg) (xs (x3 + 4).toNatClampNeg)) (cwV 4 hts (lw_V q106 q107 q108 q3 q109) rfl rfl rfl (by decide +kernel) ⟨Nat.le_of_ble_eq_true rfl, Nat.le_of_ble_eq_true rfl⟩) ⟨fun a U g mk q => by obtain ⟨q0, q1, qP, qK, qD⟩ := q; exact ⟨q0, q1, qP, va_K.moved (u := U) (U := U.calling g mk a) (Vm.Alike.refl U.vm) qK, qD⟩, va_recv hKc hPc (ci := 1) (q0 := 0) rfl rfl, fun U hU hW => ⟨rfl, by rw [hU], by rw [hU]; exact hPc, va_K.moved hW.alike hKc, hDc.weaken (fun _ _ _ _ => trivial)⟩⟩ rfl rfl hl.1 rfl (lv_room (Nat.le_of_ble_eq_true rfl)) dL_law_175 ⟨Nat.le_of_ble_eq_true rfl, Nat.le_of_ble_eq_true rfl⟩) hS (fun q _ h => hFc q h) hFc (fun r u t H1 locs ht hvm hw hB hz1 hk1 hS => ?_)
  have hw : r = (fz_r (fz_n (xs (x3 + 1).toNatClampNeg) (xs (x3 + 2).toNatClampNeg)) (fz_pt (fz_n (xs (x3 + 3).toNatClampNeg) (xs (x3 + 4).toNatClampNeg)))) := hw
  rw [hw]
  obtain ⟨hP1, hK1, hD1⟩ := hB
  rw [ht] at hP1
  obtain ⟨hP, hD⟩ := va_join (wr := [(qx, .inr (0, []))]) (w1 := [(qm, .inr (1, [.long (fz_q (fz_n (xs (x3 + 1).toNatClampNeg) (xs (x3 + 2).toNatClampNeg)) (fz_pt (fz_n (xs (x3 + 3).toNatClampNeg) (xs (x3 + 4).toNatClampNeg)))), .long (fz_r (fz_n (xs (x3 + 1).toNatClampNeg) (xs (x3 + 2).toNatClampNeg)) (fz_pt (fz_n (xs (x3 + 3).toNatClampNeg) (xs (x3 + 4).toNatClampNeg))))]))]) hP hD [1] [0] rfl rfl (by decide) (by decide) hk1 hFc hP1 hD1
  clear hk1 hz1 hFc hP1 hD1 hPc hDc
  generalize H1 = H at hP hS ⊢
  refine W.lcmp hx hb dL_law_178 ?_
  refine lv_if_eq (tgt := 379) hx hb dL_law_179 (by decide) (fun c1 => ?_) (fun c1 => ?_)
  · exact K _ _ H locs hP hD hS
  · exact absurd ((lg_cmp_eq (fz_r (fz_n (xs (x3 + 1).toNatClampNeg) (xs (x3 + 2).toNatClampNeg)) (fz_pt (fz_n (xs (x3 + 3).toNatClampNeg) (xs (x3 + 4).toNatClampNeg)))) (fz_r (fz_n (xs (x3 + 1).toNatClampNeg) (xs (x3 + 2).toNatClampNeg)) (fz_pt (fz_n (xs (x3 + 3).toNatClampNeg) (xs (x3 + 4).toNatClampNeg))))).mpr rfl) c1
set_option maxHeartbeats 4000000 in
set_option maxRecDepth 100000 in
/-- the case rest: both sides answer one value -/
theorem lc_rest {p : Program} {l : Launch} {e : Env} {s : State} {m : MethodId} {below : List Frame} {meth : Method} {c : Code} {dC : Nat → ClassId} {dI : Nat → Nat → Nat} {b L : Nat} {xs : Nat → Int32} {Q : State → Prop} (hx : p.tables.exec = Jvm.exec) (hb : c.code = code) (hml : c.maxLocals = 4) (hown : s.vm.findClass R_law = some m.cls) (hts : ∀ w ∈ lw_all, w.before #[Value.ref b] s = true) (hX : va_X b L xs s s.heap) (hbl : b < s.heap.size) (hK : va_K (dC, dI) vwCl [] s) {x3 : Int32} (i1 : vp_in (x3 + 1) L) (i2 : vp_in (x3 + 2) L) (i3 : vp_in (x3 + 3) L) (i4 : vp_in (x3 + 4) L) {qx qm : Nat} {wh le : Int64} {H : Heap} {locs : List Loc} (hP : va_P (dC, dI) vwCl [(qx, .inr (0, [])), (qm, .inr (1, [.long wh, .long le]))] H) (hD : va_D (fun q : Nat => s.heap.size ≤ q) [(qx, .inr (0, [])), (qm, .inr (1, [.long wh, .long le]))]) (hS : va_S (fun q : Nat => s.heap.size ≤ q) s.heap H locs) {ls : Array Slot} (hl : lv_has ls 4 [(0, .ref b), (1, .ref qx), (2, .ref qm), (3, .int x3)])
    (K : ∀ (wh le : Int64) (H : Heap) (locs : List Loc), va_P (dC, dI) vwCl [(qx, .inr (0, [])), (qm, .inr (1, [.long wh, .long le]))] H → va_D (fun q : Nat => s.heap.size ≤ q) [(qx, .inr (0, [])), (qm, .inr (1, [.long wh, .long le]))] → va_S (fun q : Nat => s.heap.size ≤ q) s.heap H locs → W p l e room_1 s m #[Value.ref b] below meth c H locs 2 2 Q (F0 m 379 ls [])) : W p l e room_1 s m #[Value.ref b] below meth c H locs 2 2 Q (F0 m 184 ls []) := by
  have hA : ∀ q : Nat, s.heap.size ≤ q → (fun q : Nat => s.heap.size ≤ q) q := fun _ h => h
  have hbA : ¬ (fun q : Nat => s.heap.size ≤ q) b := Nat.not_le.mpr hbl
  refine lv_aload_n hx hb dL_law_184 rfl (lv_at hl 1 rfl) ?_
  refine lv_aload_n hx hb dL_law_185 rfl (lv_at hl 0 rfl) ?_
  refine lv_iload_n hx hb dL_law_186 rfl (lv_at hl 3 rfl) ?_
  refine lv_iconst (v := 1) hx hb dL_law_187 (by decide) ?_
  refine lv_iadd hx hb dL_law_188 ?_
  refine va_sld hx hb hX hbl hbA hS i1 dL_law_189 ?_
  refine lv_aload_n hx hb dL_law_190 rfl (lv_at hl 0 rfl) ?_
  refine lv_iload_n hx hb dL_law_191 rfl (lv_at hl 3 rfl) ?_
  refine lv_iconst (v := 2) hx hb dL_law_192 (by decide) ?_
  refine lv_iadd hx hb dL_law_193 ?_
  refine va_sld hx hb hX hbl hbA hS i2 dL_law_194 ?_
  refine lv_aload_n hx hb dL_law_195 rfl (lv_at hl 0 rfl) ?_
  refine lv_iload_n hx hb dL_law_196 rfl (lv_at hl 3 rfl) ?_
  refine lv_iconst (v := 3) hx hb dL_law_197 (by decide) ?_
  refine lv_iadd hx hb dL_law_198 ?_
  refine va_sld hx hb hX hbl hbA hS i3 dL_law_199 ?_
  refine fz_callVi (b := qx) (As := [.int (xs (x3 + 1).toNatClampNeg), .int (xs (x3 + 2).toNatClampNeg), .int (xs (x3 + 3).toNatClampNeg)]) (rest := []) (v := ((fz_r (fz_n (xs (x3 + 1).toNatClampNeg) (xs (x3 + 2).toNatClampNeg)) (fz_pi (xs (x3 + 3).toNatClampNeg)).toInt64).toInt32)) ⟨hx, hb, hml, hown, hts⟩ (mf_rest l qx (xs (x3 + 1).toNatClampNeg) (xs (x3 + 2).toNatClampNeg) (xs (x3 + 3).toNatClampNeg)) (cwV 3 hts (lw_V q36 q37 q38 q2 q39) rfl rfl rfl (by decide +kernel) ⟨Nat.le_of_ble_eq_true rfl, Nat.le_of_ble_eq_true rfl⟩) (va_recv hK hP (ci := 0) (q0 := 0) rfl rfl) rfl hl.1 rfl (Nat.le_of_ble_eq_true rfl) dL_law_200 ⟨Nat.le_of_ble_eq_true rfl, Nat.le_of_ble_eq_true rfl⟩ hS (fun H1 locs hz hk hS => ?_)
  have hP := fz_keep hP hk
  clear hk hz
  generalize H1 = H at hP hS ⊢
  refine lv_aload_n hx hb dL_law_203 rfl (lv_at hl 2 rfl) ?_
  refine lv_aload_n hx hb dL_law_204 rfl (lv_at hl 0 rfl) ?_
  refine lv_iload_n hx hb dL_law_205 rfl (lv_at hl 3 rfl) ?_
  refine lv_iconst (v := 1) hx hb dL_law_206 (by decide) ?_
  refine lv_iadd hx hb dL_law_207 ?_
  refine va_sld hx hb hX hbl hbA hS i1 dL_law_208 ?_
  refine lv_aload_n hx hb dL_law_209 rfl (lv_at hl 0 rfl) ?_
  refine lv_iload_n hx hb dL_law_210 rfl (lv_at hl 3 rfl) ?_
  refine lv_iconst (v := 2) hx hb dL_law_211 (by decide) ?_
  refine lv_iadd hx hb dL_law_212 ?_
  refine va_sld hx hb hX hbl hbA hS i2 dL_law_213 ?_
  refine lv_aload_n hx hb dL_law_214 rfl (lv_at hl 0 rfl) ?_
  refine lv_iload_n hx hb dL_law_215 rfl (lv_at hl 3 rfl) ?_
  refine lv_iconst (v := 3) hx hb dL_law_216 (by decide) ?_
  refine lv_iadd hx hb dL_law_217 ?_
  refine va_sld hx hb hX hbl hbA hS i3 dL_law_218 ?_
  have hPc := hP.sub (ws' := [(qm, .inr (1, [.long wh, .long le]))]) [1] rfl
  have hDc := hD.sub (ws' := [(qm, .inr (1, [.long wh, .long le]))]) [1] (by decide) rfl
  have hKc := hK.sub (tys' := []) [] rfl
  have hFc := va_free (wc := [(qm, .inr (1, [.long wh, .long le]))]) hD hS hA [1] rfl
  refine va_calli (va_runV (As := [.int (xs (x3 + 1).toNatClampNeg), .int (xs (x3 + 2).toNatClampNeg), .int (xs (x3 + 3).toNatClampNeg)]) (rest := [.int ((fz_r (fz_n (xs (x3 + 1).toNatClampNeg) (xs (x3 + 2).toNatClampNeg)) (fz_pi (xs (x3 + 3).toNatClampNeg)).toInt64).toInt32)]) ⟨hx, hb, hml, hown, hts⟩ (mr_rest l dC dI qm H.size wh le (xs (x3 + 1).toNatClampNeg) (xs (x3 + 2).toNatClampNeg) (xs (x3 + 3).toNatClampNeg)) (cwV 3 hts (lw_V q110 q111 q112 q3 q113) rfl rfl rfl (by decide +kernel) ⟨Nat.le_of_ble_eq_true rfl, Nat.le_of_ble_eq_true rfl⟩) ⟨fun a U g mk q => by obtain ⟨q0, q1, qP, qK, qD⟩ := q; exact ⟨q0, q1, qP, va_K.moved (u := U) (U := U.calling g mk a) (Vm.Alike.refl U.vm) qK, qD⟩, va_recv hKc hPc (ci := 1) (q0 := 0) rfl rfl, fun U hU hW => ⟨rfl, by rw [hU], by rw [hU]; exact hPc, va_K.moved hW.alike hKc, hDc.weaken (fun _ _ _ _ => trivial)⟩⟩ rfl rfl hl.1 rfl (lv_room (Nat.le_of_ble_eq_true rfl)) dL_law_219 ⟨Nat.le_of_ble_eq_true rfl, Nat.le_of_ble_eq_true rfl⟩) hS (fun q _ h => hFc q h) hFc (fun r u t H1 locs ht hvm hw hB hz1 hk1 hS => ?_)
  have hw : r = ((fz_r (fz_n (xs (x3 + 1).toNatClampNeg) (xs (x3 + 2).toNatClampNeg)) (fz_pi (xs (x3 + 3).toNatClampNeg)).toInt64).toInt32) := hw
  rw [hw]
  obtain ⟨hP1, hK1, hD1⟩ := hB
  rw [ht] at hP1
  obtain ⟨hP, hD⟩ := va_join (wr := [(qx, .inr (0, []))]) (w1 := [(qm, .inr (1, [.long (fz_q (fz_n (xs (x3 + 1).toNatClampNeg) (xs (x3 + 2).toNatClampNeg)) (fz_pi (xs (x3 + 3).toNatClampNeg)).toInt64), .long (fz_r (fz_n (xs (x3 + 1).toNatClampNeg) (xs (x3 + 2).toNatClampNeg)) (fz_pi (xs (x3 + 3).toNatClampNeg)).toInt64)]))]) hP hD [1] [0] rfl rfl (by decide) (by decide) hk1 hFc hP1 hD1
  clear hk1 hz1 hFc hP1 hD1 hPc hDc
  generalize H1 = H at hP hS ⊢
  refine lv_icmp_eq (tgt := 379) hx hb dL_law_222 (by decide) (fun c1 => ?_) (fun c1 => ?_)
  · exact K _ _ H locs hP hD hS
  · exact absurd rfl c1
set_option maxHeartbeats 4000000 in
set_option maxRecDepth 100000 in
/-- the case floor: both sides answer one value -/
theorem lc_floor {p : Program} {l : Launch} {e : Env} {s : State} {m : MethodId} {below : List Frame} {meth : Method} {c : Code} {dC : Nat → ClassId} {dI : Nat → Nat → Nat} {b L : Nat} {xs : Nat → Int32} {Q : State → Prop} (hx : p.tables.exec = Jvm.exec) (hb : c.code = code) (hml : c.maxLocals = 4) (hown : s.vm.findClass R_law = some m.cls) (hts : ∀ w ∈ lw_all, w.before #[Value.ref b] s = true) (hX : va_X b L xs s s.heap) (hbl : b < s.heap.size) (hK : va_K (dC, dI) vwCl [] s) {x3 : Int32} (i1 : vp_in (x3 + 1) L) (i2 : vp_in (x3 + 2) L) (i3 : vp_in (x3 + 3) L) (i4 : vp_in (x3 + 4) L) {qx qm : Nat} {wh le : Int64} {H : Heap} {locs : List Loc} (hP : va_P (dC, dI) vwCl [(qx, .inr (0, [])), (qm, .inr (1, [.long wh, .long le]))] H) (hD : va_D (fun q : Nat => s.heap.size ≤ q) [(qx, .inr (0, [])), (qm, .inr (1, [.long wh, .long le]))]) (hS : va_S (fun q : Nat => s.heap.size ≤ q) s.heap H locs) {ls : Array Slot} (hl : lv_has ls 4 [(0, .ref b), (1, .ref qx), (2, .ref qm), (3, .int x3)])
    (K : ∀ (wh le : Int64) (H : Heap) (locs : List Loc), va_P (dC, dI) vwCl [(qx, .inr (0, [])), (qm, .inr (1, [.long wh, .long le]))] H → va_D (fun q : Nat => s.heap.size ≤ q) [(qx, .inr (0, [])), (qm, .inr (1, [.long wh, .long le]))] → va_S (fun q : Nat => s.heap.size ≤ q) s.heap H locs → W p l e room_1 s m #[Value.ref b] below meth c H locs 2 2 Q (F0 m 379 ls [])) : W p l e room_1 s m #[Value.ref b] below meth c H locs 2 2 Q (F0 m 227 ls []) := by
  have hA : ∀ q : Nat, s.heap.size ≤ q → (fun q : Nat => s.heap.size ≤ q) q := fun _ h => h
  have hbA : ¬ (fun q : Nat => s.heap.size ≤ q) b := Nat.not_le.mpr hbl
  refine lv_aload_n hx hb dL_law_227 rfl (lv_at hl 1 rfl) ?_
  refine lv_aload_n hx hb dL_law_228 rfl (lv_at hl 0 rfl) ?_
  refine lv_iload_n hx hb dL_law_229 rfl (lv_at hl 3 rfl) ?_
  refine lv_iconst (v := 1) hx hb dL_law_230 (by decide) ?_
  refine lv_iadd hx hb dL_law_231 ?_
  refine va_sld hx hb hX hbl hbA hS i1 dL_law_232 ?_
  refine lv_aload_n hx hb dL_law_233 rfl (lv_at hl 0 rfl) ?_
  refine lv_iload_n hx hb dL_law_234 rfl (lv_at hl 3 rfl) ?_
  refine lv_iconst (v := 2) hx hb dL_law_235 (by decide) ?_
  refine lv_iadd hx hb dL_law_236 ?_
  refine va_sld hx hb hX hbl hbA hS i2 dL_law_237 ?_
  refine fz_callVi (b := qx) (As := [.int (xs (x3 + 1).toNatClampNeg), .int (xs (x3 + 2).toNatClampNeg)]) (rest := []) (v := ((fz_q (xs (x3 + 1).toNatClampNeg).toInt64 (fz_pi (xs (x3 + 2).toNatClampNeg)).toInt64).toInt32)) ⟨hx, hb, hml, hown, hts⟩ (mf_floor l qx (xs (x3 + 1).toNatClampNeg) (xs (x3 + 2).toNatClampNeg)) (cwV 2 hts (lw_V q47 q48 q49 q2 q50) rfl rfl rfl (by decide +kernel) ⟨Nat.le_of_ble_eq_true rfl, Nat.le_of_ble_eq_true rfl⟩) (va_recv hK hP (ci := 0) (q0 := 0) rfl rfl) rfl hl.1 rfl (Nat.le_of_ble_eq_true rfl) dL_law_238 ⟨Nat.le_of_ble_eq_true rfl, Nat.le_of_ble_eq_true rfl⟩ hS (fun H1 locs hz hk hS => ?_)
  have hP := fz_keep hP hk
  clear hk hz
  generalize H1 = H at hP hS ⊢
  refine lv_aload_n hx hb dL_law_241 rfl (lv_at hl 2 rfl) ?_
  refine lv_aload_n hx hb dL_law_242 rfl (lv_at hl 0 rfl) ?_
  refine lv_iload_n hx hb dL_law_243 rfl (lv_at hl 3 rfl) ?_
  refine lv_iconst (v := 1) hx hb dL_law_244 (by decide) ?_
  refine lv_iadd hx hb dL_law_245 ?_
  refine va_sld hx hb hX hbl hbA hS i1 dL_law_246 ?_
  refine lv_aload_n hx hb dL_law_247 rfl (lv_at hl 0 rfl) ?_
  refine lv_iload_n hx hb dL_law_248 rfl (lv_at hl 3 rfl) ?_
  refine lv_iconst (v := 2) hx hb dL_law_249 (by decide) ?_
  refine lv_iadd hx hb dL_law_250 ?_
  refine va_sld hx hb hX hbl hbA hS i2 dL_law_251 ?_
  have hPc := hP.sub (ws' := [(qm, .inr (1, [.long wh, .long le]))]) [1] rfl
  have hDc := hD.sub (ws' := [(qm, .inr (1, [.long wh, .long le]))]) [1] (by decide) rfl
  have hKc := hK.sub (tys' := []) [] rfl
  have hFc := va_free (wc := [(qm, .inr (1, [.long wh, .long le]))]) hD hS hA [1] rfl
  refine va_calli (va_runV (As := [.int (xs (x3 + 1).toNatClampNeg), .int (xs (x3 + 2).toNatClampNeg)]) (rest := [.int ((fz_q (xs (x3 + 1).toNatClampNeg).toInt64 (fz_pi (xs (x3 + 2).toNatClampNeg)).toInt64).toInt32)]) ⟨hx, hb, hml, hown, hts⟩ (mr_floor l dC dI qm H.size wh le (xs (x3 + 1).toNatClampNeg) (xs (x3 + 2).toNatClampNeg)) (cwV 2 hts (lw_V q118 q119 q120 q3 q121) rfl rfl rfl (by decide +kernel) ⟨Nat.le_of_ble_eq_true rfl, Nat.le_of_ble_eq_true rfl⟩) ⟨fun a U g mk q => by obtain ⟨q0, q1, qP, qK, qD⟩ := q; exact ⟨q0, q1, qP, va_K.moved (u := U) (U := U.calling g mk a) (Vm.Alike.refl U.vm) qK, qD⟩, va_recv hKc hPc (ci := 1) (q0 := 0) rfl rfl, fun U hU hW => ⟨rfl, by rw [hU], by rw [hU]; exact hPc, va_K.moved hW.alike hKc, hDc.weaken (fun _ _ _ _ => trivial)⟩⟩ rfl rfl hl.1 rfl (lv_room (Nat.le_of_ble_eq_true rfl)) dL_law_252 ⟨Nat.le_of_ble_eq_true rfl, Nat.le_of_ble_eq_true rfl⟩) hS (fun q _ h => hFc q h) hFc (fun r u t H1 locs ht hvm hw hB hz1 hk1 hS => ?_)
  have hw : r = ((fz_q (xs (x3 + 1).toNatClampNeg).toInt64 (fz_pi (xs (x3 + 2).toNatClampNeg)).toInt64).toInt32) := hw
  rw [hw]
  obtain ⟨hP1, hK1, hD1⟩ := hB
  rw [ht] at hP1
  obtain ⟨hP, hD⟩ := va_join (wr := [(qx, .inr (0, []))]) (w1 := [(qm, .inr (1, [.long (fz_q (xs (x3 + 1).toNatClampNeg).toInt64 (fz_pi (xs (x3 + 2).toNatClampNeg)).toInt64), .long (fz_r (xs (x3 + 1).toNatClampNeg).toInt64 (fz_pi (xs (x3 + 2).toNatClampNeg)).toInt64)]))]) hP hD [1] [0] rfl rfl (by decide) (by decide) hk1 hFc hP1 hD1
  clear hk1 hz1 hFc hP1 hD1 hPc hDc
  generalize H1 = H at hP hS ⊢
  refine lv_icmp_eq (tgt := 379) hx hb dL_law_255 (by decide) (fun c1 => ?_) (fun c1 => ?_)
  · exact K _ _ H locs hP hD hS
  · exact absurd rfl c1
set_option maxHeartbeats 4000000 in
set_option maxRecDepth 100000 in
/-- the case modulo: both sides answer one value -/
theorem lc_modulo {p : Program} {l : Launch} {e : Env} {s : State} {m : MethodId} {below : List Frame} {meth : Method} {c : Code} {dC : Nat → ClassId} {dI : Nat → Nat → Nat} {b L : Nat} {xs : Nat → Int32} {Q : State → Prop} (hx : p.tables.exec = Jvm.exec) (hb : c.code = code) (hml : c.maxLocals = 4) (hown : s.vm.findClass R_law = some m.cls) (hts : ∀ w ∈ lw_all, w.before #[Value.ref b] s = true) (hX : va_X b L xs s s.heap) (hbl : b < s.heap.size) (hK : va_K (dC, dI) vwCl [] s) {x3 : Int32} (i1 : vp_in (x3 + 1) L) (i2 : vp_in (x3 + 2) L) (i3 : vp_in (x3 + 3) L) (i4 : vp_in (x3 + 4) L) {qx qm : Nat} {wh le : Int64} {H : Heap} {locs : List Loc} (hP : va_P (dC, dI) vwCl [(qx, .inr (0, [])), (qm, .inr (1, [.long wh, .long le]))] H) (hD : va_D (fun q : Nat => s.heap.size ≤ q) [(qx, .inr (0, [])), (qm, .inr (1, [.long wh, .long le]))]) (hS : va_S (fun q : Nat => s.heap.size ≤ q) s.heap H locs) {ls : Array Slot} (hl : lv_has ls 4 [(0, .ref b), (1, .ref qx), (2, .ref qm), (3, .int x3)])
    (K : ∀ (wh le : Int64) (H : Heap) (locs : List Loc), va_P (dC, dI) vwCl [(qx, .inr (0, [])), (qm, .inr (1, [.long wh, .long le]))] H → va_D (fun q : Nat => s.heap.size ≤ q) [(qx, .inr (0, [])), (qm, .inr (1, [.long wh, .long le]))] → va_S (fun q : Nat => s.heap.size ≤ q) s.heap H locs → W p l e room_1 s m #[Value.ref b] below meth c H locs 2 2 Q (F0 m 379 ls [])) : W p l e room_1 s m #[Value.ref b] below meth c H locs 2 2 Q (F0 m 260 ls []) := by
  have hA : ∀ q : Nat, s.heap.size ≤ q → (fun q : Nat => s.heap.size ≤ q) q := fun _ h => h
  have hbA : ¬ (fun q : Nat => s.heap.size ≤ q) b := Nat.not_le.mpr hbl
  refine lv_aload_n hx hb dL_law_260 rfl (lv_at hl 1 rfl) ?_
  refine lv_aload_n hx hb dL_law_261 rfl (lv_at hl 0 rfl) ?_
  refine lv_iload_n hx hb dL_law_262 rfl (lv_at hl 3 rfl) ?_
  refine lv_iconst (v := 1) hx hb dL_law_263 (by decide) ?_
  refine lv_iadd hx hb dL_law_264 ?_
  refine va_sld hx hb hX hbl hbA hS i1 dL_law_265 ?_
  refine lv_aload_n hx hb dL_law_266 rfl (lv_at hl 0 rfl) ?_
  refine lv_iload_n hx hb dL_law_267 rfl (lv_at hl 3 rfl) ?_
  refine lv_iconst (v := 2) hx hb dL_law_268 (by decide) ?_
  refine lv_iadd hx hb dL_law_269 ?_
  refine va_sld hx hb hX hbl hbA hS i2 dL_law_270 ?_
  refine fz_callVi (b := qx) (As := [.int (xs (x3 + 1).toNatClampNeg), .int (xs (x3 + 2).toNatClampNeg)]) (rest := []) (v := ((fz_r (xs (x3 + 1).toNatClampNeg).toInt64 (fz_pi (xs (x3 + 2).toNatClampNeg)).toInt64).toInt32)) ⟨hx, hb, hml, hown, hts⟩ (mf_modulo l qx (xs (x3 + 1).toNatClampNeg) (xs (x3 + 2).toNatClampNeg)) (cwV 2 hts (lw_V q54 q55 q56 q2 q57) rfl rfl rfl (by decide +kernel) ⟨Nat.le_of_ble_eq_true rfl, Nat.le_of_ble_eq_true rfl⟩) (va_recv hK hP (ci := 0) (q0 := 0) rfl rfl) rfl hl.1 rfl (Nat.le_of_ble_eq_true rfl) dL_law_271 ⟨Nat.le_of_ble_eq_true rfl, Nat.le_of_ble_eq_true rfl⟩ hS (fun H1 locs hz hk hS => ?_)
  have hP := fz_keep hP hk
  clear hk hz
  generalize H1 = H at hP hS ⊢
  refine lv_aload_n hx hb dL_law_274 rfl (lv_at hl 2 rfl) ?_
  refine lv_aload_n hx hb dL_law_275 rfl (lv_at hl 0 rfl) ?_
  refine lv_iload_n hx hb dL_law_276 rfl (lv_at hl 3 rfl) ?_
  refine lv_iconst (v := 1) hx hb dL_law_277 (by decide) ?_
  refine lv_iadd hx hb dL_law_278 ?_
  refine va_sld hx hb hX hbl hbA hS i1 dL_law_279 ?_
  refine lv_aload_n hx hb dL_law_280 rfl (lv_at hl 0 rfl) ?_
  refine lv_iload_n hx hb dL_law_281 rfl (lv_at hl 3 rfl) ?_
  refine lv_iconst (v := 2) hx hb dL_law_282 (by decide) ?_
  refine lv_iadd hx hb dL_law_283 ?_
  refine va_sld hx hb hX hbl hbA hS i2 dL_law_284 ?_
  have hPc := hP.sub (ws' := [(qm, .inr (1, [.long wh, .long le]))]) [1] rfl
  have hDc := hD.sub (ws' := [(qm, .inr (1, [.long wh, .long le]))]) [1] (by decide) rfl
  have hKc := hK.sub (tys' := []) [] rfl
  have hFc := va_free (wc := [(qm, .inr (1, [.long wh, .long le]))]) hD hS hA [1] rfl
  refine va_calli (va_runV (As := [.int (xs (x3 + 1).toNatClampNeg), .int (xs (x3 + 2).toNatClampNeg)]) (rest := [.int ((fz_r (xs (x3 + 1).toNatClampNeg).toInt64 (fz_pi (xs (x3 + 2).toNatClampNeg)).toInt64).toInt32)]) ⟨hx, hb, hml, hown, hts⟩ (mr_modulo l dC dI qm H.size wh le (xs (x3 + 1).toNatClampNeg) (xs (x3 + 2).toNatClampNeg)) (cwV 2 hts (lw_V q122 q123 q124 q3 q125) rfl rfl rfl (by decide +kernel) ⟨Nat.le_of_ble_eq_true rfl, Nat.le_of_ble_eq_true rfl⟩) ⟨fun a U g mk q => by obtain ⟨q0, q1, qP, qK, qD⟩ := q; exact ⟨q0, q1, qP, va_K.moved (u := U) (U := U.calling g mk a) (Vm.Alike.refl U.vm) qK, qD⟩, va_recv hKc hPc (ci := 1) (q0 := 0) rfl rfl, fun U hU hW => ⟨rfl, by rw [hU], by rw [hU]; exact hPc, va_K.moved hW.alike hKc, hDc.weaken (fun _ _ _ _ => trivial)⟩⟩ rfl rfl hl.1 rfl (lv_room (Nat.le_of_ble_eq_true rfl)) dL_law_285 ⟨Nat.le_of_ble_eq_true rfl, Nat.le_of_ble_eq_true rfl⟩) hS (fun q _ h => hFc q h) hFc (fun r u t H1 locs ht hvm hw hB hz1 hk1 hS => ?_)
  have hw : r = ((fz_r (xs (x3 + 1).toNatClampNeg).toInt64 (fz_pi (xs (x3 + 2).toNatClampNeg)).toInt64).toInt32) := hw
  rw [hw]
  obtain ⟨hP1, hK1, hD1⟩ := hB
  rw [ht] at hP1
  obtain ⟨hP, hD⟩ := va_join (wr := [(qx, .inr (0, []))]) (w1 := [(qm, .inr (1, [.long (fz_q (xs (x3 + 1).toNatClampNeg).toInt64 (fz_pi (xs (x3 + 2).toNatClampNeg)).toInt64), .long (fz_r (xs (x3 + 1).toNatClampNeg).toInt64 (fz_pi (xs (x3 + 2).toNatClampNeg)).toInt64)]))]) hP hD [1] [0] rfl rfl (by decide) (by decide) hk1 hFc hP1 hD1
  clear hk1 hz1 hFc hP1 hD1 hPc hDc
  generalize H1 = H at hP hS ⊢
  refine lv_icmp_eq (tgt := 379) hx hb dL_law_288 (by decide) (fun c1 => ?_) (fun c1 => ?_)
  · exact K _ _ H locs hP hD hS
  · exact absurd rfl c1
set_option maxHeartbeats 4000000 in
set_option maxRecDepth 100000 in
/-- the case order: both sides answer one value -/
theorem lc_order {p : Program} {l : Launch} {e : Env} {s : State} {m : MethodId} {below : List Frame} {meth : Method} {c : Code} {dC : Nat → ClassId} {dI : Nat → Nat → Nat} {b L : Nat} {xs : Nat → Int32} {Q : State → Prop} (hx : p.tables.exec = Jvm.exec) (hb : c.code = code) (hml : c.maxLocals = 4) (hown : s.vm.findClass R_law = some m.cls) (hts : ∀ w ∈ lw_all, w.before #[Value.ref b] s = true) (hX : va_X b L xs s s.heap) (hbl : b < s.heap.size) (hK : va_K (dC, dI) vwCl [] s) {x3 : Int32} (i1 : vp_in (x3 + 1) L) (i2 : vp_in (x3 + 2) L) (i3 : vp_in (x3 + 3) L) (i4 : vp_in (x3 + 4) L) {qx qm : Nat} {wh le : Int64} {H : Heap} {locs : List Loc} (hP : va_P (dC, dI) vwCl [(qx, .inr (0, [])), (qm, .inr (1, [.long wh, .long le]))] H) (hD : va_D (fun q : Nat => s.heap.size ≤ q) [(qx, .inr (0, [])), (qm, .inr (1, [.long wh, .long le]))]) (hS : va_S (fun q : Nat => s.heap.size ≤ q) s.heap H locs) {ls : Array Slot} (hl : lv_has ls 4 [(0, .ref b), (1, .ref qx), (2, .ref qm), (3, .int x3)])
    (K : ∀ (wh le : Int64) (H : Heap) (locs : List Loc), va_P (dC, dI) vwCl [(qx, .inr (0, [])), (qm, .inr (1, [.long wh, .long le]))] H → va_D (fun q : Nat => s.heap.size ≤ q) [(qx, .inr (0, [])), (qm, .inr (1, [.long wh, .long le]))] → va_S (fun q : Nat => s.heap.size ≤ q) s.heap H locs → W p l e room_1 s m #[Value.ref b] below meth c H locs 2 2 Q (F0 m 379 ls [])) : W p l e room_1 s m #[Value.ref b] below meth c H locs 2 2 Q (F0 m 293 ls []) := by
  have hA : ∀ q : Nat, s.heap.size ≤ q → (fun q : Nat => s.heap.size ≤ q) q := fun _ h => h
  have hbA : ¬ (fun q : Nat => s.heap.size ≤ q) b := Nat.not_le.mpr hbl
  refine lv_aload_n hx hb dL_law_293 rfl (lv_at hl 1 rfl) ?_
  refine lv_aload_n hx hb dL_law_294 rfl (lv_at hl 0 rfl) ?_
  refine lv_iload_n hx hb dL_law_295 rfl (lv_at hl 3 rfl) ?_
  refine lv_iconst (v := 1) hx hb dL_law_296 (by decide) ?_
  refine lv_iadd hx hb dL_law_297 ?_
  refine va_sld hx hb hX hbl hbA hS i1 dL_law_298 ?_
  refine lv_aload_n hx hb dL_law_299 rfl (lv_at hl 0 rfl) ?_
  refine lv_iload_n hx hb dL_law_300 rfl (lv_at hl 3 rfl) ?_
  refine lv_iconst (v := 2) hx hb dL_law_301 (by decide) ?_
  refine lv_iadd hx hb dL_law_302 ?_
  refine va_sld hx hb hX hbl hbA hS i2 dL_law_303 ?_
  refine fz_callVi (b := qx) (As := [.int (xs (x3 + 1).toNatClampNeg), .int (xs (x3 + 2).toNatClampNeg)]) (rest := []) (v := (fz_c (xs (x3 + 1).toNatClampNeg).toInt64 (xs (x3 + 2).toNatClampNeg).toInt64)) ⟨hx, hb, hml, hown, hts⟩ (mf_order l qx (xs (x3 + 1).toNatClampNeg) (xs (x3 + 2).toNatClampNeg)) (cwV 2 hts (lw_V q61 q62 q63 q2 q64) rfl rfl rfl (by decide +kernel) ⟨Nat.le_of_ble_eq_true rfl, Nat.le_of_ble_eq_true rfl⟩) (va_recv hK hP (ci := 0) (q0 := 0) rfl rfl) rfl hl.1 rfl (Nat.le_of_ble_eq_true rfl) dL_law_304 ⟨Nat.le_of_ble_eq_true rfl, Nat.le_of_ble_eq_true rfl⟩ hS (fun H1 locs hz hk hS => ?_)
  have hP := fz_keep hP hk
  clear hk hz
  generalize H1 = H at hP hS ⊢
  refine lv_aload_n hx hb dL_law_307 rfl (lv_at hl 2 rfl) ?_
  refine lv_aload_n hx hb dL_law_308 rfl (lv_at hl 0 rfl) ?_
  refine lv_iload_n hx hb dL_law_309 rfl (lv_at hl 3 rfl) ?_
  refine lv_iconst (v := 1) hx hb dL_law_310 (by decide) ?_
  refine lv_iadd hx hb dL_law_311 ?_
  refine va_sld hx hb hX hbl hbA hS i1 dL_law_312 ?_
  refine lv_aload_n hx hb dL_law_313 rfl (lv_at hl 0 rfl) ?_
  refine lv_iload_n hx hb dL_law_314 rfl (lv_at hl 3 rfl) ?_
  refine lv_iconst (v := 2) hx hb dL_law_315 (by decide) ?_
  refine lv_iadd hx hb dL_law_316 ?_
  refine va_sld hx hb hX hbl hbA hS i2 dL_law_317 ?_
  refine fz_callVi (b := qm) (As := [.int (xs (x3 + 1).toNatClampNeg), .int (xs (x3 + 2).toNatClampNeg)]) (rest := [.int (fz_c (xs (x3 + 1).toNatClampNeg).toInt64 (xs (x3 + 2).toNatClampNeg).toInt64)]) (v := (fz_c (xs (x3 + 1).toNatClampNeg).toInt64 (xs (x3 + 2).toNatClampNeg).toInt64)) ⟨hx, hb, hml, hown, hts⟩ (mr_order l qm (xs (x3 + 1).toNatClampNeg) (xs (x3 + 2).toNatClampNeg)) (cwV 2 hts (lw_V q126 q127 q128 q3 q129) rfl rfl rfl (by decide +kernel) ⟨Nat.le_of_ble_eq_true rfl, Nat.le_of_ble_eq_true rfl⟩) (va_recv hK hP (ci := 1) (q0 := 1) rfl rfl) rfl hl.1 rfl (Nat.le_of_ble_eq_true rfl) dL_law_318 ⟨Nat.le_of_ble_eq_true rfl, Nat.le_of_ble_eq_true rfl⟩ hS (fun H1 locs hz hk hS => ?_)
  have hP := fz_keep hP hk
  clear hk hz
  generalize H1 = H at hP hS ⊢
  refine lv_icmp_eq (tgt := 379) hx hb dL_law_321 (by decide) (fun c1 => ?_) (fun c1 => ?_)
  · exact K _ _ H locs hP hD hS
  · exact absurd rfl c1
set_option maxHeartbeats 4000000 in
set_option maxRecDepth 100000 in
/-- the case orderOf: both sides answer one value -/
theorem lc_orderOf {p : Program} {l : Launch} {e : Env} {s : State} {m : MethodId} {below : List Frame} {meth : Method} {c : Code} {dC : Nat → ClassId} {dI : Nat → Nat → Nat} {b L : Nat} {xs : Nat → Int32} {Q : State → Prop} (hx : p.tables.exec = Jvm.exec) (hb : c.code = code) (hml : c.maxLocals = 4) (hown : s.vm.findClass R_law = some m.cls) (hts : ∀ w ∈ lw_all, w.before #[Value.ref b] s = true) (hX : va_X b L xs s s.heap) (hbl : b < s.heap.size) (hK : va_K (dC, dI) vwCl [] s) {x3 : Int32} (i1 : vp_in (x3 + 1) L) (i2 : vp_in (x3 + 2) L) (i3 : vp_in (x3 + 3) L) (i4 : vp_in (x3 + 4) L) {qx qm : Nat} {wh le : Int64} {H : Heap} {locs : List Loc} (hP : va_P (dC, dI) vwCl [(qx, .inr (0, [])), (qm, .inr (1, [.long wh, .long le]))] H) (hD : va_D (fun q : Nat => s.heap.size ≤ q) [(qx, .inr (0, [])), (qm, .inr (1, [.long wh, .long le]))]) (hS : va_S (fun q : Nat => s.heap.size ≤ q) s.heap H locs) {ls : Array Slot} (hl : lv_has ls 4 [(0, .ref b), (1, .ref qx), (2, .ref qm), (3, .int x3)])
    (K : ∀ (wh le : Int64) (H : Heap) (locs : List Loc), va_P (dC, dI) vwCl [(qx, .inr (0, [])), (qm, .inr (1, [.long wh, .long le]))] H → va_D (fun q : Nat => s.heap.size ≤ q) [(qx, .inr (0, [])), (qm, .inr (1, [.long wh, .long le]))] → va_S (fun q : Nat => s.heap.size ≤ q) s.heap H locs → W p l e room_1 s m #[Value.ref b] below meth c H locs 2 2 Q (F0 m 379 ls [])) : W p l e room_1 s m #[Value.ref b] below meth c H locs 2 2 Q (F0 m 326 ls []) := by
  have hA : ∀ q : Nat, s.heap.size ≤ q → (fun q : Nat => s.heap.size ≤ q) q := fun _ h => h
  have hbA : ¬ (fun q : Nat => s.heap.size ≤ q) b := Nat.not_le.mpr hbl
  refine lv_aload_n hx hb dL_law_326 rfl (lv_at hl 1 rfl) ?_
  refine lv_aload_n hx hb dL_law_327 rfl (lv_at hl 0 rfl) ?_
  refine lv_iload_n hx hb dL_law_328 rfl (lv_at hl 3 rfl) ?_
  refine lv_iconst (v := 1) hx hb dL_law_329 (by decide) ?_
  refine lv_iadd hx hb dL_law_330 ?_
  refine va_sld hx hb hX hbl hbA hS i1 dL_law_331 ?_
  refine lv_aload_n hx hb dL_law_332 rfl (lv_at hl 0 rfl) ?_
  refine lv_iload_n hx hb dL_law_333 rfl (lv_at hl 3 rfl) ?_
  refine lv_iconst (v := 2) hx hb dL_law_334 (by decide) ?_
  refine lv_iadd hx hb dL_law_335 ?_
  refine va_sld hx hb hX hbl hbA hS i2 dL_law_336 ?_
  refine lv_aload_n hx hb dL_law_337 rfl (lv_at hl 0 rfl) ?_
  refine lv_iload_n hx hb dL_law_338 rfl (lv_at hl 3 rfl) ?_
  refine lv_iconst (v := 3) hx hb dL_law_339 (by decide) ?_
  refine lv_iadd hx hb dL_law_340 ?_
  refine va_sld hx hb hX hbl hbA hS i3 dL_law_341 ?_
  refine lv_aload_n hx hb dL_law_342 rfl (lv_at hl 0 rfl) ?_
  refine lv_iload_n hx hb dL_law_343 rfl (lv_at hl 3 rfl) ?_
  refine lv_iconst (v := 4) hx hb dL_law_344 (by decide) ?_
  refine lv_iadd hx hb dL_law_345 ?_
  refine va_sld hx hb hX hbl hbA hS i4 dL_law_346 ?_
  refine fz_callVi (b := qx) (As := [.int (xs (x3 + 1).toNatClampNeg), .int (xs (x3 + 2).toNatClampNeg), .int (xs (x3 + 3).toNatClampNeg), .int (xs (x3 + 4).toNatClampNeg)]) (rest := []) (v := (fz_c (fz_n (xs (x3 + 1).toNatClampNeg) (xs (x3 + 2).toNatClampNeg)) (fz_n (xs (x3 + 3).toNatClampNeg) (xs (x3 + 4).toNatClampNeg)))) ⟨hx, hb, hml, hown, hts⟩ (mf_orderOf l qx (xs (x3 + 1).toNatClampNeg) (xs (x3 + 2).toNatClampNeg) (xs (x3 + 3).toNatClampNeg) (xs (x3 + 4).toNatClampNeg)) (cwV 4 hts (lw_V q68 q69 q70 q2 q71) rfl rfl rfl (by decide +kernel) ⟨Nat.le_of_ble_eq_true rfl, Nat.le_of_ble_eq_true rfl⟩) (va_recv hK hP (ci := 0) (q0 := 0) rfl rfl) rfl hl.1 rfl (Nat.le_of_ble_eq_true rfl) dL_law_347 ⟨Nat.le_of_ble_eq_true rfl, Nat.le_of_ble_eq_true rfl⟩ hS (fun H1 locs hz hk hS => ?_)
  have hP := fz_keep hP hk
  clear hk hz
  generalize H1 = H at hP hS ⊢
  refine lv_aload_n hx hb dL_law_350 rfl (lv_at hl 2 rfl) ?_
  refine lv_aload_n hx hb dL_law_351 rfl (lv_at hl 0 rfl) ?_
  refine lv_iload_n hx hb dL_law_352 rfl (lv_at hl 3 rfl) ?_
  refine lv_iconst (v := 1) hx hb dL_law_353 (by decide) ?_
  refine lv_iadd hx hb dL_law_354 ?_
  refine va_sld hx hb hX hbl hbA hS i1 dL_law_355 ?_
  refine lv_aload_n hx hb dL_law_356 rfl (lv_at hl 0 rfl) ?_
  refine lv_iload_n hx hb dL_law_357 rfl (lv_at hl 3 rfl) ?_
  refine lv_iconst (v := 2) hx hb dL_law_358 (by decide) ?_
  refine lv_iadd hx hb dL_law_359 ?_
  refine va_sld hx hb hX hbl hbA hS i2 dL_law_360 ?_
  refine lv_aload_n hx hb dL_law_361 rfl (lv_at hl 0 rfl) ?_
  refine lv_iload_n hx hb dL_law_362 rfl (lv_at hl 3 rfl) ?_
  refine lv_iconst (v := 3) hx hb dL_law_363 (by decide) ?_
  refine lv_iadd hx hb dL_law_364 ?_
  refine va_sld hx hb hX hbl hbA hS i3 dL_law_365 ?_
  refine lv_aload_n hx hb dL_law_366 rfl (lv_at hl 0 rfl) ?_
  refine lv_iload_n hx hb dL_law_367 rfl (lv_at hl 3 rfl) ?_
  refine lv_iconst (v := 4) hx hb dL_law_368 (by decide) ?_
  refine lv_iadd hx hb dL_law_369 ?_
  refine va_sld hx hb hX hbl hbA hS i4 dL_law_370 ?_
  refine fz_callVi (b := qm) (As := [.int (xs (x3 + 1).toNatClampNeg), .int (xs (x3 + 2).toNatClampNeg), .int (xs (x3 + 3).toNatClampNeg), .int (xs (x3 + 4).toNatClampNeg)]) (rest := [.int (fz_c (fz_n (xs (x3 + 1).toNatClampNeg) (xs (x3 + 2).toNatClampNeg)) (fz_n (xs (x3 + 3).toNatClampNeg) (xs (x3 + 4).toNatClampNeg)))]) (v := (fz_c (fz_n (xs (x3 + 1).toNatClampNeg) (xs (x3 + 2).toNatClampNeg)) (fz_n (xs (x3 + 3).toNatClampNeg) (xs (x3 + 4).toNatClampNeg)))) ⟨hx, hb, hml, hown, hts⟩ (mr_orderOf l qm (xs (x3 + 1).toNatClampNeg) (xs (x3 + 2).toNatClampNeg) (xs (x3 + 3).toNatClampNeg) (xs (x3 + 4).toNatClampNeg)) (cwV 4 hts (lw_V q133 q134 q135 q3 q136) rfl rfl rfl (by decide +kernel) ⟨Nat.le_of_ble_eq_true rfl, Nat.le_of_ble_eq_true rfl⟩) (va_recv hK hP (ci := 1) (q0 := 1) rfl rfl) rfl hl.1 rfl (Nat.le_of_ble_eq_true rfl) dL_law_371 ⟨Nat.le_of_ble_eq_true rfl, Nat.le_of_ble_eq_true rfl⟩ hS (fun H1 locs hz hk hS => ?_)
  have hP := fz_keep hP hk
  clear hk hz
  generalize H1 = H at hP hS ⊢
  refine lv_icmp_eq (tgt := 379) hx hb dL_law_374 (by decide) (fun c1 => ?_) (fun c1 => ?_)
  · exact K _ _ H locs hP hD hS
  · exact absurd rfl c1
end
section
/-! THE LAW: its loop, and its start -/
set_option maxHeartbeats 4000000 in
set_option maxRecDepth 100000 in
/-- the law's loop at its head, i ints read -/
theorem law_loop {p : Program} {l : Launch} {e : Env} {s : State} {m : MethodId} {below : List Frame} {meth : Method} {c : Code} {dC : Nat → ClassId} {dI : Nat → Nat → Nat} {b L : Nat} {xs : Nat → Int32} (hL : L ≤ 288) (C0 : lw_At p s m meth c b L xs) (hK : va_K (dC, dI) vwCl [] s) :
    ∀ (n i : Nat) (x3 : Int32), i ≤ L → L + 1 ≤ i + n → x3.toInt = (i : Int) → ∀ (qx qm : Nat) (wh le : Int64) (H : Heap) (locs : List Loc), va_P (dC, dI) vwCl [(qx, .inr (0, [])), (qm, .inr (1, [.long wh, .long le]))] H → va_D (fun q : Nat => s.heap.size ≤ q) [(qx, .inr (0, [])), (qm, .inr (1, [.long wh, .long le]))] → va_S (fun q : Nat => s.heap.size ≤ q) s.heap H locs → ∀ ls : Array Slot, lv_has ls 4 [(0, .ref b), (1, .ref qx), (2, .ref qm), (3, .int x3)] → W p l e room_1 s m #[Value.ref b] below meth c H locs 2 2 (lw_Z below #[Value.ref b] s) (F0 m 18 ls []) := by
  obtain ⟨hx, hb, hr, hml, hown, hts0, hX, hbl, hlocks, hgv⟩ := C0
  have hts : ∀ w ∈ lw_all, w.before #[Value.ref b] s = true := fun w h => hts0 w (lw_all_tbl h)
  have hA : ∀ q : Nat, s.heap.size ≤ q → (fun q : Nat => s.heap.size ≤ q) q := fun _ h => h
  have hbA : ¬ (fun q : Nat => s.heap.size ≤ q) b := Nat.not_le.mpr hbl
  intro n
  induction n with
  | zero =>
    intro i x3 h1 h2
    exact absurd h2 (by omega)
  | succ n ih =>
    intro i x3 hi hin ex3 qx qm wh le H locs hP hD hS ls hl
    have o6 : (6 : Int32).toInt = 6 := by decide +kernel
    have oL : (Int32.ofNat L).toInt = (L : Int) := nI_toInt (n := L) (by omega)
    have oS : (Int32.ofNat L - 6).toInt = (L : Int) - 6 := by rw [Jvm.Kit.i32_sub (by omega) (by omega), oL, o6]
    refine lv_iload_n hx hb dL_law_18 rfl (lv_at hl 3 rfl) ?_
    refine lv_aload_n hx hb dL_law_19 rfl (lv_at hl 0 rfl) ?_
    refine va_slen hx hb hX hbl hbA hS dL_law_20 ?_
    refine lv_bipush (v := 6) hx hb dL_law_21 (by decide) ?_
    refine lv_isub hx hb dL_law_23 ?_
    refine lv_icmp_gt (tgt := 385) hx hb dL_law_24 (by decide) (fun c1 => ?_) (fun c1 => ?_)
    · refine lv_iconst (v := 1) hx hb dL_law_385 (by decide) ?_
      refine va_forget (fun q hq => hS.2.2 q hq) ?_
      refine W.widen (k := 600000) (n := 7290000) (Nat.le_of_ble_eq_true rfl) (Nat.le_of_ble_eq_true rfl) ?_
      exact lw_ret hx hb hr hlocks dL_law_386
    · have h6 : i + 6 ≤ L := by
        have c2 : ¬ (Int32.ofNat L - 6).toInt < x3.toInt := fun q => c1 (Int32.lt_iff_toInt_lt.mpr q)
        omega
      have k379 : ∀ (wh le : Int64) (H : Heap) (locs : List Loc), va_P (dC, dI) vwCl [(qx, .inr (0, [])), (qm, .inr (1, [.long wh, .long le]))] H → va_D (fun q : Nat => s.heap.size ≤ q) [(qx, .inr (0, [])), (qm, .inr (1, [.long wh, .long le]))] → va_S (fun q : Nat => s.heap.size ≤ q) s.heap H locs → W p l e room_1 s m #[Value.ref b] below meth c H locs 2 2 (lw_Z below #[Value.ref b] s) (F0 m 379 ls []) := by
        intro wh le H locs hP hD hS
        obtain ⟨x4, ex4⟩ : ∃ y : Int32, y = x3 + 6 := ⟨_, rfl⟩
        refine lv_iinc (v := x4) (lv' := [(3, .int x4), (0, .ref b), (1, .ref qx), (2, .ref qm)]) hx hb dL_law_379 hl (k := 3) rfl (by rw [ex4]; rfl) (by decide) rfl (fun ls hl => ?_)
        refine lv_goto (tgt := 18) hx hb dL_law_382 (by decide) ?_
        exact ih (i + 6) x4 h6 (by omega) (by rw [ex4, Jvm.Kit.i32_add (by omega) (by omega)]; omega) qx qm wh le H locs hP hD hS ls (lv_sub hl [1, 2, 3, 0] rfl)
      have i0 : vp_in x3 L := vp_in_iff.mpr (by omega)
      have i1 : vp_in (x3 + 1) L := fz_vp (j := 1) ex3 (by decide +kernel) (by omega) hL
      have i2 : vp_in (x3 + 2) L := fz_vp (j := 2) ex3 (by decide +kernel) (by omega) hL
      have i3 : vp_in (x3 + 3) L := fz_vp (j := 3) ex3 (by decide +kernel) (by omega) hL
      have i4 : vp_in (x3 + 4) L := fz_vp (j := 4) ex3 (by decide +kernel) (by omega) hL
      refine lv_aload_n hx hb dL_law_27 rfl (lv_at hl 0 rfl) ?_
      refine lv_iload_n hx hb dL_law_28 rfl (lv_at hl 3 rfl) ?_
      refine va_sld hx hb hX hbl hbA hS i0 dL_law_29 ?_
      refine lv_bipush (v := 7) hx hb dL_law_30 (by decide) ?_
      refine lv_iand hx hb dL_law_32 ?_
      refine lv_topi (fun v ev => ?_)
      have ev2 : v.toInt = (xs x3.toNatClampNeg).toInt % 8 := by
        rw [ev]
        exact Jvm.Kit.i32_mask (k := 3) _ _ (by decide) (by decide +kernel)
      rcases (show v.toInt = 0 ∨ v.toInt = 1 ∨ v.toInt = 2 ∨ v.toInt = 3 ∨ v.toInt = 4 ∨ v.toInt = 5 ∨ v.toInt = 6 ∨ v.toInt = 7 by omega) with hv | hv | hv | hv | hv | hv | hv | hv
      · refine lv_tableIn (off := 43) (tgt := 76) hx hb dL_law_33 (by omega) (by omega) (by rw [hv]; rfl) (by decide) ?_
        exact lc_floorOf hx hb hml hown hts hX hbl hK i1 i2 i3 i4 hP hD hS hl k379
      · refine lv_tableIn (off := 97) (tgt := 130) hx hb dL_law_33 (by omega) (by omega) (by rw [hv]; rfl) (by decide) ?_
        exact lc_restOf hx hb hml hown hts hX hbl hK i1 i2 i3 i4 hP hD hS hl k379
      · refine lv_tableIn (off := 151) (tgt := 184) hx hb dL_law_33 (by omega) (by omega) (by rw [hv]; rfl) (by decide) ?_
        exact lc_rest hx hb hml hown hts hX hbl hK i1 i2 i3 i4 hP hD hS hl k379
      · refine lv_tableIn (off := 194) (tgt := 227) hx hb dL_law_33 (by omega) (by omega) (by rw [hv]; rfl) (by decide) ?_
        exact lc_floor hx hb hml hown hts hX hbl hK i1 i2 i3 i4 hP hD hS hl k379
      · refine lv_tableIn (off := 227) (tgt := 260) hx hb dL_law_33 (by omega) (by omega) (by rw [hv]; rfl) (by decide) ?_
        exact lc_modulo hx hb hml hown hts hX hbl hK i1 i2 i3 i4 hP hD hS hl k379
      · refine lv_tableIn (off := 260) (tgt := 293) hx hb dL_law_33 (by omega) (by omega) (by rw [hv]; rfl) (by decide) ?_
        exact lc_order hx hb hml hown hts hX hbl hK i1 i2 i3 i4 hP hD hS hl k379
      · refine lv_tableIn (off := 293) (tgt := 326) hx hb dL_law_33 (by omega) (by omega) (by rw [hv]; rfl) (by decide) ?_
        exact lc_orderOf hx hb hml hown hts hX hbl hK i1 i2 i3 i4 hP hD hS hl k379
      · refine lv_tableOut (tgt := 379) hx hb dL_law_33 (Or.inr (by omega)) (by decide) ?_
        exact k379 wh le H locs hP hD hS
set_option maxHeartbeats 4000000 in
set_option maxRecDepth 100000 in
/-- from the entry, for every script of at most 288 ints, the law comes to its end with true -/
theorem whole_start {p : Program} {e : Env} {s : State} {m : MethodId} {below : List Frame} {meth : Method} {c : Code} (l : Launch) (hflags : l.flags = flags0) {b L : Nat} {xs : Nat → Int32} (hL : L ≤ 288) (C0 : lw_At p s m meth c b L xs) : W p l e room_1 s m #[Value.ref b] below meth c s.heap [] 0 0 (lw_Z below #[Value.ref b] s) (entryFrame m ([Value.ref b] : List Value).toArray 4) := by
  obtain ⟨hx, hb, hr, hml, hown, hts0, hX, hbl, hlocks, hgv⟩ := id C0
  have hts : ∀ w ∈ lw_all, w.before #[Value.ref b] s = true := fun w h => hts0 w (lw_all_tbl h)
  have hA : ∀ q : Nat, s.heap.size ≤ q → (fun q : Nat => s.heap.size ≤ q) q := fun _ h => h
  obtain ⟨c0, iS0, hKn0⟩ := u_known (C := RX0) (T := TX0) (N := 0) (n := 0) hts in_X0 (hts _ q6)
  obtain ⟨c1, iS1, hKn1⟩ := u_known (C := RX1) (T := TX1) (N := 2) (n := 2) hts in_X1 (hts _ q76)
  obtain ⟨dC, dI, hKc⟩ : ∃ (dC : Nat → ClassId) (dI : Nat → Nat → Nat), ∀ (k : Nat) (q : vw_C), vwCl[k]? = some q → u_Kn s q.1 q.2.1 q.2.2 (dC k) (dI k) := by
    refine ⟨fun k => if k = 0 then c0 else c1, fun k => if k = 0 then iS0 else iS1, ?_⟩
    intro k q hq
    match k, hq with
    | 0, hq => cases hq; exact hKn0
    | 1, hq => cases hq; exact hKn1
    | k + 2, hq => simp [vwCl] at hq
  have hS : va_S (fun q : Nat => s.heap.size ≤ q) s.heap s.heap [] := va_S.rf
  have hK : va_K (dC, dI) vwCl [] s := ⟨hKc, fun k q h => by simp at h⟩
  have hP : va_P (dC, dI) vwCl [] s.heap := fun k q h => by simp at h
  have hD : va_D (fun q : Nat => s.heap.size ≤ q) [] := ⟨fun i j p q h => by simp at h, fun k q h => by simp at h⟩
  have hl := lv_entry ([.ref b]) (n := 4) (Nat.le_of_ble_eq_true rfl)
  rw [lg_entry_eq]
  generalize (lg_sl ([.ref b]) ++ List.replicate (4 - (lg_sl ([.ref b])).length) Slot.unset).toArray = ls at hl ⊢
  have hl : lv_has ls 4 [(0, .ref b)] := hl
  refine va_new (ci := 0) (fs := []) (C := RX0) (T := TX0) (N := 0) hx hb hts in_X0 tyX0 tyX0_ok hown (hts _ q5) (hts _ q6) (hts _ q2) hK hP hD hS hA rfl (fun j hj => absurd hj (Nat.not_lt_zero j)) (Nat.le_of_ble_eq_true rfl) (Nat.le_of_ble_eq_true rfl) dL_law_0 (fun qx H hP hD hS => ?_)
  have hP : va_P (dC, dI) vwCl [(qx, .inr (0, []))] H := hP
  have hD : va_D (fun q : Nat => s.heap.size ≤ q) [(qx, .inr (0, []))] := hD
  refine W.widen (k := 1) (n := 0) (Nat.le_refl 1) (Nat.le_refl 0) ?_
  refine lv_dup hx hb dL_law_3 rfl ?_
  refine fz_callIv (b := qx) (As := []) (rest := [.ref qx]) ⟨hx, hb, hml, hown, hts⟩ (mf_init l qx) (cwI 0 hts (lw_meth q9) rfl rfl rfl (hts _ q2) (hts _ q7) (hts _ q8) rfl (by decide +kernel) ⟨Nat.le_of_ble_eq_true rfl, Nat.le_of_ble_eq_true rfl⟩) rfl hl.1 rfl (Nat.le_of_ble_eq_true rfl) dL_law_4 ⟨Nat.le_of_ble_eq_true rfl, Nat.le_of_ble_eq_true rfl⟩ hS (fun H1 locs hz hk hS => ?_)
  have hP := fz_keep hP hk
  clear hk hz
  generalize H1 = H at hP hS ⊢
  refine lv_astore_n (lv' := [(1, .ref qx), (0, .ref b)]) hx hb dL_law_7 rfl hl (by decide) rfl (fun ls hl => ?_)
  refine va_new (ci := 1) (fs := [.long 0, .long 0]) (C := RX1) (T := TX1) (N := 2) hx hb hts in_X1 tyX1 tyX1_ok hown (hts _ q75) (hts _ q76) (hts _ q3) hK hP hD hS hA rfl (fun j hj => by rcases (show j = 0 ∨ j = 1 by omega) with rfl | rfl <;> rfl) (Nat.le_of_ble_eq_true rfl) (Nat.le_of_ble_eq_true rfl) dL_law_8 (fun qm H hP hD hS => ?_)
  have hP : va_P (dC, dI) vwCl [(qx, .inr (0, [])), (qm, .inr (1, [.long 0, .long 0]))] H := hP
  have hD : va_D (fun q : Nat => s.heap.size ≤ q) [(qx, .inr (0, [])), (qm, .inr (1, [.long 0, .long 0]))] := hD
  refine W.widen (k := 2) (n := 2) (Nat.le_refl 2) (Nat.le_refl 2) ?_
  refine lv_dup hx hb dL_law_11 rfl ?_
  refine fz_callIv (b := qm) (As := []) (rest := [.ref qm]) ⟨hx, hb, hml, hown, hts⟩ (mr_init l qm) (cwI 0 hts (lw_meth q79) rfl rfl rfl (hts _ q3) (hts _ q77) (hts _ q78) rfl (by decide +kernel) ⟨Nat.le_of_ble_eq_true rfl, Nat.le_of_ble_eq_true rfl⟩) rfl hl.1 rfl (Nat.le_of_ble_eq_true rfl) dL_law_12 ⟨Nat.le_of_ble_eq_true rfl, Nat.le_of_ble_eq_true rfl⟩ hS (fun H1 locs hz hk hS => ?_)
  have hP := fz_keep hP hk
  clear hk hz
  generalize H1 = H at hP hS ⊢
  refine lv_astore_n (lv' := [(2, .ref qm), (1, .ref qx), (0, .ref b)]) hx hb dL_law_15 rfl hl (by decide) rfl (fun ls hl => ?_)
  refine lv_iconst (v := 0) hx hb dL_law_16 (by decide) ?_
  refine lv_istore_n (lv' := [(3, .int 0), (2, .ref qm), (1, .ref qx), (0, .ref b)]) hx hb dL_law_17 rfl hl (by decide) rfl (fun ls hl => ?_)
  exact law_loop hL C0 hK (L + 1) 0 0 (Nat.zero_le L) (by omega) (by decide +kernel) qx qm 0 0 H locs hP hD hS ls (lv_sub hl [3, 2, 1, 0] rfl)
end
section
set_option maxHeartbeats 4000000 in
theorem lw_walk (l : Launch) (hflags : l.flags = flags0) (b : Addr) (xs : List Int32) : MetFree l x (headSpec (Jvm.Cond.code x code maxLocals ret :: tables_1) room_1) (lw_P b xs) (fun _ _ _ _ _ => True) lw_Q := by
  refine MetFree.of_bodyS (code := code) (maxLocals := maxLocals) (ret := ret) (by decide) ?_ ?_
  · intro args s m h hn
    obtain ⟨meth, c, h1, h2, h3, h4, h5, h6, -, -⟩ := Cond.code_spec hn (atoms_spec (ws := Jvm.Cond.code x code maxLocals ret :: tables_1) h _ List.mem_cons_self)
    exact ⟨meth, c, h1, h2, h3, h4, h5, h6⟩
  · intro p e s m args below meth c s₁ B hml0 hP _
    obtain ⟨rfl, hx, hbd, hgv⟩ := hP
    obtain ⟨scr, harrAt, hlist, hof, hsmall⟩ := hx
    obtain ⟨hcb, hkn, -, -⟩ := State.arrayAt?_spec harrAt
    have hown : s.vm.findClass R_law = some m.cls := findClass_of_methodNamed B.named
    have hts0 : ∀ c ∈ (Jvm.Cond.code x code maxLocals ret :: tables_1), c.before #[Value.ref b] s = true := atoms_spec (ws := Jvm.Cond.code x code maxLocals ret :: tables_1) B.pre
    have hts : ∀ w ∈ lw_tbl, w.before #[Value.ref b] s = true := k2_hts_sels lw_privs (fun w hw => hts0 w (List.mem_cons_of_mem _ hw)) lw_privs_ok
    have hml : c.maxLocals = 4 := B.maxLocals_eq (hts0 _ List.mem_cons_self)
    have X₀ : Stand p l e room_1 s m #[Value.ref b] below meth c s₁ [] 0 0 := Stand.of_body B
    have hh0 : s₁.heap = s.heap := by rw [B.state]; rfl
    have hsz : scr.slots.size = xs.length := by rw [← Array.length_toList, hlist, List.length_map]
    have hval : ∀ j : Nat, j < xs.length → scr.slots[j]? = some (.int (xs.getD j 0)) := fun j hj => by
      rw [← Array.getElem?_toList, hlist]
      simp [hj]
    have hbl : b < s.heap.size := (Array.getElem?_eq_some_iff.mp hcb).1
    have hX : va_X b xs.length (fun j => xs.getD j 0) s s.heap := ⟨scr, hcb, hof, hkn, hsz, hval⟩
    have K : W p l e room_1 s m #[Value.ref b] below meth c s₁.heap [] 0 0 (lw_Z below #[Value.ref b] s) (entryFrame m ([Value.ref b] : List Value).toArray 4) := by
      rw [hh0]
      exact whole_start l hflags hbd ⟨B.exec, B.bytes, B.returns, hml, hown, hts, hX, hbl, B.notSynchronized, hgv⟩
    obtain ⟨t, a1, o, b1, b2, b3⟩ := K s₁ rfl X₀
    exact ⟨t, o, a1, b1, b2, b3⟩
theorem lw_pre_spec {args : Array Value} {s : State} (h : (Jvm.Cond.and given_1 narrow_1).before args s = true) (hr : rest_1_c.before args s = true) : ∃ (b : Addr) (xs : List Int32), lw_P b xs args s := by
  have hs := flat_of_before _ h
  have hq := flat_of_before _ hr
  have hc : (Cond.count 1).before args s = true := hs _ (by decide +kernel)
  have harr : (Cond.arrayOf (.arg 0) .int).before args s = true := hs _ (by decide +kernel)
  have hle : (Cond.le (.length (.arg 0)) (.int 288)).before args s = true := hs _ (by decide +kernel)
  have hlen : (Cond.isInt (.length (.arg 0))).before args s = true := hq _ (by decide +kernel)
  have hall : (Cond.all (.arg 0) (.isInt (.elem (.arg 0) (.index 0)))).before args s = true := hq _ (by decide +kernel)
  obtain ⟨b, xs, hb, hx⟩ := State.ints_of_pre rfl harr hlen hall
  have hsm : xs.length < 2 ^ 31 := hx.choose_spec.2.2.2
  have hev : (Term.length (.arg 0)).eval args s none [] s = some (.int xs.length.toInt32) := hx.length_eval hb
  have hv := Cond.le_ints hev (show (Term.int 288).eval args s none [] s = some (.int 288) from rfl)
  have hd : xs.length.toInt32 ≤ 288 := by
    simpa [Cond.before, Cond.holds, hv] using hle
  have hN : xs.length ≤ 288 := (Int32.ofNat_le_ofNat hsm (by decide)).mp (show Int32.ofNat xs.length ≤ Int32.ofNat 288 from hd)
  exact ⟨b, xs, Cond.one_arg hc (show args[0]? = some (.ref b) from hb), hx, hN, h⟩
theorem lw_comes (l : Launch) (hflags : l.flags = flags0) : Comes l x (Jvm.Cond.code x code maxLocals ret :: tables_1) room_1 (fun tb e args s => Calls_1 tb e args s ∧ rest_1 tb e args s ∧ Pre_1 tb e args s)
    (fun _ _ args s o t => lw_Q args s o t) := by
  intro p e ha hc hk s m args below hf hfit hheap happ hpre
  obtain ⟨b, xs, hP⟩ := lw_pre_spec hpre.2.2 hpre.2.1
  obtain ⟨k, o, h1, h2, h3, hQ⟩ := lw_walk l hflags b xs p e ha hc hk s m args below hf ((Spec.applies_iff_loose hf).mp happ).1 hP trivial
  exact ⟨k, o, h1, h2, h3, hQ⟩
theorem lw_frame {s t : State} {o : Outcome} {args : Array Value} (h : Framed s o t [] 600000 7290000) :
    Framed s o t (fieldLocs frame_1_writes args s ++ arrayLocs frame_1_arrays args s ++ staticLocs frame_1_statics s) 600000 7290000 := h
theorem lw_limb (L : Cond) (hL : ∀ (args : Array Value) (s t : State), L.after args s (.returned (some (.int 1))) t = true) :
    ArmFor flags0 classFile x code maxLocals ret World_1 tables_1 room_1 Calls_1 rest_1 Pre_1
      (fun tb e a s o t => postC L tb e a s o t ∧ Framed s o t (fieldLocs frame_1_writes a s ++ arrayLocs frame_1_arrays a s ++ staticLocs frame_1_statics s) 600000 7290000) := by
  intro l hflags _ _ p e ha hc hk s m args below hf hfit hheap happ hpre
  obtain ⟨k, o, h1, h2, h3, rfl, hF⟩ := lw_comes l hflags p e ha hc hk s m args below hf hfit hheap happ hpre
  exact ⟨k, _, h1, h2, h3, hL args s _, lw_frame hF⟩
theorem i_vc : Claimed_1_1 ∧ Claimed_1_2 := ⟨lw_limb limb_1_1 (fun args s t => by simp [limb_1_1, Cond.after, Cond.holds, Cond.value]), lw_limb limb_1_2 (fun args s t => Cond.after_iff.mpr (by
  first | (rw [show limb_1_2 = Cond.eq .result (.int 1) from rfl, Cond.eq_ints (x := 1) (y := 1) rfl rfl]; simp; done) | (simp [limb_1_2, Cond.value, Term.eval]; done)))⟩
end
