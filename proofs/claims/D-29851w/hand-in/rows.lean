section
-- ===== PART A: goes FIRST, ahead of the names: the tables' words, and 'selects' of the private methods out of them =====
/-- a private method of a class that the tables say can be made, by its rows of tables_1 -/
def lw_okq (q : MethodName × Nat) : Prop := (q.1.cls ≠ "java/lang/invoke/MethodHandle" ∧ q.1.cls ≠ "java/lang/invoke/VarHandle") ∧ Cond.instantiable q.1.cls q.2 ∈ tables_1 ∧ Cond.privateMethod q.1 ∈ tables_1 ∧ Cond.instanceMethod q.1 ∈ tables_1
set_option maxRecDepth 100000
theorem lw_p0 : lw_okq (⟨"java/lang/Throwable", "fillInStackTrace", "(I)Ljava/lang/Throwable;"⟩, 6) := ⟨⟨by decide +kernel, by decide +kernel⟩, List.mem_of_getElem? (i := 94) rfl, List.mem_of_getElem? (i := 92) rfl, List.mem_of_getElem? (i := 93) rfl⟩
def lw_privs_1 : List (MethodName × Nat) := [(⟨"java/lang/Throwable", "fillInStackTrace", "(I)Ljava/lang/Throwable;"⟩, 6)]
theorem lw_r1 : ∀ q ∈ lw_privs_1, lw_okq q := List.forall_mem_cons.mpr ⟨lw_p0, fun _ h => absurd h List.not_mem_nil⟩
def lw_privs : List (MethodName × Nat) := lw_privs_1
def lw_tbl : List Cond := k2_sels lw_privs ++ tables_1
theorem lw_privs_ok : ∀ q ∈ lw_privs, lw_okq q := lw_r1
-- ===== ONE list of words for every method: the tables' words that hold all through a run =====
def lw_all : List Cond := lw_tbl.filter goodWord
/-- a word of the tables by its place: claim/WORDS.tsv -/
theorem lw_w {w : Cond} (i : Nat) (h : lw_tbl[i]? = some w) (g : goodWord w = true) : w ∈ lw_all := List.mem_filter.mpr ⟨List.mem_of_getElem? h, g⟩
theorem lw_all_tbl {w : Cond} (h : w ∈ lw_all) : w ∈ lw_tbl := (List.mem_filter.mp h).1
theorem lw_self : GoodIn lw_all lw_all := fun w h => ⟨h, good_of_word (List.mem_filter.mp h).2⟩
/-- a class's field words, by their places -/
theorem lw_in (ws : List Cond) (ps : List Nat) (hp : ws = ps.filterMap (fun i => lw_tbl[i]?)) (hg : ws.all goodWord = true) : ∀ w ∈ ws, w ∈ lw_all := by
  intro w h
  have h1 := List.all_eq_true.mp hg w h
  rw [hp] at h
  obtain ⟨i, -, hi⟩ := List.mem_filterMap.mp h
  exact lw_w i hi h1
/-- the words of a contract for the method y with code b, L locals, answer r -/
abbrev ws_ (y : MethodName) (b : ByteArray) (L : Nat) (r : Option FieldType) : List Cond := Cond.code y b L r :: lw_all
theorem lw_meth {y : MethodName} {b : ByteArray} {L : Nat} {r : Option FieldType} (h : Cond.code y b L r ∈ lw_all) : GoodIn lw_all (ws_ y b L r) := by
  intro w hw
  rcases List.mem_cons.mp hw with e | e
  · rw [e]
    exact lw_self _ h
  · exact lw_self _ e
theorem lw_app {a c : List Cond} (ha : ∀ w ∈ a, w ∈ lw_all) (hc : GoodIn lw_all c) : GoodIn lw_all (a ++ c) := by
  intro w hw
  rcases List.mem_append.mp hw with e | e
  · exact lw_self w (ha w e)
  · exact hc w e
/-- what a call through an object asks: cwV n hts (lw_V ..) -/
theorem lw_V {own : String} {idx : Nat} {C : String} {y : MethodName} {b : ByteArray} {L : Nat} {r : Option FieldType} (h1 : Cond.methodLink own idx y ∈ lw_all) (h2 : Cond.instanceMethod y ∈ lw_all) (h3 : Cond.selects C y y ∈ lw_all) (h4 : Cond.initialized C ∈ lw_all) (h5 : Cond.code y b L r ∈ lw_all) : GoodIn lw_all (wsV own idx C y (ws_ y b L r)) := by
  refine lw_app ?_ (lw_meth h5)
  intro w hw
  simp only [List.mem_cons, List.not_mem_nil, or_false] at hw
  rcases hw with e | e | e | e
  · rw [e]; exact h1
  · rw [e]; exact h2
  · rw [e]; exact h3
  · rw [e]; exact h4
/-- what a static call asks: va_cwS n hts (lw_S ..) -/
theorem lw_S {own : String} {idx : Nat} {y : MethodName} {b : ByteArray} {L : Nat} {r : Option FieldType} (h1 : Cond.methodLink own idx y ∈ lw_all) (h2 : Cond.static y ∈ lw_all) (h3 : Cond.initialized y.cls ∈ lw_all) (h4 : Cond.code y b L r ∈ lw_all) : GoodIn lw_all (va_wsS own idx y (ws_ y b L r)) := by
  refine lw_app ?_ (lw_meth h4)
  intro w hw
  simp only [List.mem_cons, List.not_mem_nil, or_false] at hw
  rcases hw with e | e | e
  · rw [e]; exact h1
  · rw [e]; exact h2
  · rw [e]; exact h3
/-- the words of a contract for a method WITH HANDLERS (hh: its table) -/
abbrev wsW_ (y : MethodName) (b : ByteArray) (L : Nat) (r : Option FieldType) (hh : List (Nat × Nat × Nat × Nat)) : List Cond := Cond.codeWith y b L r hh :: lw_all
theorem lw_methW {y : MethodName} {b : ByteArray} {L : Nat} {r : Option FieldType} {hh : List (Nat × Nat × Nat × Nat)} (h : Cond.codeWith y b L r hh ∈ lw_all) : GoodIn lw_all (wsW_ y b L r hh) := by
  intro w hw
  rcases List.mem_cons.mp hw with e | e
  · rw [e]
    exact lw_self _ h
  · exact lw_self _ e
/-- any list of words by their places (lw_in), good -/
theorem lw_good {ws : List Cond} (h : ∀ w ∈ ws, w ∈ lw_all) : GoodIn lw_all ws := fun w hw => lw_self w (h w hw)
/-- what a call of a method with handlers asks: vx_cwVW n hts (lw_VW ..), vx_cwSW n hts (lw_SW ..) -/
theorem lw_VW {own : String} {idx : Nat} {C : String} {y : MethodName} {b : ByteArray} {L : Nat} {r : Option FieldType} {hh : List (Nat × Nat × Nat × Nat)} (h1 : Cond.methodLink own idx y ∈ lw_all) (h2 : Cond.instanceMethod y ∈ lw_all) (h3 : Cond.selects C y y ∈ lw_all) (h4 : Cond.initialized C ∈ lw_all) (h5 : Cond.codeWith y b L r hh ∈ lw_all) : GoodIn lw_all (wsV own idx C y (wsW_ y b L r hh)) := by
  refine lw_app ?_ (lw_methW h5)
  intro w hw
  simp only [List.mem_cons, List.not_mem_nil, or_false] at hw
  rcases hw with e | e | e | e
  · rw [e]; exact h1
  · rw [e]; exact h2
  · rw [e]; exact h3
  · rw [e]; exact h4
theorem lw_SW {own : String} {idx : Nat} {y : MethodName} {b : ByteArray} {L : Nat} {r : Option FieldType} {hh : List (Nat × Nat × Nat × Nat)} (h1 : Cond.methodLink own idx y ∈ lw_all) (h2 : Cond.static y ∈ lw_all) (h3 : Cond.initialized y.cls ∈ lw_all) (h4 : Cond.codeWith y b L r hh ∈ lw_all) : GoodIn lw_all (va_wsS own idx y (wsW_ y b L r hh)) := by
  refine lw_app ?_ (lw_methW h4)
  intro w hw
  simp only [List.mem_cons, List.not_mem_nil, or_false] at hw
  rcases hw with e | e | e
  · rw [e]; exact h1
  · rw [e]; exact h2
  · rw [e]; exact h3
/-- a word by its place in its run of the tables -/
theorem lw_at {r : List Cond} (hr : ∀ w ∈ r, w ∈ lw_tbl) {w : Cond} (i : Nat) (h : r[i]? = some w) : w ∈ lw_tbl := hr w (List.mem_of_getElem? h)
theorem lw_g {w : Cond} (h : w ∈ lw_tbl) (g : goodWord w = true) : w ∈ lw_all := List.mem_filter.mpr ⟨h, g⟩
theorem lw_ms : ∀ w ∈ k2_sels lw_privs, w ∈ lw_tbl := fun w h => show w ∈ k2_sels lw_privs ++ tables_1 from List.mem_append_left _ h
theorem lw_m0 : ∀ w ∈ tables_1, w ∈ lw_tbl := fun w h => show w ∈ k2_sels lw_privs ++ tables_1 from List.mem_append_right (k2_sels lw_privs) h
theorem qs0 : (Cond.selects "java/lang/Throwable" ⟨"java/lang/Throwable", "fillInStackTrace", "(I)Ljava/lang/Throwable;"⟩ ⟨"java/lang/Throwable", "fillInStackTrace", "(I)Ljava/lang/Throwable;"⟩) ∈ lw_all := lw_g (lw_at lw_ms 0 rfl) rfl
end
section
/-! DECODE ROWS BY BYTES: one lemma an opcode; a method's code is cut into short pieces once, and a row reads its own piece alone. -/
set_option maxRecDepth 100000
/-- the code has just these bytes from pc on -/
def DkAt (code : ByteArray) (pc : Nat) (bs : List UInt8) : Prop := ∀ (j : Nat) (b : UInt8), bs[j]? = some b → code.data.toList[pc + j]? = some b
/-- the piece W has the bytes bs from its place j on -/
def dkIn (W : List UInt8) (j : Nat) (bs : List UInt8) : Bool := decide ((W.drop j).take bs.length = bs)
theorem dk_seg {l W T : List UInt8} {o o2 : Nat} (h : l.drop o = W ++ T) (n : Nat) (hn : W.length = n) (ho : o + n = o2) : l.drop o2 = T := by
  subst ho
  rw [← List.drop_drop, h, List.drop_left' hn]
theorem dk_at {code : ByteArray} {W T bs : List UInt8} {o pc : Nat} (h : code.data.toList.drop o = W ++ T) (j : Nat) (hp : o + j = pc) (hw : dkIn W j bs = true) : DkAt code pc bs := by
  subst hp
  intro i b e
  have h1 := of_decide_eq_true hw
  have h2 : i < bs.length := (List.getElem?_eq_some_iff.mp e).1
  have h3 : W[j + i]? = some b := by
    rw [← h1, List.getElem?_take, if_pos h2, List.getElem?_drop] at e
    exact e
  have h4 : j + i < W.length := (List.getElem?_eq_some_iff.mp h3).1
  have h5 : (code.data.toList.drop o)[j + i]? = some b := by
    rw [h, List.getElem?_append_left h4]
    exact h3
  rw [List.getElem?_drop, ← Nat.add_assoc] at h5
  exact h5
theorem dk_u1 {A : ByteArray} {p : Nat} {b : UInt8} (h : A.data.toList[p]? = some b) : (Reader.u1 : Reader DecodeError Nat) A p = .ok (b.toNat, p + 1) := by
  obtain ⟨h1, h2⟩ := List.getElem?_eq_some_iff.mp h
  have h3 : p < A.size := by simpa using h1
  have h4 : A[p]'h3 = b := h2
  have e : (Reader.u1 : Reader DecodeError Nat) A p = (if h : p < A.size then .ok (A[p].toNat, p + 1) else .error (HasTruncated.truncated p)) := by
    show (do if h : p < A.size then do set (p + 1); Pure.pure A[p].toNat else MonadExcept.throw (HasTruncated.truncated p) : Reader DecodeError Nat) A p = _
    by_cases hi : p < A.size
    · rw [dif_pos hi, dif_pos hi]; rfl
    · rw [dif_neg hi, dif_neg hi]; rfl
  rw [e, dif_pos h3, h4]
theorem dk_bind {α β : Type} {r : Reader DecodeError α} {f : α → Reader DecodeError β} {A : ByteArray} {p s : Nat} {a : α} (h : r A p = .ok (a, s)) : (r >>= f) A p = f a A s := by
  show (do let (a, s) ← r A p; f a A s : Except DecodeError (β × Nat)) = _
  rw [h]
  rfl
theorem dk_map {α β : Type} {r : Reader DecodeError α} {g : α → β} {A : ByteArray} {p s : Nat} {a : α} (h : r A p = .ok (a, s)) : (g <$> r) A p = .ok (g a, s) := by
  show (do let (a, s) ← r A p; .ok (g a, s) : Except DecodeError (β × Nat)) = _
  rw [h]
  rfl
theorem dk_u2 {A : ByteArray} {p : Nat} {a b : UInt8} (h : A.data.toList[p]? = some a) (h2 : A.data.toList[p + 1]? = some b) : (Reader.u2 : Reader DecodeError Nat) A p = .ok (a.toNat * 256 + b.toNat, p + 2) := by
  show (Reader.u1 >>= fun hi => Reader.u1 >>= fun lo => Pure.pure (hi * 256 + lo) : Reader DecodeError Nat) A p = _
  rw [dk_bind (dk_u1 h), dk_bind (dk_u1 h2)]
  rfl
theorem dk_of {code : ByteArray} {pc n : Nat} {i : Instr} (h : Decoder.instr pc code pc = .ok (i, pc + n)) : decode code pc = .ok (i, n) := by
  have e : decode code pc = (match Decoder.instr pc code pc with | .error x => .error x | .ok (j, s) => .ok (j, s - pc)) := by
    show (do let (j, s) ← Decoder.instr pc code pc; Pure.pure (j, s - pc) : Except DecodeError (Instr × Nat)) = _
    cases Decoder.instr pc code pc <;> rfl
  rw [e, h]
  show Except.ok (i, pc + n - pc) = _
  rw [Nat.add_sub_cancel_left]
theorem dk_1 {code : ByteArray} {pc : Nat} (h : DkAt code pc [1]) : decode code pc = .ok (.aconst_null, 1) := dk_of ((dk_bind (dk_u1 (h 0 _ rfl))).trans rfl)
theorem dk_2 {code : ByteArray} {pc : Nat} (h : DkAt code pc [2]) : decode code pc = .ok (.iconst (-1), 1) := dk_of ((dk_bind (dk_u1 (h 0 _ rfl))).trans rfl)
theorem dk_3 {code : ByteArray} {pc : Nat} (h : DkAt code pc [3]) : decode code pc = .ok (.iconst 0, 1) := dk_of ((dk_bind (dk_u1 (h 0 _ rfl))).trans rfl)
theorem dk_4 {code : ByteArray} {pc : Nat} (h : DkAt code pc [4]) : decode code pc = .ok (.iconst 1, 1) := dk_of ((dk_bind (dk_u1 (h 0 _ rfl))).trans rfl)
theorem dk_5 {code : ByteArray} {pc : Nat} (h : DkAt code pc [5]) : decode code pc = .ok (.iconst 2, 1) := dk_of ((dk_bind (dk_u1 (h 0 _ rfl))).trans rfl)
theorem dk_6 {code : ByteArray} {pc : Nat} (h : DkAt code pc [6]) : decode code pc = .ok (.iconst 3, 1) := dk_of ((dk_bind (dk_u1 (h 0 _ rfl))).trans rfl)
theorem dk_7 {code : ByteArray} {pc : Nat} (h : DkAt code pc [7]) : decode code pc = .ok (.iconst 4, 1) := dk_of ((dk_bind (dk_u1 (h 0 _ rfl))).trans rfl)
theorem dk_8 {code : ByteArray} {pc : Nat} (h : DkAt code pc [8]) : decode code pc = .ok (.iconst 5, 1) := dk_of ((dk_bind (dk_u1 (h 0 _ rfl))).trans rfl)
theorem dk_16 {code : ByteArray} {pc : Nat} (a : UInt8) (h : DkAt code pc [16, a]) : decode code pc = .ok (.bipush (Reader.signed 8 a.toNat), 2) := dk_of ((dk_bind (dk_u1 (h 0 _ rfl))).trans ((dk_bind (dk_map (dk_u1 (h 1 _ rfl)))).trans rfl))
theorem dk_17 {code : ByteArray} {pc : Nat} (a b : UInt8) (h : DkAt code pc [17, a, b]) : decode code pc = .ok (.sipush (Reader.signed 16 (a.toNat * 256 + b.toNat)), 3) := dk_of ((dk_bind (dk_u1 (h 0 _ rfl))).trans ((dk_bind (dk_map (dk_u2 (h 1 _ rfl) (h 2 _ rfl)))).trans rfl))
theorem dk_18 {code : ByteArray} {pc : Nat} (a : UInt8) (h : DkAt code pc [18, a]) : decode code pc = .ok (.ldc a.toNat, 2) := dk_of ((dk_bind (dk_u1 (h 0 _ rfl))).trans ((dk_bind (dk_u1 (h 1 _ rfl))).trans rfl))
theorem dk_19 {code : ByteArray} {pc : Nat} (a b : UInt8) (h : DkAt code pc [19, a, b]) : decode code pc = .ok (.ldc_w (a.toNat * 256 + b.toNat), 3) := dk_of ((dk_bind (dk_u1 (h 0 _ rfl))).trans ((dk_bind (dk_u2 (h 1 _ rfl) (h 2 _ rfl))).trans rfl))
theorem dk_21 {code : ByteArray} {pc : Nat} (a : UInt8) (h : DkAt code pc [21, a]) : decode code pc = .ok (.iload a.toNat, 2) := dk_of ((dk_bind (dk_u1 (h 0 _ rfl))).trans ((dk_bind (dk_u1 (h 1 _ rfl))).trans rfl))
theorem dk_25 {code : ByteArray} {pc : Nat} (a : UInt8) (h : DkAt code pc [25, a]) : decode code pc = .ok (.aload a.toNat, 2) := dk_of ((dk_bind (dk_u1 (h 0 _ rfl))).trans ((dk_bind (dk_u1 (h 1 _ rfl))).trans rfl))
theorem dk_26 {code : ByteArray} {pc : Nat} (h : DkAt code pc [26]) : decode code pc = .ok (.iload_n 0, 1) := dk_of ((dk_bind (dk_u1 (h 0 _ rfl))).trans rfl)
theorem dk_27 {code : ByteArray} {pc : Nat} (h : DkAt code pc [27]) : decode code pc = .ok (.iload_n 1, 1) := dk_of ((dk_bind (dk_u1 (h 0 _ rfl))).trans rfl)
theorem dk_28 {code : ByteArray} {pc : Nat} (h : DkAt code pc [28]) : decode code pc = .ok (.iload_n 2, 1) := dk_of ((dk_bind (dk_u1 (h 0 _ rfl))).trans rfl)
theorem dk_29 {code : ByteArray} {pc : Nat} (h : DkAt code pc [29]) : decode code pc = .ok (.iload_n 3, 1) := dk_of ((dk_bind (dk_u1 (h 0 _ rfl))).trans rfl)
theorem dk_42 {code : ByteArray} {pc : Nat} (h : DkAt code pc [42]) : decode code pc = .ok (.aload_n 0, 1) := dk_of ((dk_bind (dk_u1 (h 0 _ rfl))).trans rfl)
theorem dk_43 {code : ByteArray} {pc : Nat} (h : DkAt code pc [43]) : decode code pc = .ok (.aload_n 1, 1) := dk_of ((dk_bind (dk_u1 (h 0 _ rfl))).trans rfl)
theorem dk_44 {code : ByteArray} {pc : Nat} (h : DkAt code pc [44]) : decode code pc = .ok (.aload_n 2, 1) := dk_of ((dk_bind (dk_u1 (h 0 _ rfl))).trans rfl)
theorem dk_45 {code : ByteArray} {pc : Nat} (h : DkAt code pc [45]) : decode code pc = .ok (.aload_n 3, 1) := dk_of ((dk_bind (dk_u1 (h 0 _ rfl))).trans rfl)
theorem dk_46 {code : ByteArray} {pc : Nat} (h : DkAt code pc [46]) : decode code pc = .ok (.iaload, 1) := dk_of ((dk_bind (dk_u1 (h 0 _ rfl))).trans rfl)
theorem dk_50 {code : ByteArray} {pc : Nat} (h : DkAt code pc [50]) : decode code pc = .ok (.aaload, 1) := dk_of ((dk_bind (dk_u1 (h 0 _ rfl))).trans rfl)
theorem dk_54 {code : ByteArray} {pc : Nat} (a : UInt8) (h : DkAt code pc [54, a]) : decode code pc = .ok (.istore a.toNat, 2) := dk_of ((dk_bind (dk_u1 (h 0 _ rfl))).trans ((dk_bind (dk_u1 (h 1 _ rfl))).trans rfl))
theorem dk_58 {code : ByteArray} {pc : Nat} (a : UInt8) (h : DkAt code pc [58, a]) : decode code pc = .ok (.astore a.toNat, 2) := dk_of ((dk_bind (dk_u1 (h 0 _ rfl))).trans ((dk_bind (dk_u1 (h 1 _ rfl))).trans rfl))
theorem dk_59 {code : ByteArray} {pc : Nat} (h : DkAt code pc [59]) : decode code pc = .ok (.istore_n 0, 1) := dk_of ((dk_bind (dk_u1 (h 0 _ rfl))).trans rfl)
theorem dk_60 {code : ByteArray} {pc : Nat} (h : DkAt code pc [60]) : decode code pc = .ok (.istore_n 1, 1) := dk_of ((dk_bind (dk_u1 (h 0 _ rfl))).trans rfl)
theorem dk_61 {code : ByteArray} {pc : Nat} (h : DkAt code pc [61]) : decode code pc = .ok (.istore_n 2, 1) := dk_of ((dk_bind (dk_u1 (h 0 _ rfl))).trans rfl)
theorem dk_62 {code : ByteArray} {pc : Nat} (h : DkAt code pc [62]) : decode code pc = .ok (.istore_n 3, 1) := dk_of ((dk_bind (dk_u1 (h 0 _ rfl))).trans rfl)
theorem dk_75 {code : ByteArray} {pc : Nat} (h : DkAt code pc [75]) : decode code pc = .ok (.astore_n 0, 1) := dk_of ((dk_bind (dk_u1 (h 0 _ rfl))).trans rfl)
theorem dk_76 {code : ByteArray} {pc : Nat} (h : DkAt code pc [76]) : decode code pc = .ok (.astore_n 1, 1) := dk_of ((dk_bind (dk_u1 (h 0 _ rfl))).trans rfl)
theorem dk_77 {code : ByteArray} {pc : Nat} (h : DkAt code pc [77]) : decode code pc = .ok (.astore_n 2, 1) := dk_of ((dk_bind (dk_u1 (h 0 _ rfl))).trans rfl)
theorem dk_78 {code : ByteArray} {pc : Nat} (h : DkAt code pc [78]) : decode code pc = .ok (.astore_n 3, 1) := dk_of ((dk_bind (dk_u1 (h 0 _ rfl))).trans rfl)
theorem dk_79 {code : ByteArray} {pc : Nat} (h : DkAt code pc [79]) : decode code pc = .ok (.iastore, 1) := dk_of ((dk_bind (dk_u1 (h 0 _ rfl))).trans rfl)
theorem dk_87 {code : ByteArray} {pc : Nat} (h : DkAt code pc [87]) : decode code pc = .ok (.pop, 1) := dk_of ((dk_bind (dk_u1 (h 0 _ rfl))).trans rfl)
theorem dk_89 {code : ByteArray} {pc : Nat} (h : DkAt code pc [89]) : decode code pc = .ok (.dup, 1) := dk_of ((dk_bind (dk_u1 (h 0 _ rfl))).trans rfl)
theorem dk_96 {code : ByteArray} {pc : Nat} (h : DkAt code pc [96]) : decode code pc = .ok (.iadd, 1) := dk_of ((dk_bind (dk_u1 (h 0 _ rfl))).trans rfl)
theorem dk_100 {code : ByteArray} {pc : Nat} (h : DkAt code pc [100]) : decode code pc = .ok (.isub, 1) := dk_of ((dk_bind (dk_u1 (h 0 _ rfl))).trans rfl)
theorem dk_112 {code : ByteArray} {pc : Nat} (h : DkAt code pc [112]) : decode code pc = .ok (.irem, 1) := dk_of ((dk_bind (dk_u1 (h 0 _ rfl))).trans rfl)
theorem dk_120 {code : ByteArray} {pc : Nat} (h : DkAt code pc [120]) : decode code pc = .ok (.ishl, 1) := dk_of ((dk_bind (dk_u1 (h 0 _ rfl))).trans rfl)
theorem dk_122 {code : ByteArray} {pc : Nat} (h : DkAt code pc [122]) : decode code pc = .ok (.ishr, 1) := dk_of ((dk_bind (dk_u1 (h 0 _ rfl))).trans rfl)
theorem dk_124 {code : ByteArray} {pc : Nat} (h : DkAt code pc [124]) : decode code pc = .ok (.iushr, 1) := dk_of ((dk_bind (dk_u1 (h 0 _ rfl))).trans rfl)
theorem dk_126 {code : ByteArray} {pc : Nat} (h : DkAt code pc [126]) : decode code pc = .ok (.iand, 1) := dk_of ((dk_bind (dk_u1 (h 0 _ rfl))).trans rfl)
theorem dk_128 {code : ByteArray} {pc : Nat} (h : DkAt code pc [128]) : decode code pc = .ok (.ior, 1) := dk_of ((dk_bind (dk_u1 (h 0 _ rfl))).trans rfl)
theorem dk_130 {code : ByteArray} {pc : Nat} (h : DkAt code pc [130]) : decode code pc = .ok (.ixor, 1) := dk_of ((dk_bind (dk_u1 (h 0 _ rfl))).trans rfl)
theorem dk_132 {code : ByteArray} {pc : Nat} (a b : UInt8) (h : DkAt code pc [132, a, b]) : decode code pc = .ok (.iinc a.toNat (Reader.signed 8 b.toNat), 3) := dk_of ((dk_bind (dk_u1 (h 0 _ rfl))).trans ((dk_bind (dk_u1 (h 1 _ rfl))).trans ((dk_bind (dk_map (dk_u1 (h 2 _ rfl)))).trans rfl)))
theorem dk_145 {code : ByteArray} {pc : Nat} (h : DkAt code pc [145]) : decode code pc = .ok (.i2b, 1) := dk_of ((dk_bind (dk_u1 (h 0 _ rfl))).trans rfl)
theorem dk_153 {code : ByteArray} {pc : Nat} (a b : UInt8) (h : DkAt code pc [153, a, b]) : decode code pc = .ok (.ifCond .eq (Reader.signed 16 (a.toNat * 256 + b.toNat)), 3) := dk_of ((dk_bind (dk_u1 (h 0 _ rfl))).trans ((dk_bind (dk_map (dk_u2 (h 1 _ rfl) (h 2 _ rfl)))).trans rfl))
theorem dk_154 {code : ByteArray} {pc : Nat} (a b : UInt8) (h : DkAt code pc [154, a, b]) : decode code pc = .ok (.ifCond .ne (Reader.signed 16 (a.toNat * 256 + b.toNat)), 3) := dk_of ((dk_bind (dk_u1 (h 0 _ rfl))).trans ((dk_bind (dk_map (dk_u2 (h 1 _ rfl) (h 2 _ rfl)))).trans rfl))
theorem dk_155 {code : ByteArray} {pc : Nat} (a b : UInt8) (h : DkAt code pc [155, a, b]) : decode code pc = .ok (.ifCond .lt (Reader.signed 16 (a.toNat * 256 + b.toNat)), 3) := dk_of ((dk_bind (dk_u1 (h 0 _ rfl))).trans ((dk_bind (dk_map (dk_u2 (h 1 _ rfl) (h 2 _ rfl)))).trans rfl))
theorem dk_159 {code : ByteArray} {pc : Nat} (a b : UInt8) (h : DkAt code pc [159, a, b]) : decode code pc = .ok (.if_icmp .eq (Reader.signed 16 (a.toNat * 256 + b.toNat)), 3) := dk_of ((dk_bind (dk_u1 (h 0 _ rfl))).trans ((dk_bind (dk_map (dk_u2 (h 1 _ rfl) (h 2 _ rfl)))).trans rfl))
theorem dk_160 {code : ByteArray} {pc : Nat} (a b : UInt8) (h : DkAt code pc [160, a, b]) : decode code pc = .ok (.if_icmp .ne (Reader.signed 16 (a.toNat * 256 + b.toNat)), 3) := dk_of ((dk_bind (dk_u1 (h 0 _ rfl))).trans ((dk_bind (dk_map (dk_u2 (h 1 _ rfl) (h 2 _ rfl)))).trans rfl))
theorem dk_161 {code : ByteArray} {pc : Nat} (a b : UInt8) (h : DkAt code pc [161, a, b]) : decode code pc = .ok (.if_icmp .lt (Reader.signed 16 (a.toNat * 256 + b.toNat)), 3) := dk_of ((dk_bind (dk_u1 (h 0 _ rfl))).trans ((dk_bind (dk_map (dk_u2 (h 1 _ rfl) (h 2 _ rfl)))).trans rfl))
theorem dk_162 {code : ByteArray} {pc : Nat} (a b : UInt8) (h : DkAt code pc [162, a, b]) : decode code pc = .ok (.if_icmp .ge (Reader.signed 16 (a.toNat * 256 + b.toNat)), 3) := dk_of ((dk_bind (dk_u1 (h 0 _ rfl))).trans ((dk_bind (dk_map (dk_u2 (h 1 _ rfl) (h 2 _ rfl)))).trans rfl))
theorem dk_163 {code : ByteArray} {pc : Nat} (a b : UInt8) (h : DkAt code pc [163, a, b]) : decode code pc = .ok (.if_icmp .gt (Reader.signed 16 (a.toNat * 256 + b.toNat)), 3) := dk_of ((dk_bind (dk_u1 (h 0 _ rfl))).trans ((dk_bind (dk_map (dk_u2 (h 1 _ rfl) (h 2 _ rfl)))).trans rfl))
theorem dk_164 {code : ByteArray} {pc : Nat} (a b : UInt8) (h : DkAt code pc [164, a, b]) : decode code pc = .ok (.if_icmp .le (Reader.signed 16 (a.toNat * 256 + b.toNat)), 3) := dk_of ((dk_bind (dk_u1 (h 0 _ rfl))).trans ((dk_bind (dk_map (dk_u2 (h 1 _ rfl) (h 2 _ rfl)))).trans rfl))
theorem dk_167 {code : ByteArray} {pc : Nat} (a b : UInt8) (h : DkAt code pc [167, a, b]) : decode code pc = .ok (.goto (Reader.signed 16 (a.toNat * 256 + b.toNat)), 3) := dk_of ((dk_bind (dk_u1 (h 0 _ rfl))).trans ((dk_bind (dk_map (dk_u2 (h 1 _ rfl) (h 2 _ rfl)))).trans rfl))
theorem dk_172 {code : ByteArray} {pc : Nat} (h : DkAt code pc [172]) : decode code pc = .ok (.ireturn, 1) := dk_of ((dk_bind (dk_u1 (h 0 _ rfl))).trans rfl)
theorem dk_176 {code : ByteArray} {pc : Nat} (h : DkAt code pc [176]) : decode code pc = .ok (.areturn, 1) := dk_of ((dk_bind (dk_u1 (h 0 _ rfl))).trans rfl)
theorem dk_177 {code : ByteArray} {pc : Nat} (h : DkAt code pc [177]) : decode code pc = .ok (.return_, 1) := dk_of ((dk_bind (dk_u1 (h 0 _ rfl))).trans rfl)
theorem dk_178 {code : ByteArray} {pc : Nat} (a b : UInt8) (h : DkAt code pc [178, a, b]) : decode code pc = .ok (.getstatic (a.toNat * 256 + b.toNat), 3) := dk_of ((dk_bind (dk_u1 (h 0 _ rfl))).trans ((dk_bind (dk_u2 (h 1 _ rfl) (h 2 _ rfl))).trans rfl))
theorem dk_181 {code : ByteArray} {pc : Nat} (a b : UInt8) (h : DkAt code pc [181, a, b]) : decode code pc = .ok (.putfield (a.toNat * 256 + b.toNat), 3) := dk_of ((dk_bind (dk_u1 (h 0 _ rfl))).trans ((dk_bind (dk_u2 (h 1 _ rfl) (h 2 _ rfl))).trans rfl))
theorem dk_182 {code : ByteArray} {pc : Nat} (a b : UInt8) (h : DkAt code pc [182, a, b]) : decode code pc = .ok (.invokevirtual (a.toNat * 256 + b.toNat), 3) := dk_of ((dk_bind (dk_u1 (h 0 _ rfl))).trans ((dk_bind (dk_u2 (h 1 _ rfl) (h 2 _ rfl))).trans rfl))
theorem dk_183 {code : ByteArray} {pc : Nat} (a b : UInt8) (h : DkAt code pc [183, a, b]) : decode code pc = .ok (.invokespecial (a.toNat * 256 + b.toNat), 3) := dk_of ((dk_bind (dk_u1 (h 0 _ rfl))).trans ((dk_bind (dk_u2 (h 1 _ rfl) (h 2 _ rfl))).trans rfl))
theorem dk_184 {code : ByteArray} {pc : Nat} (a b : UInt8) (h : DkAt code pc [184, a, b]) : decode code pc = .ok (.invokestatic (a.toNat * 256 + b.toNat), 3) := dk_of ((dk_bind (dk_u1 (h 0 _ rfl))).trans ((dk_bind (dk_u2 (h 1 _ rfl) (h 2 _ rfl))).trans rfl))
theorem dk_187 {code : ByteArray} {pc : Nat} (a b : UInt8) (h : DkAt code pc [187, a, b]) : decode code pc = .ok (.new (a.toNat * 256 + b.toNat), 3) := dk_of ((dk_bind (dk_u1 (h 0 _ rfl))).trans ((dk_bind (dk_u2 (h 1 _ rfl) (h 2 _ rfl))).trans rfl))
theorem dk_188_10 {code : ByteArray} {pc : Nat} (h : DkAt code pc [188, 10]) : decode code pc = .ok (.newarray .int, 2) := dk_of ((dk_bind (dk_u1 (h 0 _ rfl))).trans ((dk_bind (dk_u1 (h 1 _ rfl))).trans rfl))
theorem dk_190 {code : ByteArray} {pc : Nat} (h : DkAt code pc [190]) : decode code pc = .ok (.arraylength, 1) := dk_of ((dk_bind (dk_u1 (h 0 _ rfl))).trans rfl)
theorem dk_191 {code : ByteArray} {pc : Nat} (h : DkAt code pc [191]) : decode code pc = .ok (.athrow, 1) := dk_of ((dk_bind (dk_u1 (h 0 _ rfl))).trans rfl)
theorem dk_198 {code : ByteArray} {pc : Nat} (a b : UInt8) (h : DkAt code pc [198, a, b]) : decode code pc = .ok (.ifnull (Reader.signed 16 (a.toNat * 256 + b.toNat)), 3) := dk_of ((dk_bind (dk_u1 (h 0 _ rfl))).trans ((dk_bind (dk_map (dk_u2 (h 1 _ rfl) (h 2 _ rfl)))).trans rfl))
theorem dk_199 {code : ByteArray} {pc : Nat} (a b : UInt8) (h : DkAt code pc [199, a, b]) : decode code pc = .ok (.ifnonnull (Reader.signed 16 (a.toNat * 256 + b.toNat)), 3) := dk_of ((dk_bind (dk_u1 (h 0 _ rfl))).trans ((dk_bind (dk_map (dk_u2 (h 1 _ rfl) (h 2 _ rfl)))).trans rfl))
end
section
/-! java/lang/Object -/
set_option maxRecDepth 100000
def RJ6 : String := "java/lang/Object"
abbrev cJ6_init : ByteArray := object_method_1_code
def yJ6_init : MethodName := ⟨RJ6, "<init>", "()V"⟩
theorem dJ6_init_0 : decode cJ6_init 0 = .ok (.return_, 1) := by decide +kernel
theorem q21 : (Jvm.Cond.instanceMethod ({ cls := "java/lang/Object", name := "<init>", desc := "()V" } : Jvm.MethodName)) ∈ lw_all := lw_g (lw_at lw_m0 20 rfl) rfl
theorem q22 : (Jvm.Cond.code ({ cls := "java/lang/Object", name := "<init>", desc := "()V" } : Jvm.MethodName) object_method_1_code (1 : Nat) (Option.none : Option Jvm.ClassFile.FieldType)) ∈ lw_all := lw_g (lw_at lw_m0 21 rfl) rfl
/-! java/lang/Integer -/
set_option maxRecDepth 100000
def RJ4 : String := "java/lang/Integer"
abbrev cJ4_bitCount : ByteArray := prog_8_method_49_code
def yJ4_bitCount : MethodName := ⟨RJ4, "bitCount", "(I)I"⟩
def dkwJ4_bitCount_2 : List UInt8 := [26, 16, 63, 126, 172]
abbrev dktJ4_bitCount_2 : List UInt8 := dkwJ4_bitCount_2 ++ []
def dkwJ4_bitCount_1 : List UInt8 := [26, 26, 7, 124, 96, 19, 1, 11, 126, 59, 26, 26, 16, 8, 124, 96, 59, 26, 26, 16, 16, 124, 96, 59]
abbrev dktJ4_bitCount_1 : List UInt8 := dkwJ4_bitCount_1 ++ dktJ4_bitCount_2
def dkwJ4_bitCount_0 : List UInt8 := [26, 26, 4, 124, 19, 1, 9, 126, 100, 59, 26, 19, 1, 10, 126, 26, 5, 124, 19, 1, 10, 126, 96, 59]
abbrev dktJ4_bitCount_0 : List UInt8 := dkwJ4_bitCount_0 ++ dktJ4_bitCount_1
theorem dksJ4_bitCount_0 : cJ4_bitCount.data.toList.drop 0 = dktJ4_bitCount_0 := by decide +kernel
theorem dksJ4_bitCount_1 : cJ4_bitCount.data.toList.drop 24 = dktJ4_bitCount_1 := dk_seg dksJ4_bitCount_0 24 rfl rfl
theorem dksJ4_bitCount_2 : cJ4_bitCount.data.toList.drop 48 = dktJ4_bitCount_2 := dk_seg dksJ4_bitCount_1 24 rfl rfl
theorem dJ4_bitCount_0 : decode cJ4_bitCount 0 = .ok (.iload_n 0, 1) := dk_26 (dk_at dksJ4_bitCount_0 0 rfl rfl)
theorem dJ4_bitCount_1 : decode cJ4_bitCount 1 = .ok (.iload_n 0, 1) := dk_26 (dk_at dksJ4_bitCount_0 1 rfl rfl)
theorem dJ4_bitCount_2 : decode cJ4_bitCount 2 = .ok (.iconst 1, 1) := dk_4 (dk_at dksJ4_bitCount_0 2 rfl rfl)
theorem dJ4_bitCount_3 : decode cJ4_bitCount 3 = .ok (.iushr, 1) := dk_124 (dk_at dksJ4_bitCount_0 3 rfl rfl)
theorem dJ4_bitCount_4 : decode cJ4_bitCount 4 = .ok (.ldc_w 265, 3) := dk_19 1 9 (dk_at dksJ4_bitCount_0 4 rfl rfl)
theorem dJ4_bitCount_7 : decode cJ4_bitCount 7 = .ok (.iand, 1) := dk_126 (dk_at dksJ4_bitCount_0 7 rfl rfl)
theorem dJ4_bitCount_8 : decode cJ4_bitCount 8 = .ok (.isub, 1) := dk_100 (dk_at dksJ4_bitCount_0 8 rfl rfl)
theorem dJ4_bitCount_9 : decode cJ4_bitCount 9 = .ok (.istore_n 0, 1) := dk_59 (dk_at dksJ4_bitCount_0 9 rfl rfl)
theorem dJ4_bitCount_10 : decode cJ4_bitCount 10 = .ok (.iload_n 0, 1) := dk_26 (dk_at dksJ4_bitCount_0 10 rfl rfl)
theorem dJ4_bitCount_11 : decode cJ4_bitCount 11 = .ok (.ldc_w 266, 3) := dk_19 1 10 (dk_at dksJ4_bitCount_0 11 rfl rfl)
theorem dJ4_bitCount_14 : decode cJ4_bitCount 14 = .ok (.iand, 1) := dk_126 (dk_at dksJ4_bitCount_0 14 rfl rfl)
theorem dJ4_bitCount_15 : decode cJ4_bitCount 15 = .ok (.iload_n 0, 1) := dk_26 (dk_at dksJ4_bitCount_0 15 rfl rfl)
theorem dJ4_bitCount_16 : decode cJ4_bitCount 16 = .ok (.iconst 2, 1) := dk_5 (dk_at dksJ4_bitCount_0 16 rfl rfl)
theorem dJ4_bitCount_17 : decode cJ4_bitCount 17 = .ok (.iushr, 1) := dk_124 (dk_at dksJ4_bitCount_0 17 rfl rfl)
theorem dJ4_bitCount_18 : decode cJ4_bitCount 18 = .ok (.ldc_w 266, 3) := dk_19 1 10 (dk_at dksJ4_bitCount_0 18 rfl rfl)
theorem dJ4_bitCount_21 : decode cJ4_bitCount 21 = .ok (.iand, 1) := dk_126 (dk_at dksJ4_bitCount_0 21 rfl rfl)
theorem dJ4_bitCount_22 : decode cJ4_bitCount 22 = .ok (.iadd, 1) := dk_96 (dk_at dksJ4_bitCount_0 22 rfl rfl)
theorem dJ4_bitCount_23 : decode cJ4_bitCount 23 = .ok (.istore_n 0, 1) := dk_59 (dk_at dksJ4_bitCount_0 23 rfl rfl)
theorem dJ4_bitCount_24 : decode cJ4_bitCount 24 = .ok (.iload_n 0, 1) := dk_26 (dk_at dksJ4_bitCount_1 0 rfl rfl)
theorem dJ4_bitCount_25 : decode cJ4_bitCount 25 = .ok (.iload_n 0, 1) := dk_26 (dk_at dksJ4_bitCount_1 1 rfl rfl)
theorem dJ4_bitCount_26 : decode cJ4_bitCount 26 = .ok (.iconst 4, 1) := dk_7 (dk_at dksJ4_bitCount_1 2 rfl rfl)
theorem dJ4_bitCount_27 : decode cJ4_bitCount 27 = .ok (.iushr, 1) := dk_124 (dk_at dksJ4_bitCount_1 3 rfl rfl)
theorem dJ4_bitCount_28 : decode cJ4_bitCount 28 = .ok (.iadd, 1) := dk_96 (dk_at dksJ4_bitCount_1 4 rfl rfl)
theorem dJ4_bitCount_29 : decode cJ4_bitCount 29 = .ok (.ldc_w 267, 3) := dk_19 1 11 (dk_at dksJ4_bitCount_1 5 rfl rfl)
theorem dJ4_bitCount_32 : decode cJ4_bitCount 32 = .ok (.iand, 1) := dk_126 (dk_at dksJ4_bitCount_1 8 rfl rfl)
theorem dJ4_bitCount_33 : decode cJ4_bitCount 33 = .ok (.istore_n 0, 1) := dk_59 (dk_at dksJ4_bitCount_1 9 rfl rfl)
theorem dJ4_bitCount_34 : decode cJ4_bitCount 34 = .ok (.iload_n 0, 1) := dk_26 (dk_at dksJ4_bitCount_1 10 rfl rfl)
theorem dJ4_bitCount_35 : decode cJ4_bitCount 35 = .ok (.iload_n 0, 1) := dk_26 (dk_at dksJ4_bitCount_1 11 rfl rfl)
theorem dJ4_bitCount_36 : decode cJ4_bitCount 36 = .ok (.bipush 8, 2) := dk_16 8 (dk_at dksJ4_bitCount_1 12 rfl rfl)
theorem dJ4_bitCount_38 : decode cJ4_bitCount 38 = .ok (.iushr, 1) := dk_124 (dk_at dksJ4_bitCount_1 14 rfl rfl)
theorem dJ4_bitCount_39 : decode cJ4_bitCount 39 = .ok (.iadd, 1) := dk_96 (dk_at dksJ4_bitCount_1 15 rfl rfl)
theorem dJ4_bitCount_40 : decode cJ4_bitCount 40 = .ok (.istore_n 0, 1) := dk_59 (dk_at dksJ4_bitCount_1 16 rfl rfl)
theorem dJ4_bitCount_41 : decode cJ4_bitCount 41 = .ok (.iload_n 0, 1) := dk_26 (dk_at dksJ4_bitCount_1 17 rfl rfl)
theorem dJ4_bitCount_42 : decode cJ4_bitCount 42 = .ok (.iload_n 0, 1) := dk_26 (dk_at dksJ4_bitCount_1 18 rfl rfl)
theorem dJ4_bitCount_43 : decode cJ4_bitCount 43 = .ok (.bipush 16, 2) := dk_16 16 (dk_at dksJ4_bitCount_1 19 rfl rfl)
theorem dJ4_bitCount_45 : decode cJ4_bitCount 45 = .ok (.iushr, 1) := dk_124 (dk_at dksJ4_bitCount_1 21 rfl rfl)
theorem dJ4_bitCount_46 : decode cJ4_bitCount 46 = .ok (.iadd, 1) := dk_96 (dk_at dksJ4_bitCount_1 22 rfl rfl)
theorem dJ4_bitCount_47 : decode cJ4_bitCount 47 = .ok (.istore_n 0, 1) := dk_59 (dk_at dksJ4_bitCount_1 23 rfl rfl)
theorem dJ4_bitCount_48 : decode cJ4_bitCount 48 = .ok (.iload_n 0, 1) := dk_26 (dk_at dksJ4_bitCount_2 0 rfl rfl)
theorem dJ4_bitCount_49 : decode cJ4_bitCount 49 = .ok (.bipush 63, 2) := dk_16 63 (dk_at dksJ4_bitCount_2 1 rfl rfl)
theorem dJ4_bitCount_51 : decode cJ4_bitCount 51 = .ok (.iand, 1) := dk_126 (dk_at dksJ4_bitCount_2 3 rfl rfl)
theorem dJ4_bitCount_52 : decode cJ4_bitCount 52 = .ok (.ireturn, 1) := dk_172 (dk_at dksJ4_bitCount_2 4 rfl rfl)
theorem q10 : (Jvm.Cond.initialized "java/lang/Integer") ∈ lw_all := lw_g (lw_at lw_m0 9 rfl) rfl
theorem q130 : (Jvm.Cond.static ({ cls := "java/lang/Integer", name := "bitCount", desc := "(I)I" } : Jvm.MethodName)) ∈ lw_all := lw_g (lw_at lw_m0 129 rfl) rfl
theorem q131 : (Jvm.Cond.code ({ cls := "java/lang/Integer", name := "bitCount", desc := "(I)I" } : Jvm.MethodName) prog_8_method_49_code (1 : Nat) (Option.some Jvm.ClassFile.FieldType.int)) ∈ lw_all := lw_g (lw_at lw_m0 130 rfl) rfl
theorem q132 : (Jvm.Cond.constant "java/lang/Integer" (265 : Nat) (1431655765 : Int32)) ∈ lw_all := lw_g (lw_at lw_m0 131 rfl) rfl
theorem q133 : (Jvm.Cond.constant "java/lang/Integer" (266 : Nat) (858993459 : Int32)) ∈ lw_all := lw_g (lw_at lw_m0 132 rfl) rfl
theorem q134 : (Jvm.Cond.constant "java/lang/Integer" (267 : Nat) (252645135 : Int32)) ∈ lw_all := lw_g (lw_at lw_m0 133 rfl) rfl
/-! java/lang/Math -/
set_option maxRecDepth 100000
def RJ5 : String := "java/lang/Math"
abbrev cJ5_min : ByteArray := prog_9_method_69_code
def yJ5_min : MethodName := ⟨RJ5, "min", "(II)I"⟩
def dkwJ5_min_0 : List UInt8 := [26, 27, 163, 0, 7, 26, 167, 0, 4, 27, 172]
abbrev dktJ5_min_0 : List UInt8 := dkwJ5_min_0 ++ []
theorem dksJ5_min_0 : cJ5_min.data.toList.drop 0 = dktJ5_min_0 := by decide +kernel
theorem dJ5_min_0 : decode cJ5_min 0 = .ok (.iload_n 0, 1) := dk_26 (dk_at dksJ5_min_0 0 rfl rfl)
theorem dJ5_min_1 : decode cJ5_min 1 = .ok (.iload_n 1, 1) := dk_27 (dk_at dksJ5_min_0 1 rfl rfl)
theorem dJ5_min_2 : decode cJ5_min 2 = .ok (.if_icmp .gt 7, 3) := dk_163 0 7 (dk_at dksJ5_min_0 2 rfl rfl)
theorem dJ5_min_5 : decode cJ5_min 5 = .ok (.iload_n 0, 1) := dk_26 (dk_at dksJ5_min_0 5 rfl rfl)
theorem dJ5_min_6 : decode cJ5_min 6 = .ok (.goto 4, 3) := dk_167 0 4 (dk_at dksJ5_min_0 6 rfl rfl)
theorem dJ5_min_9 : decode cJ5_min 9 = .ok (.iload_n 1, 1) := dk_27 (dk_at dksJ5_min_0 9 rfl rfl)
theorem dJ5_min_10 : decode cJ5_min 10 = .ok (.ireturn, 1) := dk_172 (dk_at dksJ5_min_0 10 rfl rfl)
theorem q11 : (Jvm.Cond.initialized "java/lang/Math") ∈ lw_all := lw_g (lw_at lw_m0 10 rfl) rfl
theorem q179 : (Jvm.Cond.static ({ cls := "java/lang/Math", name := "min", desc := "(II)I" } : Jvm.MethodName)) ∈ lw_all := lw_g (lw_at lw_m0 178 rfl) rfl
theorem q180 : (Jvm.Cond.code ({ cls := "java/lang/Math", name := "min", desc := "(II)I" } : Jvm.MethodName) prog_9_method_69_code (2 : Nat) (Option.some Jvm.ClassFile.FieldType.int)) ∈ lw_all := lw_g (lw_at lw_m0 179 rfl) rfl
/-! ErrorCorrectionLevel -/
set_option maxRecDepth 100000
def RX3 : String := "ErrorCorrectionLevel"
abbrev cX3_forBits : ByteArray := prog_1_method_5_code
def yX3_forBits : MethodName := ⟨RX3, "forBits", "(I)LErrorCorrectionLevel;"⟩
def dkwX3_forBits_1 : List UInt8 := [50, 176]
abbrev dktX3_forBits_1 : List UInt8 := dkwX3_forBits_1 ++ []
def dkwX3_forBits_0 : List UInt8 := [26, 155, 0, 11, 26, 178, 0, 39, 190, 161, 0, 11, 187, 0, 42, 89, 183, 0, 44, 191, 178, 0, 39, 26]
abbrev dktX3_forBits_0 : List UInt8 := dkwX3_forBits_0 ++ dktX3_forBits_1
theorem dksX3_forBits_0 : cX3_forBits.data.toList.drop 0 = dktX3_forBits_0 := by decide +kernel
theorem dksX3_forBits_1 : cX3_forBits.data.toList.drop 24 = dktX3_forBits_1 := dk_seg dksX3_forBits_0 24 rfl rfl
theorem dX3_forBits_0 : decode cX3_forBits 0 = .ok (.iload_n 0, 1) := dk_26 (dk_at dksX3_forBits_0 0 rfl rfl)
theorem dX3_forBits_1 : decode cX3_forBits 1 = .ok (.ifCond .lt 11, 3) := dk_155 0 11 (dk_at dksX3_forBits_0 1 rfl rfl)
theorem dX3_forBits_4 : decode cX3_forBits 4 = .ok (.iload_n 0, 1) := dk_26 (dk_at dksX3_forBits_0 4 rfl rfl)
theorem dX3_forBits_5 : decode cX3_forBits 5 = .ok (.getstatic 39, 3) := dk_178 0 39 (dk_at dksX3_forBits_0 5 rfl rfl)
theorem dX3_forBits_8 : decode cX3_forBits 8 = .ok (.arraylength, 1) := dk_190 (dk_at dksX3_forBits_0 8 rfl rfl)
theorem dX3_forBits_9 : decode cX3_forBits 9 = .ok (.if_icmp .lt 11, 3) := dk_161 0 11 (dk_at dksX3_forBits_0 9 rfl rfl)
theorem dX3_forBits_12 : decode cX3_forBits 12 = .ok (.new 42, 3) := dk_187 0 42 (dk_at dksX3_forBits_0 12 rfl rfl)
theorem dX3_forBits_15 : decode cX3_forBits 15 = .ok (.dup, 1) := dk_89 (dk_at dksX3_forBits_0 15 rfl rfl)
theorem dX3_forBits_16 : decode cX3_forBits 16 = .ok (.invokespecial 44, 3) := dk_183 0 44 (dk_at dksX3_forBits_0 16 rfl rfl)
theorem dX3_forBits_19 : decode cX3_forBits 19 = .ok (.athrow, 1) := dk_191 (dk_at dksX3_forBits_0 19 rfl rfl)
theorem dX3_forBits_20 : decode cX3_forBits 20 = .ok (.getstatic 39, 3) := dk_178 0 39 (dk_at dksX3_forBits_0 20 rfl rfl)
theorem dX3_forBits_23 : decode cX3_forBits 23 = .ok (.iload_n 0, 1) := dk_26 (dk_at dksX3_forBits_0 23 rfl rfl)
theorem dX3_forBits_24 : decode cX3_forBits 24 = .ok (.aaload, 1) := dk_50 (dk_at dksX3_forBits_1 0 rfl rfl)
theorem dX3_forBits_25 : decode cX3_forBits 25 = .ok (.areturn, 1) := dk_176 (dk_at dksX3_forBits_1 1 rfl rfl)
abbrev cX3_getBits : ByteArray := prog_1_method_4_code
def yX3_getBits : MethodName := ⟨RX3, "getBits", "()I"⟩
theorem dX3_getBits_0 : decode cX3_getBits 0 = .ok (.aload_n 0, 1) := by decide +kernel
theorem dX3_getBits_1 : decode cX3_getBits 1 = .ok (.getfield 35, 3) := by decide +kernel
theorem dX3_getBits_4 : decode cX3_getBits 4 = .ok (.ireturn, 1) := by decide +kernel
theorem q5 : (Jvm.Cond.initialized "ErrorCorrectionLevel") ∈ lw_all := lw_g (lw_at lw_m0 4 rfl) rfl
theorem q54 : (Jvm.Cond.static ({ cls := "ErrorCorrectionLevel", name := "forBits", desc := "(I)LErrorCorrectionLevel;" } : Jvm.MethodName)) ∈ lw_all := lw_g (lw_at lw_m0 53 rfl) rfl
theorem q55 : (Jvm.Cond.code ({ cls := "ErrorCorrectionLevel", name := "forBits", desc := "(I)LErrorCorrectionLevel;" } : Jvm.MethodName) prog_1_method_5_code (1 : Nat) (Option.some (Jvm.ClassFile.FieldType.object "ErrorCorrectionLevel"))) ∈ lw_all := lw_g (lw_at lw_m0 54 rfl) rfl
theorem q56 : (Jvm.Cond.fieldLink "ErrorCorrectionLevel" (39 : Nat) "ErrorCorrectionLevel" "FOR_BITS" "[LErrorCorrectionLevel;") ∈ lw_all := lw_g (lw_at lw_m0 55 rfl) rfl
theorem q57 : (Jvm.Cond.laysStatic "ErrorCorrectionLevel" "FOR_BITS" "[LErrorCorrectionLevel;") ∈ lw_tbl := lw_at lw_m0 56 rfl
theorem q58 : (Jvm.Cond.classLink "ErrorCorrectionLevel" (42 : Nat) "java/lang/IllegalArgumentException") ∈ lw_all := lw_g (lw_at lw_m0 57 rfl) rfl
theorem q97 : (Jvm.Cond.methodLink "ErrorCorrectionLevel" (44 : Nat) ({ cls := "java/lang/IllegalArgumentException", name := "<init>", desc := "()V" } : Jvm.MethodName)) ∈ lw_all := lw_g (lw_at lw_m0 96 rfl) rfl
theorem q140 : (Jvm.Cond.instanceMethod ({ cls := "ErrorCorrectionLevel", name := "getBits", desc := "()I" } : Jvm.MethodName)) ∈ lw_all := lw_g (lw_at lw_m0 139 rfl) rfl
theorem q141 : (Jvm.Cond.selects "ErrorCorrectionLevel" ({ cls := "ErrorCorrectionLevel", name := "getBits", desc := "()I" } : Jvm.MethodName) ({ cls := "ErrorCorrectionLevel", name := "getBits", desc := "()I" } : Jvm.MethodName)) ∈ lw_all := lw_g (lw_at lw_m0 140 rfl) rfl
theorem q142 : (Jvm.Cond.code ({ cls := "ErrorCorrectionLevel", name := "getBits", desc := "()I" } : Jvm.MethodName) prog_1_method_4_code (1 : Nat) (Option.some Jvm.ClassFile.FieldType.int)) ∈ lw_all := lw_g (lw_at lw_m0 141 rfl) rfl
theorem q186 : (Jvm.Cond.fieldLink "ErrorCorrectionLevel" (35 : Nat) "ErrorCorrectionLevel" "bits" "I") ∈ lw_all := lw_g (lw_at lw_m0 185 rfl) rfl
theorem q188 : (Jvm.Cond.laysStatic "ErrorCorrectionLevel" "M" "LErrorCorrectionLevel;") ∈ lw_tbl := lw_at lw_m0 187 rfl
theorem q189 : (Jvm.Cond.laysStatic "ErrorCorrectionLevel" "L" "LErrorCorrectionLevel;") ∈ lw_tbl := lw_at lw_m0 188 rfl
theorem q190 : (Jvm.Cond.laysStatic "ErrorCorrectionLevel" "H" "LErrorCorrectionLevel;") ∈ lw_tbl := lw_at lw_m0 189 rfl
theorem q191 : (Jvm.Cond.laysStatic "ErrorCorrectionLevel" "Q" "LErrorCorrectionLevel;") ∈ lw_tbl := lw_at lw_m0 190 rfl
/-! FormatInformation -/
set_option maxRecDepth 100000
def RX2 : String := "FormatInformation"
def TX2 : u_T := fun k => match k with
  | 0 => ("FormatInformation", "errorCorrectionLevel", "LErrorCorrectionLevel;", true)
  | _ => ("FormatInformation", "dataMask", "B", true)
def tyX2 : Nat → FieldType := fun k => match k with
  | 0 => .object "ErrorCorrectionLevel"
  | _ => .byte
abbrev wsX20 : List Cond := u_ws RX2 TX2 2
theorem nmX2 : ∀ a, a < 2 → ∀ b, b < 2 → a ≠ b → (TX2 a).2.1 ≠ (TX2 b).2.1 := by decide +kernel
theorem tyX2_ok : ∀ k, k < 2 → parseFieldDescriptor (TX2 k).2.2.1 = some (tyX2 k) := by decide +kernel
abbrev cX2_decodeFormatInformation : ByteArray := prog_2_method_3_code
def yX2_decodeFormatInformation : MethodName := ⟨RX2, "decodeFormatInformation", "(II)LFormatInformation;"⟩
def dkwX2_decodeFormatInformation_1 : List UInt8 := [184, 0, 29, 176]
abbrev dktX2_decodeFormatInformation_1 : List UInt8 := dkwX2_decodeFormatInformation_1 ++ []
def dkwX2_decodeFormatInformation_0 : List UInt8 := [26, 27, 184, 0, 29, 77, 44, 198, 0, 5, 44, 176, 26, 17, 84, 18, 130, 27, 17, 84, 18, 130]
abbrev dktX2_decodeFormatInformation_0 : List UInt8 := dkwX2_decodeFormatInformation_0 ++ dktX2_decodeFormatInformation_1
theorem dksX2_decodeFormatInformation_0 : cX2_decodeFormatInformation.data.toList.drop 0 = dktX2_decodeFormatInformation_0 := by decide +kernel
theorem dksX2_decodeFormatInformation_1 : cX2_decodeFormatInformation.data.toList.drop 22 = dktX2_decodeFormatInformation_1 := dk_seg dksX2_decodeFormatInformation_0 22 rfl rfl
theorem dX2_decodeFormatInformation_0 : decode cX2_decodeFormatInformation 0 = .ok (.iload_n 0, 1) := dk_26 (dk_at dksX2_decodeFormatInformation_0 0 rfl rfl)
theorem dX2_decodeFormatInformation_1 : decode cX2_decodeFormatInformation 1 = .ok (.iload_n 1, 1) := dk_27 (dk_at dksX2_decodeFormatInformation_0 1 rfl rfl)
theorem dX2_decodeFormatInformation_2 : decode cX2_decodeFormatInformation 2 = .ok (.invokestatic 29, 3) := dk_184 0 29 (dk_at dksX2_decodeFormatInformation_0 2 rfl rfl)
theorem dX2_decodeFormatInformation_5 : decode cX2_decodeFormatInformation 5 = .ok (.astore_n 2, 1) := dk_77 (dk_at dksX2_decodeFormatInformation_0 5 rfl rfl)
theorem dX2_decodeFormatInformation_6 : decode cX2_decodeFormatInformation 6 = .ok (.aload_n 2, 1) := dk_44 (dk_at dksX2_decodeFormatInformation_0 6 rfl rfl)
theorem dX2_decodeFormatInformation_7 : decode cX2_decodeFormatInformation 7 = .ok (.ifnull 5, 3) := dk_198 0 5 (dk_at dksX2_decodeFormatInformation_0 7 rfl rfl)
theorem dX2_decodeFormatInformation_10 : decode cX2_decodeFormatInformation 10 = .ok (.aload_n 2, 1) := dk_44 (dk_at dksX2_decodeFormatInformation_0 10 rfl rfl)
theorem dX2_decodeFormatInformation_11 : decode cX2_decodeFormatInformation 11 = .ok (.areturn, 1) := dk_176 (dk_at dksX2_decodeFormatInformation_0 11 rfl rfl)
theorem dX2_decodeFormatInformation_12 : decode cX2_decodeFormatInformation 12 = .ok (.iload_n 0, 1) := dk_26 (dk_at dksX2_decodeFormatInformation_0 12 rfl rfl)
theorem dX2_decodeFormatInformation_13 : decode cX2_decodeFormatInformation 13 = .ok (.sipush 21522, 3) := dk_17 84 18 (dk_at dksX2_decodeFormatInformation_0 13 rfl rfl)
theorem dX2_decodeFormatInformation_16 : decode cX2_decodeFormatInformation 16 = .ok (.ixor, 1) := dk_130 (dk_at dksX2_decodeFormatInformation_0 16 rfl rfl)
theorem dX2_decodeFormatInformation_17 : decode cX2_decodeFormatInformation 17 = .ok (.iload_n 1, 1) := dk_27 (dk_at dksX2_decodeFormatInformation_0 17 rfl rfl)
theorem dX2_decodeFormatInformation_18 : decode cX2_decodeFormatInformation 18 = .ok (.sipush 21522, 3) := dk_17 84 18 (dk_at dksX2_decodeFormatInformation_0 18 rfl rfl)
theorem dX2_decodeFormatInformation_21 : decode cX2_decodeFormatInformation 21 = .ok (.ixor, 1) := dk_130 (dk_at dksX2_decodeFormatInformation_0 21 rfl rfl)
theorem dX2_decodeFormatInformation_22 : decode cX2_decodeFormatInformation 22 = .ok (.invokestatic 29, 3) := dk_184 0 29 (dk_at dksX2_decodeFormatInformation_1 0 rfl rfl)
theorem dX2_decodeFormatInformation_25 : decode cX2_decodeFormatInformation 25 = .ok (.areturn, 1) := dk_176 (dk_at dksX2_decodeFormatInformation_1 3 rfl rfl)
abbrev cX2_doDecodeFormatInformation : ByteArray := prog_2_method_4_code
def yX2_doDecodeFormatInformation : MethodName := ⟨RX2, "doDecodeFormatInformation", "(II)LFormatInformation;"⟩
def dkwX2_doDecodeFormatInformation_5 : List UInt8 := [167, 255, 160, 28, 6, 163, 0, 12, 187, 0, 14, 89, 29, 183, 0, 38, 176, 1, 176]
abbrev dktX2_doDecodeFormatInformation_5 : List UInt8 := dkwX2_doDecodeFormatInformation_5 ++ []
def dkwX2_doDecodeFormatInformation_4 : List UInt8 := [184, 0, 41, 54, 9, 21, 9, 28, 162, 0, 11, 25, 7, 4, 46, 62, 21, 9, 61, 132, 6, 1]
abbrev dktX2_doDecodeFormatInformation_4 : List UInt8 := dkwX2_doDecodeFormatInformation_4 ++ dktX2_doDecodeFormatInformation_5
def dkwX2_doDecodeFormatInformation_3 : List UInt8 := [21, 9, 28, 162, 0, 11, 25, 7, 4, 46, 62, 21, 9, 61, 26, 27, 159, 0, 25, 27, 21, 8]
abbrev dktX2_doDecodeFormatInformation_3 : List UInt8 := dkwX2_doDecodeFormatInformation_3 ++ dktX2_doDecodeFormatInformation_4
def dkwX2_doDecodeFormatInformation_2 : List UInt8 := [27, 160, 0, 15, 187, 0, 14, 89, 25, 7, 4, 46, 183, 0, 38, 176, 26, 21, 8, 184, 0, 41, 54, 9]
abbrev dktX2_doDecodeFormatInformation_2 : List UInt8 := dkwX2_doDecodeFormatInformation_2 ++ dktX2_doDecodeFormatInformation_3
def dkwX2_doDecodeFormatInformation_1 : List UInt8 := [162, 0, 95, 25, 4, 21, 6, 50, 58, 7, 25, 7, 3, 46, 54, 8, 21, 8, 26, 159, 0, 9, 21, 8]
abbrev dktX2_doDecodeFormatInformation_1 : List UInt8 := dkwX2_doDecodeFormatInformation_1 ++ dktX2_doDecodeFormatInformation_2
def dkwX2_doDecodeFormatInformation_0 : List UInt8 := [18, 33, 61, 3, 62, 178, 0, 34, 58, 4, 25, 4, 190, 54, 5, 3, 54, 6, 21, 6, 21, 5]
abbrev dktX2_doDecodeFormatInformation_0 : List UInt8 := dkwX2_doDecodeFormatInformation_0 ++ dktX2_doDecodeFormatInformation_1
theorem dksX2_doDecodeFormatInformation_0 : cX2_doDecodeFormatInformation.data.toList.drop 0 = dktX2_doDecodeFormatInformation_0 := by decide +kernel
theorem dksX2_doDecodeFormatInformation_1 : cX2_doDecodeFormatInformation.data.toList.drop 22 = dktX2_doDecodeFormatInformation_1 := dk_seg dksX2_doDecodeFormatInformation_0 22 rfl rfl
theorem dksX2_doDecodeFormatInformation_2 : cX2_doDecodeFormatInformation.data.toList.drop 46 = dktX2_doDecodeFormatInformation_2 := dk_seg dksX2_doDecodeFormatInformation_1 24 rfl rfl
theorem dksX2_doDecodeFormatInformation_3 : cX2_doDecodeFormatInformation.data.toList.drop 70 = dktX2_doDecodeFormatInformation_3 := dk_seg dksX2_doDecodeFormatInformation_2 24 rfl rfl
theorem dksX2_doDecodeFormatInformation_4 : cX2_doDecodeFormatInformation.data.toList.drop 92 = dktX2_doDecodeFormatInformation_4 := dk_seg dksX2_doDecodeFormatInformation_3 22 rfl rfl
theorem dksX2_doDecodeFormatInformation_5 : cX2_doDecodeFormatInformation.data.toList.drop 114 = dktX2_doDecodeFormatInformation_5 := dk_seg dksX2_doDecodeFormatInformation_4 22 rfl rfl
theorem dX2_doDecodeFormatInformation_0 : decode cX2_doDecodeFormatInformation 0 = .ok (.ldc 33, 2) := dk_18 33 (dk_at dksX2_doDecodeFormatInformation_0 0 rfl rfl)
theorem dX2_doDecodeFormatInformation_2 : decode cX2_doDecodeFormatInformation 2 = .ok (.istore_n 2, 1) := dk_61 (dk_at dksX2_doDecodeFormatInformation_0 2 rfl rfl)
theorem dX2_doDecodeFormatInformation_3 : decode cX2_doDecodeFormatInformation 3 = .ok (.iconst 0, 1) := dk_3 (dk_at dksX2_doDecodeFormatInformation_0 3 rfl rfl)
theorem dX2_doDecodeFormatInformation_4 : decode cX2_doDecodeFormatInformation 4 = .ok (.istore_n 3, 1) := dk_62 (dk_at dksX2_doDecodeFormatInformation_0 4 rfl rfl)
theorem dX2_doDecodeFormatInformation_5 : decode cX2_doDecodeFormatInformation 5 = .ok (.getstatic 34, 3) := dk_178 0 34 (dk_at dksX2_doDecodeFormatInformation_0 5 rfl rfl)
theorem dX2_doDecodeFormatInformation_8 : decode cX2_doDecodeFormatInformation 8 = .ok (.astore 4, 2) := dk_58 4 (dk_at dksX2_doDecodeFormatInformation_0 8 rfl rfl)
theorem dX2_doDecodeFormatInformation_10 : decode cX2_doDecodeFormatInformation 10 = .ok (.aload 4, 2) := dk_25 4 (dk_at dksX2_doDecodeFormatInformation_0 10 rfl rfl)
theorem dX2_doDecodeFormatInformation_12 : decode cX2_doDecodeFormatInformation 12 = .ok (.arraylength, 1) := dk_190 (dk_at dksX2_doDecodeFormatInformation_0 12 rfl rfl)
theorem dX2_doDecodeFormatInformation_13 : decode cX2_doDecodeFormatInformation 13 = .ok (.istore 5, 2) := dk_54 5 (dk_at dksX2_doDecodeFormatInformation_0 13 rfl rfl)
theorem dX2_doDecodeFormatInformation_15 : decode cX2_doDecodeFormatInformation 15 = .ok (.iconst 0, 1) := dk_3 (dk_at dksX2_doDecodeFormatInformation_0 15 rfl rfl)
theorem dX2_doDecodeFormatInformation_16 : decode cX2_doDecodeFormatInformation 16 = .ok (.istore 6, 2) := dk_54 6 (dk_at dksX2_doDecodeFormatInformation_0 16 rfl rfl)
theorem dX2_doDecodeFormatInformation_18 : decode cX2_doDecodeFormatInformation 18 = .ok (.iload 6, 2) := dk_21 6 (dk_at dksX2_doDecodeFormatInformation_0 18 rfl rfl)
theorem dX2_doDecodeFormatInformation_20 : decode cX2_doDecodeFormatInformation 20 = .ok (.iload 5, 2) := dk_21 5 (dk_at dksX2_doDecodeFormatInformation_0 20 rfl rfl)
theorem dX2_doDecodeFormatInformation_22 : decode cX2_doDecodeFormatInformation 22 = .ok (.if_icmp .ge 95, 3) := dk_162 0 95 (dk_at dksX2_doDecodeFormatInformation_1 0 rfl rfl)
theorem dX2_doDecodeFormatInformation_25 : decode cX2_doDecodeFormatInformation 25 = .ok (.aload 4, 2) := dk_25 4 (dk_at dksX2_doDecodeFormatInformation_1 3 rfl rfl)
theorem dX2_doDecodeFormatInformation_27 : decode cX2_doDecodeFormatInformation 27 = .ok (.iload 6, 2) := dk_21 6 (dk_at dksX2_doDecodeFormatInformation_1 5 rfl rfl)
theorem dX2_doDecodeFormatInformation_29 : decode cX2_doDecodeFormatInformation 29 = .ok (.aaload, 1) := dk_50 (dk_at dksX2_doDecodeFormatInformation_1 7 rfl rfl)
theorem dX2_doDecodeFormatInformation_30 : decode cX2_doDecodeFormatInformation 30 = .ok (.astore 7, 2) := dk_58 7 (dk_at dksX2_doDecodeFormatInformation_1 8 rfl rfl)
theorem dX2_doDecodeFormatInformation_32 : decode cX2_doDecodeFormatInformation 32 = .ok (.aload 7, 2) := dk_25 7 (dk_at dksX2_doDecodeFormatInformation_1 10 rfl rfl)
theorem dX2_doDecodeFormatInformation_34 : decode cX2_doDecodeFormatInformation 34 = .ok (.iconst 0, 1) := dk_3 (dk_at dksX2_doDecodeFormatInformation_1 12 rfl rfl)
theorem dX2_doDecodeFormatInformation_35 : decode cX2_doDecodeFormatInformation 35 = .ok (.iaload, 1) := dk_46 (dk_at dksX2_doDecodeFormatInformation_1 13 rfl rfl)
theorem dX2_doDecodeFormatInformation_36 : decode cX2_doDecodeFormatInformation 36 = .ok (.istore 8, 2) := dk_54 8 (dk_at dksX2_doDecodeFormatInformation_1 14 rfl rfl)
theorem dX2_doDecodeFormatInformation_38 : decode cX2_doDecodeFormatInformation 38 = .ok (.iload 8, 2) := dk_21 8 (dk_at dksX2_doDecodeFormatInformation_1 16 rfl rfl)
theorem dX2_doDecodeFormatInformation_40 : decode cX2_doDecodeFormatInformation 40 = .ok (.iload_n 0, 1) := dk_26 (dk_at dksX2_doDecodeFormatInformation_1 18 rfl rfl)
theorem dX2_doDecodeFormatInformation_41 : decode cX2_doDecodeFormatInformation 41 = .ok (.if_icmp .eq 9, 3) := dk_159 0 9 (dk_at dksX2_doDecodeFormatInformation_1 19 rfl rfl)
theorem dX2_doDecodeFormatInformation_44 : decode cX2_doDecodeFormatInformation 44 = .ok (.iload 8, 2) := dk_21 8 (dk_at dksX2_doDecodeFormatInformation_1 22 rfl rfl)
theorem dX2_doDecodeFormatInformation_46 : decode cX2_doDecodeFormatInformation 46 = .ok (.iload_n 1, 1) := dk_27 (dk_at dksX2_doDecodeFormatInformation_2 0 rfl rfl)
theorem dX2_doDecodeFormatInformation_47 : decode cX2_doDecodeFormatInformation 47 = .ok (.if_icmp .ne 15, 3) := dk_160 0 15 (dk_at dksX2_doDecodeFormatInformation_2 1 rfl rfl)
theorem dX2_doDecodeFormatInformation_50 : decode cX2_doDecodeFormatInformation 50 = .ok (.new 14, 3) := dk_187 0 14 (dk_at dksX2_doDecodeFormatInformation_2 4 rfl rfl)
theorem dX2_doDecodeFormatInformation_53 : decode cX2_doDecodeFormatInformation 53 = .ok (.dup, 1) := dk_89 (dk_at dksX2_doDecodeFormatInformation_2 7 rfl rfl)
theorem dX2_doDecodeFormatInformation_54 : decode cX2_doDecodeFormatInformation 54 = .ok (.aload 7, 2) := dk_25 7 (dk_at dksX2_doDecodeFormatInformation_2 8 rfl rfl)
theorem dX2_doDecodeFormatInformation_56 : decode cX2_doDecodeFormatInformation 56 = .ok (.iconst 1, 1) := dk_4 (dk_at dksX2_doDecodeFormatInformation_2 10 rfl rfl)
theorem dX2_doDecodeFormatInformation_57 : decode cX2_doDecodeFormatInformation 57 = .ok (.iaload, 1) := dk_46 (dk_at dksX2_doDecodeFormatInformation_2 11 rfl rfl)
theorem dX2_doDecodeFormatInformation_58 : decode cX2_doDecodeFormatInformation 58 = .ok (.invokespecial 38, 3) := dk_183 0 38 (dk_at dksX2_doDecodeFormatInformation_2 12 rfl rfl)
theorem dX2_doDecodeFormatInformation_61 : decode cX2_doDecodeFormatInformation 61 = .ok (.areturn, 1) := dk_176 (dk_at dksX2_doDecodeFormatInformation_2 15 rfl rfl)
theorem dX2_doDecodeFormatInformation_62 : decode cX2_doDecodeFormatInformation 62 = .ok (.iload_n 0, 1) := dk_26 (dk_at dksX2_doDecodeFormatInformation_2 16 rfl rfl)
theorem dX2_doDecodeFormatInformation_63 : decode cX2_doDecodeFormatInformation 63 = .ok (.iload 8, 2) := dk_21 8 (dk_at dksX2_doDecodeFormatInformation_2 17 rfl rfl)
theorem dX2_doDecodeFormatInformation_65 : decode cX2_doDecodeFormatInformation 65 = .ok (.invokestatic 41, 3) := dk_184 0 41 (dk_at dksX2_doDecodeFormatInformation_2 19 rfl rfl)
theorem dX2_doDecodeFormatInformation_68 : decode cX2_doDecodeFormatInformation 68 = .ok (.istore 9, 2) := dk_54 9 (dk_at dksX2_doDecodeFormatInformation_2 22 rfl rfl)
theorem dX2_doDecodeFormatInformation_70 : decode cX2_doDecodeFormatInformation 70 = .ok (.iload 9, 2) := dk_21 9 (dk_at dksX2_doDecodeFormatInformation_3 0 rfl rfl)
theorem dX2_doDecodeFormatInformation_72 : decode cX2_doDecodeFormatInformation 72 = .ok (.iload_n 2, 1) := dk_28 (dk_at dksX2_doDecodeFormatInformation_3 2 rfl rfl)
theorem dX2_doDecodeFormatInformation_73 : decode cX2_doDecodeFormatInformation 73 = .ok (.if_icmp .ge 11, 3) := dk_162 0 11 (dk_at dksX2_doDecodeFormatInformation_3 3 rfl rfl)
theorem dX2_doDecodeFormatInformation_76 : decode cX2_doDecodeFormatInformation 76 = .ok (.aload 7, 2) := dk_25 7 (dk_at dksX2_doDecodeFormatInformation_3 6 rfl rfl)
theorem dX2_doDecodeFormatInformation_78 : decode cX2_doDecodeFormatInformation 78 = .ok (.iconst 1, 1) := dk_4 (dk_at dksX2_doDecodeFormatInformation_3 8 rfl rfl)
theorem dX2_doDecodeFormatInformation_79 : decode cX2_doDecodeFormatInformation 79 = .ok (.iaload, 1) := dk_46 (dk_at dksX2_doDecodeFormatInformation_3 9 rfl rfl)
theorem dX2_doDecodeFormatInformation_80 : decode cX2_doDecodeFormatInformation 80 = .ok (.istore_n 3, 1) := dk_62 (dk_at dksX2_doDecodeFormatInformation_3 10 rfl rfl)
theorem dX2_doDecodeFormatInformation_81 : decode cX2_doDecodeFormatInformation 81 = .ok (.iload 9, 2) := dk_21 9 (dk_at dksX2_doDecodeFormatInformation_3 11 rfl rfl)
theorem dX2_doDecodeFormatInformation_83 : decode cX2_doDecodeFormatInformation 83 = .ok (.istore_n 2, 1) := dk_61 (dk_at dksX2_doDecodeFormatInformation_3 13 rfl rfl)
theorem dX2_doDecodeFormatInformation_84 : decode cX2_doDecodeFormatInformation 84 = .ok (.iload_n 0, 1) := dk_26 (dk_at dksX2_doDecodeFormatInformation_3 14 rfl rfl)
theorem dX2_doDecodeFormatInformation_85 : decode cX2_doDecodeFormatInformation 85 = .ok (.iload_n 1, 1) := dk_27 (dk_at dksX2_doDecodeFormatInformation_3 15 rfl rfl)
theorem dX2_doDecodeFormatInformation_86 : decode cX2_doDecodeFormatInformation 86 = .ok (.if_icmp .eq 25, 3) := dk_159 0 25 (dk_at dksX2_doDecodeFormatInformation_3 16 rfl rfl)
theorem dX2_doDecodeFormatInformation_89 : decode cX2_doDecodeFormatInformation 89 = .ok (.iload_n 1, 1) := dk_27 (dk_at dksX2_doDecodeFormatInformation_3 19 rfl rfl)
theorem dX2_doDecodeFormatInformation_90 : decode cX2_doDecodeFormatInformation 90 = .ok (.iload 8, 2) := dk_21 8 (dk_at dksX2_doDecodeFormatInformation_3 20 rfl rfl)
theorem dX2_doDecodeFormatInformation_92 : decode cX2_doDecodeFormatInformation 92 = .ok (.invokestatic 41, 3) := dk_184 0 41 (dk_at dksX2_doDecodeFormatInformation_4 0 rfl rfl)
theorem dX2_doDecodeFormatInformation_95 : decode cX2_doDecodeFormatInformation 95 = .ok (.istore 9, 2) := dk_54 9 (dk_at dksX2_doDecodeFormatInformation_4 3 rfl rfl)
theorem dX2_doDecodeFormatInformation_97 : decode cX2_doDecodeFormatInformation 97 = .ok (.iload 9, 2) := dk_21 9 (dk_at dksX2_doDecodeFormatInformation_4 5 rfl rfl)
theorem dX2_doDecodeFormatInformation_99 : decode cX2_doDecodeFormatInformation 99 = .ok (.iload_n 2, 1) := dk_28 (dk_at dksX2_doDecodeFormatInformation_4 7 rfl rfl)
theorem dX2_doDecodeFormatInformation_100 : decode cX2_doDecodeFormatInformation 100 = .ok (.if_icmp .ge 11, 3) := dk_162 0 11 (dk_at dksX2_doDecodeFormatInformation_4 8 rfl rfl)
theorem dX2_doDecodeFormatInformation_103 : decode cX2_doDecodeFormatInformation 103 = .ok (.aload 7, 2) := dk_25 7 (dk_at dksX2_doDecodeFormatInformation_4 11 rfl rfl)
theorem dX2_doDecodeFormatInformation_105 : decode cX2_doDecodeFormatInformation 105 = .ok (.iconst 1, 1) := dk_4 (dk_at dksX2_doDecodeFormatInformation_4 13 rfl rfl)
theorem dX2_doDecodeFormatInformation_106 : decode cX2_doDecodeFormatInformation 106 = .ok (.iaload, 1) := dk_46 (dk_at dksX2_doDecodeFormatInformation_4 14 rfl rfl)
theorem dX2_doDecodeFormatInformation_107 : decode cX2_doDecodeFormatInformation 107 = .ok (.istore_n 3, 1) := dk_62 (dk_at dksX2_doDecodeFormatInformation_4 15 rfl rfl)
theorem dX2_doDecodeFormatInformation_108 : decode cX2_doDecodeFormatInformation 108 = .ok (.iload 9, 2) := dk_21 9 (dk_at dksX2_doDecodeFormatInformation_4 16 rfl rfl)
theorem dX2_doDecodeFormatInformation_110 : decode cX2_doDecodeFormatInformation 110 = .ok (.istore_n 2, 1) := dk_61 (dk_at dksX2_doDecodeFormatInformation_4 18 rfl rfl)
theorem dX2_doDecodeFormatInformation_111 : decode cX2_doDecodeFormatInformation 111 = .ok (.iinc 6 1, 3) := dk_132 6 1 (dk_at dksX2_doDecodeFormatInformation_4 19 rfl rfl)
theorem dX2_doDecodeFormatInformation_114 : decode cX2_doDecodeFormatInformation 114 = .ok (.goto (-96), 3) := dk_167 255 160 (dk_at dksX2_doDecodeFormatInformation_5 0 rfl rfl)
theorem dX2_doDecodeFormatInformation_117 : decode cX2_doDecodeFormatInformation 117 = .ok (.iload_n 2, 1) := dk_28 (dk_at dksX2_doDecodeFormatInformation_5 3 rfl rfl)
theorem dX2_doDecodeFormatInformation_118 : decode cX2_doDecodeFormatInformation 118 = .ok (.iconst 3, 1) := dk_6 (dk_at dksX2_doDecodeFormatInformation_5 4 rfl rfl)
theorem dX2_doDecodeFormatInformation_119 : decode cX2_doDecodeFormatInformation 119 = .ok (.if_icmp .gt 12, 3) := dk_163 0 12 (dk_at dksX2_doDecodeFormatInformation_5 5 rfl rfl)
theorem dX2_doDecodeFormatInformation_122 : decode cX2_doDecodeFormatInformation 122 = .ok (.new 14, 3) := dk_187 0 14 (dk_at dksX2_doDecodeFormatInformation_5 8 rfl rfl)
theorem dX2_doDecodeFormatInformation_125 : decode cX2_doDecodeFormatInformation 125 = .ok (.dup, 1) := dk_89 (dk_at dksX2_doDecodeFormatInformation_5 11 rfl rfl)
theorem dX2_doDecodeFormatInformation_126 : decode cX2_doDecodeFormatInformation 126 = .ok (.iload_n 3, 1) := dk_29 (dk_at dksX2_doDecodeFormatInformation_5 12 rfl rfl)
theorem dX2_doDecodeFormatInformation_127 : decode cX2_doDecodeFormatInformation 127 = .ok (.invokespecial 38, 3) := dk_183 0 38 (dk_at dksX2_doDecodeFormatInformation_5 13 rfl rfl)
theorem dX2_doDecodeFormatInformation_130 : decode cX2_doDecodeFormatInformation 130 = .ok (.areturn, 1) := dk_176 (dk_at dksX2_doDecodeFormatInformation_5 16 rfl rfl)
theorem dX2_doDecodeFormatInformation_131 : decode cX2_doDecodeFormatInformation 131 = .ok (.aconst_null, 1) := dk_1 (dk_at dksX2_doDecodeFormatInformation_5 17 rfl rfl)
theorem dX2_doDecodeFormatInformation_132 : decode cX2_doDecodeFormatInformation 132 = .ok (.areturn, 1) := dk_176 (dk_at dksX2_doDecodeFormatInformation_5 18 rfl rfl)
abbrev cX2_init : ByteArray := prog_2_method_1_code
def yX2_init : MethodName := ⟨RX2, "<init>", "(I)V"⟩
def dkwX2_init_1 : List UInt8 := [181, 0, 19, 177]
abbrev dktX2_init_1 : List UInt8 := dkwX2_init_1 ++ []
def dkwX2_init_0 : List UInt8 := [42, 183, 0, 1, 42, 27, 6, 122, 6, 126, 184, 0, 7, 181, 0, 13, 42, 27, 16, 7, 126, 145]
abbrev dktX2_init_0 : List UInt8 := dkwX2_init_0 ++ dktX2_init_1
theorem dksX2_init_0 : cX2_init.data.toList.drop 0 = dktX2_init_0 := by decide +kernel
theorem dksX2_init_1 : cX2_init.data.toList.drop 22 = dktX2_init_1 := dk_seg dksX2_init_0 22 rfl rfl
theorem dX2_init_0 : decode cX2_init 0 = .ok (.aload_n 0, 1) := dk_42 (dk_at dksX2_init_0 0 rfl rfl)
theorem dX2_init_1 : decode cX2_init 1 = .ok (.invokespecial 1, 3) := dk_183 0 1 (dk_at dksX2_init_0 1 rfl rfl)
theorem dX2_init_4 : decode cX2_init 4 = .ok (.aload_n 0, 1) := dk_42 (dk_at dksX2_init_0 4 rfl rfl)
theorem dX2_init_5 : decode cX2_init 5 = .ok (.iload_n 1, 1) := dk_27 (dk_at dksX2_init_0 5 rfl rfl)
theorem dX2_init_6 : decode cX2_init 6 = .ok (.iconst 3, 1) := dk_6 (dk_at dksX2_init_0 6 rfl rfl)
theorem dX2_init_7 : decode cX2_init 7 = .ok (.ishr, 1) := dk_122 (dk_at dksX2_init_0 7 rfl rfl)
theorem dX2_init_8 : decode cX2_init 8 = .ok (.iconst 3, 1) := dk_6 (dk_at dksX2_init_0 8 rfl rfl)
theorem dX2_init_9 : decode cX2_init 9 = .ok (.iand, 1) := dk_126 (dk_at dksX2_init_0 9 rfl rfl)
theorem dX2_init_10 : decode cX2_init 10 = .ok (.invokestatic 7, 3) := dk_184 0 7 (dk_at dksX2_init_0 10 rfl rfl)
theorem dX2_init_13 : decode cX2_init 13 = .ok (.putfield 13, 3) := dk_181 0 13 (dk_at dksX2_init_0 13 rfl rfl)
theorem dX2_init_16 : decode cX2_init 16 = .ok (.aload_n 0, 1) := dk_42 (dk_at dksX2_init_0 16 rfl rfl)
theorem dX2_init_17 : decode cX2_init 17 = .ok (.iload_n 1, 1) := dk_27 (dk_at dksX2_init_0 17 rfl rfl)
theorem dX2_init_18 : decode cX2_init 18 = .ok (.bipush 7, 2) := dk_16 7 (dk_at dksX2_init_0 18 rfl rfl)
theorem dX2_init_20 : decode cX2_init 20 = .ok (.iand, 1) := dk_126 (dk_at dksX2_init_0 20 rfl rfl)
theorem dX2_init_21 : decode cX2_init 21 = .ok (.i2b, 1) := dk_145 (dk_at dksX2_init_0 21 rfl rfl)
theorem dX2_init_22 : decode cX2_init 22 = .ok (.putfield 19, 3) := dk_181 0 19 (dk_at dksX2_init_1 0 rfl rfl)
theorem dX2_init_25 : decode cX2_init 25 = .ok (.return_, 1) := dk_177 (dk_at dksX2_init_1 3 rfl rfl)
abbrev cX2_numBitsDiffering : ByteArray := prog_2_method_2_code
def yX2_numBitsDiffering : MethodName := ⟨RX2, "numBitsDiffering", "(II)I"⟩
def dkwX2_numBitsDiffering_0 : List UInt8 := [26, 27, 130, 184, 0, 23, 172]
abbrev dktX2_numBitsDiffering_0 : List UInt8 := dkwX2_numBitsDiffering_0 ++ []
theorem dksX2_numBitsDiffering_0 : cX2_numBitsDiffering.data.toList.drop 0 = dktX2_numBitsDiffering_0 := by decide +kernel
theorem dX2_numBitsDiffering_0 : decode cX2_numBitsDiffering 0 = .ok (.iload_n 0, 1) := dk_26 (dk_at dksX2_numBitsDiffering_0 0 rfl rfl)
theorem dX2_numBitsDiffering_1 : decode cX2_numBitsDiffering 1 = .ok (.iload_n 1, 1) := dk_27 (dk_at dksX2_numBitsDiffering_0 1 rfl rfl)
theorem dX2_numBitsDiffering_2 : decode cX2_numBitsDiffering 2 = .ok (.ixor, 1) := dk_130 (dk_at dksX2_numBitsDiffering_0 2 rfl rfl)
theorem dX2_numBitsDiffering_3 : decode cX2_numBitsDiffering 3 = .ok (.invokestatic 23, 3) := dk_184 0 23 (dk_at dksX2_numBitsDiffering_0 3 rfl rfl)
theorem dX2_numBitsDiffering_6 : decode cX2_numBitsDiffering 6 = .ok (.ireturn, 1) := dk_172 (dk_at dksX2_numBitsDiffering_0 6 rfl rfl)
abbrev cX2_getErrorCorrectionLevel : ByteArray := prog_2_method_5_code
def yX2_getErrorCorrectionLevel : MethodName := ⟨RX2, "getErrorCorrectionLevel", "()LErrorCorrectionLevel;"⟩
theorem dX2_getErrorCorrectionLevel_0 : decode cX2_getErrorCorrectionLevel 0 = .ok (.aload_n 0, 1) := by decide +kernel
theorem dX2_getErrorCorrectionLevel_1 : decode cX2_getErrorCorrectionLevel 1 = .ok (.getfield 13, 3) := by decide +kernel
theorem dX2_getErrorCorrectionLevel_4 : decode cX2_getErrorCorrectionLevel 4 = .ok (.areturn, 1) := by decide +kernel
abbrev cX2_getDataMask : ByteArray := prog_2_method_6_code
def yX2_getDataMask : MethodName := ⟨RX2, "getDataMask", "()B"⟩
theorem dX2_getDataMask_0 : decode cX2_getDataMask 0 = .ok (.aload_n 0, 1) := by decide +kernel
theorem dX2_getDataMask_1 : decode cX2_getDataMask 1 = .ok (.getfield 19, 3) := by decide +kernel
theorem dX2_getDataMask_4 : decode cX2_getDataMask 4 = .ok (.ireturn, 1) := by decide +kernel
theorem q3 : (Jvm.Cond.initialized "FormatInformation") ∈ lw_all := lw_g (lw_at lw_m0 2 rfl) rfl
theorem q39 : (Jvm.Cond.static ({ cls := "FormatInformation", name := "decodeFormatInformation", desc := "(II)LFormatInformation;" } : Jvm.MethodName)) ∈ lw_all := lw_g (lw_at lw_m0 38 rfl) rfl
theorem q40 : (Jvm.Cond.code ({ cls := "FormatInformation", name := "decodeFormatInformation", desc := "(II)LFormatInformation;" } : Jvm.MethodName) prog_2_method_3_code (3 : Nat) (Option.some (Jvm.ClassFile.FieldType.object "FormatInformation"))) ∈ lw_all := lw_g (lw_at lw_m0 39 rfl) rfl
theorem q41 : (Jvm.Cond.methodLink "FormatInformation" (29 : Nat) ({ cls := "FormatInformation", name := "doDecodeFormatInformation", desc := "(II)LFormatInformation;" } : Jvm.MethodName)) ∈ lw_all := lw_g (lw_at lw_m0 40 rfl) rfl
theorem q42 : (Jvm.Cond.static ({ cls := "FormatInformation", name := "doDecodeFormatInformation", desc := "(II)LFormatInformation;" } : Jvm.MethodName)) ∈ lw_all := lw_g (lw_at lw_m0 41 rfl) rfl
theorem q43 : (Jvm.Cond.code ({ cls := "FormatInformation", name := "doDecodeFormatInformation", desc := "(II)LFormatInformation;" } : Jvm.MethodName) prog_2_method_4_code (10 : Nat) (Option.some (Jvm.ClassFile.FieldType.object "FormatInformation"))) ∈ lw_all := lw_g (lw_at lw_m0 42 rfl) rfl
theorem q44 : (Jvm.Cond.constant "FormatInformation" (33 : Nat) (2147483647 : Int32)) ∈ lw_all := lw_g (lw_at lw_m0 43 rfl) rfl
theorem q45 : (Jvm.Cond.fieldLink "FormatInformation" (34 : Nat) "FormatInformation" "FORMAT_INFO_DECODE_LOOKUP" "[[I") ∈ lw_all := lw_g (lw_at lw_m0 44 rfl) rfl
theorem q46 : (Jvm.Cond.laysStatic "FormatInformation" "FORMAT_INFO_DECODE_LOOKUP" "[[I") ∈ lw_tbl := lw_at lw_m0 45 rfl
theorem q47 : (Jvm.Cond.classLink "FormatInformation" (14 : Nat) "FormatInformation") ∈ lw_all := lw_g (lw_at lw_m0 46 rfl) rfl
theorem q48 : (Jvm.Cond.instantiable "FormatInformation" (2 : Nat)) ∈ lw_all := lw_g (lw_at lw_m0 47 rfl) rfl
theorem q49 : (Jvm.Cond.methodLink "FormatInformation" (38 : Nat) ({ cls := "FormatInformation", name := "<init>", desc := "(I)V" } : Jvm.MethodName)) ∈ lw_all := lw_g (lw_at lw_m0 48 rfl) rfl
theorem q50 : (Jvm.Cond.instanceMethod ({ cls := "FormatInformation", name := "<init>", desc := "(I)V" } : Jvm.MethodName)) ∈ lw_all := lw_g (lw_at lw_m0 49 rfl) rfl
theorem q51 : (Jvm.Cond.code ({ cls := "FormatInformation", name := "<init>", desc := "(I)V" } : Jvm.MethodName) prog_2_method_1_code (2 : Nat) (Option.none : Option Jvm.ClassFile.FieldType)) ∈ lw_all := lw_g (lw_at lw_m0 50 rfl) rfl
theorem q52 : (Jvm.Cond.methodLink "FormatInformation" (1 : Nat) ({ cls := "java/lang/Object", name := "<init>", desc := "()V" } : Jvm.MethodName)) ∈ lw_all := lw_g (lw_at lw_m0 51 rfl) rfl
theorem q53 : (Jvm.Cond.methodLink "FormatInformation" (7 : Nat) ({ cls := "ErrorCorrectionLevel", name := "forBits", desc := "(I)LErrorCorrectionLevel;" } : Jvm.MethodName)) ∈ lw_all := lw_g (lw_at lw_m0 52 rfl) rfl
theorem q119 : (Jvm.Cond.fieldLink "FormatInformation" (13 : Nat) "FormatInformation" "errorCorrectionLevel" "LErrorCorrectionLevel;") ∈ lw_all := lw_g (lw_at lw_m0 118 rfl) rfl
theorem q120 : (Jvm.Cond.fieldLink "FormatInformation" (19 : Nat) "FormatInformation" "dataMask" "B") ∈ lw_all := lw_g (lw_at lw_m0 119 rfl) rfl
theorem q121 : (Jvm.Cond.laysFinal "FormatInformation" "FormatInformation" "errorCorrectionLevel" "LErrorCorrectionLevel;") ∈ lw_all := lw_g (lw_at lw_m0 120 rfl) rfl
theorem q122 : (Jvm.Cond.soleField "FormatInformation" "errorCorrectionLevel") ∈ lw_all := lw_g (lw_at lw_m0 121 rfl) rfl
theorem q123 : (Jvm.Cond.laysFinal "FormatInformation" "FormatInformation" "dataMask" "B") ∈ lw_all := lw_g (lw_at lw_m0 122 rfl) rfl
theorem q124 : (Jvm.Cond.soleField "FormatInformation" "dataMask") ∈ lw_all := lw_g (lw_at lw_m0 123 rfl) rfl
theorem q125 : (Jvm.Cond.superclass "FormatInformation" "java/lang/Object") ∈ lw_all := lw_g (lw_at lw_m0 124 rfl) rfl
theorem q126 : (Jvm.Cond.methodLink "FormatInformation" (41 : Nat) ({ cls := "FormatInformation", name := "numBitsDiffering", desc := "(II)I" } : Jvm.MethodName)) ∈ lw_all := lw_g (lw_at lw_m0 125 rfl) rfl
theorem q127 : (Jvm.Cond.static ({ cls := "FormatInformation", name := "numBitsDiffering", desc := "(II)I" } : Jvm.MethodName)) ∈ lw_all := lw_g (lw_at lw_m0 126 rfl) rfl
theorem q128 : (Jvm.Cond.code ({ cls := "FormatInformation", name := "numBitsDiffering", desc := "(II)I" } : Jvm.MethodName) prog_2_method_2_code (2 : Nat) (Option.some Jvm.ClassFile.FieldType.int)) ∈ lw_all := lw_g (lw_at lw_m0 127 rfl) rfl
theorem q129 : (Jvm.Cond.methodLink "FormatInformation" (23 : Nat) ({ cls := "java/lang/Integer", name := "bitCount", desc := "(I)I" } : Jvm.MethodName)) ∈ lw_all := lw_g (lw_at lw_m0 128 rfl) rfl
theorem q136 : (Jvm.Cond.instanceMethod ({ cls := "FormatInformation", name := "getErrorCorrectionLevel", desc := "()LErrorCorrectionLevel;" } : Jvm.MethodName)) ∈ lw_all := lw_g (lw_at lw_m0 135 rfl) rfl
theorem q137 : (Jvm.Cond.selects "FormatInformation" ({ cls := "FormatInformation", name := "getErrorCorrectionLevel", desc := "()LErrorCorrectionLevel;" } : Jvm.MethodName) ({ cls := "FormatInformation", name := "getErrorCorrectionLevel", desc := "()LErrorCorrectionLevel;" } : Jvm.MethodName)) ∈ lw_all := lw_g (lw_at lw_m0 136 rfl) rfl
theorem q138 : (Jvm.Cond.code ({ cls := "FormatInformation", name := "getErrorCorrectionLevel", desc := "()LErrorCorrectionLevel;" } : Jvm.MethodName) prog_2_method_5_code (1 : Nat) (Option.some (Jvm.ClassFile.FieldType.object "ErrorCorrectionLevel"))) ∈ lw_all := lw_g (lw_at lw_m0 137 rfl) rfl
theorem q144 : (Jvm.Cond.instanceMethod ({ cls := "FormatInformation", name := "getDataMask", desc := "()B" } : Jvm.MethodName)) ∈ lw_all := lw_g (lw_at lw_m0 143 rfl) rfl
theorem q145 : (Jvm.Cond.selects "FormatInformation" ({ cls := "FormatInformation", name := "getDataMask", desc := "()B" } : Jvm.MethodName) ({ cls := "FormatInformation", name := "getDataMask", desc := "()B" } : Jvm.MethodName)) ∈ lw_all := lw_g (lw_at lw_m0 144 rfl) rfl
theorem q146 : (Jvm.Cond.code ({ cls := "FormatInformation", name := "getDataMask", desc := "()B" } : Jvm.MethodName) prog_2_method_6_code (1 : Nat) (Option.some Jvm.ClassFile.FieldType.byte)) ∈ lw_all := lw_g (lw_at lw_m0 145 rfl) rfl
theorem in_X2 : ∀ w ∈ wsX20, w ∈ lw_all := lw_in wsX20 [121, 123] (by decide +kernel) (by decide +kernel)
/-! FormatWord -/
set_option maxRecDepth 100000
def RX1 : String := "FormatWord"
abbrev cX1_init : ByteArray := prog_3_method_1_code
def yX1_init : MethodName := ⟨RX1, "<init>", "()V"⟩
theorem dX1_init_0 : decode cX1_init 0 = .ok (.aload_n 0, 1) := by decide +kernel
theorem dX1_init_1 : decode cX1_init 1 = .ok (.invokespecial 1, 3) := by decide +kernel
theorem dX1_init_4 : decode cX1_init 4 = .ok (.return_, 1) := by decide +kernel
abbrev cX1_read : ByteArray := prog_3_method_2_code
def yX1_read : MethodName := ⟨RX1, "read", "(II)I"⟩
def dkwX1_read_1 : List UInt8 := [182, 0, 23, 128, 172]
abbrev dktX1_read_1 : List UInt8 := dkwX1_read_1 ++ []
def dkwX1_read_0 : List UInt8 := [27, 28, 184, 0, 7, 78, 45, 199, 0, 7, 2, 167, 0, 17, 45, 182, 0, 13, 182, 0, 17, 6, 120, 45]
abbrev dktX1_read_0 : List UInt8 := dkwX1_read_0 ++ dktX1_read_1
theorem dksX1_read_0 : cX1_read.data.toList.drop 0 = dktX1_read_0 := by decide +kernel
theorem dksX1_read_1 : cX1_read.data.toList.drop 24 = dktX1_read_1 := dk_seg dksX1_read_0 24 rfl rfl
theorem dX1_read_0 : decode cX1_read 0 = .ok (.iload_n 1, 1) := dk_27 (dk_at dksX1_read_0 0 rfl rfl)
theorem dX1_read_1 : decode cX1_read 1 = .ok (.iload_n 2, 1) := dk_28 (dk_at dksX1_read_0 1 rfl rfl)
theorem dX1_read_2 : decode cX1_read 2 = .ok (.invokestatic 7, 3) := dk_184 0 7 (dk_at dksX1_read_0 2 rfl rfl)
theorem dX1_read_5 : decode cX1_read 5 = .ok (.astore_n 3, 1) := dk_78 (dk_at dksX1_read_0 5 rfl rfl)
theorem dX1_read_6 : decode cX1_read 6 = .ok (.aload_n 3, 1) := dk_45 (dk_at dksX1_read_0 6 rfl rfl)
theorem dX1_read_7 : decode cX1_read 7 = .ok (.ifnonnull 7, 3) := dk_199 0 7 (dk_at dksX1_read_0 7 rfl rfl)
theorem dX1_read_10 : decode cX1_read 10 = .ok (.iconst (-1), 1) := dk_2 (dk_at dksX1_read_0 10 rfl rfl)
theorem dX1_read_11 : decode cX1_read 11 = .ok (.goto 17, 3) := dk_167 0 17 (dk_at dksX1_read_0 11 rfl rfl)
theorem dX1_read_14 : decode cX1_read 14 = .ok (.aload_n 3, 1) := dk_45 (dk_at dksX1_read_0 14 rfl rfl)
theorem dX1_read_15 : decode cX1_read 15 = .ok (.invokevirtual 13, 3) := dk_182 0 13 (dk_at dksX1_read_0 15 rfl rfl)
theorem dX1_read_18 : decode cX1_read 18 = .ok (.invokevirtual 17, 3) := dk_182 0 17 (dk_at dksX1_read_0 18 rfl rfl)
theorem dX1_read_21 : decode cX1_read 21 = .ok (.iconst 3, 1) := dk_6 (dk_at dksX1_read_0 21 rfl rfl)
theorem dX1_read_22 : decode cX1_read 22 = .ok (.ishl, 1) := dk_120 (dk_at dksX1_read_0 22 rfl rfl)
theorem dX1_read_23 : decode cX1_read 23 = .ok (.aload_n 3, 1) := dk_45 (dk_at dksX1_read_0 23 rfl rfl)
theorem dX1_read_24 : decode cX1_read 24 = .ok (.invokevirtual 23, 3) := dk_182 0 23 (dk_at dksX1_read_1 0 rfl rfl)
theorem dX1_read_27 : decode cX1_read 27 = .ok (.ior, 1) := dk_128 (dk_at dksX1_read_1 3 rfl rfl)
theorem dX1_read_28 : decode cX1_read 28 = .ok (.ireturn, 1) := dk_172 (dk_at dksX1_read_1 4 rfl rfl)
abbrev cX1_apart : ByteArray := prog_3_method_3_code
def yX1_apart : MethodName := ⟨RX1, "apart", "(II)I"⟩
def dkwX1_apart_0 : List UInt8 := [27, 28, 184, 0, 27, 172]
abbrev dktX1_apart_0 : List UInt8 := dkwX1_apart_0 ++ []
theorem dksX1_apart_0 : cX1_apart.data.toList.drop 0 = dktX1_apart_0 := by decide +kernel
theorem dX1_apart_0 : decode cX1_apart 0 = .ok (.iload_n 1, 1) := dk_27 (dk_at dksX1_apart_0 0 rfl rfl)
theorem dX1_apart_1 : decode cX1_apart 1 = .ok (.iload_n 2, 1) := dk_28 (dk_at dksX1_apart_0 1 rfl rfl)
theorem dX1_apart_2 : decode cX1_apart 2 = .ok (.invokestatic 27, 3) := dk_184 0 27 (dk_at dksX1_apart_0 2 rfl rfl)
theorem dX1_apart_5 : decode cX1_apart 5 = .ok (.ireturn, 1) := dk_172 (dk_at dksX1_apart_0 5 rfl rfl)
theorem q2 : (Jvm.Cond.initialized "FormatWord") ∈ lw_all := lw_g (lw_at lw_m0 1 rfl) rfl
theorem q16 : (Jvm.Cond.instantiable "FormatWord" (0 : Nat)) ∈ lw_all := lw_g (lw_at lw_m0 15 rfl) rfl
theorem q18 : (Jvm.Cond.instanceMethod ({ cls := "FormatWord", name := "<init>", desc := "()V" } : Jvm.MethodName)) ∈ lw_all := lw_g (lw_at lw_m0 17 rfl) rfl
theorem q19 : (Jvm.Cond.code ({ cls := "FormatWord", name := "<init>", desc := "()V" } : Jvm.MethodName) prog_3_method_1_code (1 : Nat) (Option.none : Option Jvm.ClassFile.FieldType)) ∈ lw_all := lw_g (lw_at lw_m0 18 rfl) rfl
theorem q20 : (Jvm.Cond.methodLink "FormatWord" (1 : Nat) ({ cls := "java/lang/Object", name := "<init>", desc := "()V" } : Jvm.MethodName)) ∈ lw_all := lw_g (lw_at lw_m0 19 rfl) rfl
theorem q23 : (Jvm.Cond.superclass "FormatWord" "java/lang/Object") ∈ lw_all := lw_g (lw_at lw_m0 22 rfl) rfl
theorem q35 : (Jvm.Cond.instanceMethod ({ cls := "FormatWord", name := "read", desc := "(II)I" } : Jvm.MethodName)) ∈ lw_all := lw_g (lw_at lw_m0 34 rfl) rfl
theorem q36 : (Jvm.Cond.selects "FormatWord" ({ cls := "FormatWord", name := "read", desc := "(II)I" } : Jvm.MethodName) ({ cls := "FormatWord", name := "read", desc := "(II)I" } : Jvm.MethodName)) ∈ lw_all := lw_g (lw_at lw_m0 35 rfl) rfl
theorem q37 : (Jvm.Cond.code ({ cls := "FormatWord", name := "read", desc := "(II)I" } : Jvm.MethodName) prog_3_method_2_code (4 : Nat) (Option.some Jvm.ClassFile.FieldType.int)) ∈ lw_all := lw_g (lw_at lw_m0 36 rfl) rfl
theorem q38 : (Jvm.Cond.methodLink "FormatWord" (7 : Nat) ({ cls := "FormatInformation", name := "decodeFormatInformation", desc := "(II)LFormatInformation;" } : Jvm.MethodName)) ∈ lw_all := lw_g (lw_at lw_m0 37 rfl) rfl
theorem q135 : (Jvm.Cond.methodLink "FormatWord" (13 : Nat) ({ cls := "FormatInformation", name := "getErrorCorrectionLevel", desc := "()LErrorCorrectionLevel;" } : Jvm.MethodName)) ∈ lw_all := lw_g (lw_at lw_m0 134 rfl) rfl
theorem q139 : (Jvm.Cond.methodLink "FormatWord" (17 : Nat) ({ cls := "ErrorCorrectionLevel", name := "getBits", desc := "()I" } : Jvm.MethodName)) ∈ lw_all := lw_g (lw_at lw_m0 138 rfl) rfl
theorem q143 : (Jvm.Cond.methodLink "FormatWord" (23 : Nat) ({ cls := "FormatInformation", name := "getDataMask", desc := "()B" } : Jvm.MethodName)) ∈ lw_all := lw_g (lw_at lw_m0 142 rfl) rfl
theorem q148 : (Jvm.Cond.instanceMethod ({ cls := "FormatWord", name := "apart", desc := "(II)I" } : Jvm.MethodName)) ∈ lw_all := lw_g (lw_at lw_m0 147 rfl) rfl
theorem q149 : (Jvm.Cond.selects "FormatWord" ({ cls := "FormatWord", name := "apart", desc := "(II)I" } : Jvm.MethodName) ({ cls := "FormatWord", name := "apart", desc := "(II)I" } : Jvm.MethodName)) ∈ lw_all := lw_g (lw_at lw_m0 148 rfl) rfl
theorem q150 : (Jvm.Cond.code ({ cls := "FormatWord", name := "apart", desc := "(II)I" } : Jvm.MethodName) prog_3_method_3_code (3 : Nat) (Option.some Jvm.ClassFile.FieldType.int)) ∈ lw_all := lw_g (lw_at lw_m0 149 rfl) rfl
theorem q151 : (Jvm.Cond.methodLink "FormatWord" (27 : Nat) ({ cls := "FormatInformation", name := "numBitsDiffering", desc := "(II)I" } : Jvm.MethodName)) ∈ lw_all := lw_g (lw_at lw_m0 150 rfl) rfl
end
section
/-! FormatWordLaw -/
set_option maxRecDepth 100000
def RX0 : String := "FormatWordLaw"
abbrev cX0_elder : ByteArray := method_5_code
def yX0_elder : MethodName := ⟨RX0, "elder", "([I)Z"⟩
def dkwX0_elder_7 : List UInt8 := [160, 0, 7, 4, 167, 0, 4, 3, 172]
abbrev dktX0_elder_7 : List UInt8 := dkwX0_elder_7 ++ []
def dkwX0_elder_6 : List UInt8 := [182, 0, 28, 154, 0, 7, 4, 167, 0, 4, 3, 21, 4, 21, 5, 160, 0, 7, 4, 167, 0, 4, 3]
abbrev dktX0_elder_6 : List UInt8 := dkwX0_elder_6 ++ dktX0_elder_7
def dkwX0_elder_5 : List UInt8 := [21, 6, 182, 0, 28, 43, 21, 6, 21, 5, 182, 0, 28, 96, 163, 0, 38, 43, 21, 4, 21, 5]
abbrev dktX0_elder_5 : List UInt8 := dkwX0_elder_5 ++ dktX0_elder_6
def dkwX0_elder_4 : List UInt8 := [21, 5, 21, 4, 182, 0, 28, 159, 0, 5, 3, 172, 43, 21, 4, 21, 5, 182, 0, 28, 43, 21, 4]
abbrev dktX0_elder_4 : List UInt8 := dkwX0_elder_4 ++ dktX0_elder_5
def dkwX0_elder_3 : List UInt8 := [163, 0, 33, 43, 21, 5, 29, 182, 0, 28, 6, 163, 0, 22, 43, 21, 4, 21, 5, 182, 0, 28, 43]
abbrev dktX0_elder_3 : List UInt8 := dkwX0_elder_3 ++ dktX0_elder_4
def dkwX0_elder_2 : List UInt8 := [43, 21, 4, 21, 5, 182, 0, 24, 28, 159, 0, 5, 3, 172, 43, 21, 4, 29, 182, 0, 28, 6]
abbrev dktX0_elder_2 : List UInt8 := dkwX0_elder_2 ++ dktX0_elder_3
def dkwX0_elder_1 : List UInt8 := [4, 184, 0, 21, 130, 54, 4, 29, 42, 7, 184, 0, 21, 130, 54, 5, 42, 16, 7, 184, 0, 7, 54, 6]
abbrev dktX0_elder_1 : List UInt8 := dkwX0_elder_1 ++ dktX0_elder_2
def dkwX0_elder_0 : List UInt8 := [187, 0, 14, 89, 183, 0, 16, 76, 42, 3, 184, 0, 7, 16, 31, 126, 61, 28, 184, 0, 17, 62, 29, 42]
abbrev dktX0_elder_0 : List UInt8 := dkwX0_elder_0 ++ dktX0_elder_1
theorem dksX0_elder_0 : cX0_elder.data.toList.drop 0 = dktX0_elder_0 := by decide +kernel
theorem dksX0_elder_1 : cX0_elder.data.toList.drop 24 = dktX0_elder_1 := dk_seg dksX0_elder_0 24 rfl rfl
theorem dksX0_elder_2 : cX0_elder.data.toList.drop 48 = dktX0_elder_2 := dk_seg dksX0_elder_1 24 rfl rfl
theorem dksX0_elder_3 : cX0_elder.data.toList.drop 70 = dktX0_elder_3 := dk_seg dksX0_elder_2 22 rfl rfl
theorem dksX0_elder_4 : cX0_elder.data.toList.drop 93 = dktX0_elder_4 := dk_seg dksX0_elder_3 23 rfl rfl
theorem dksX0_elder_5 : cX0_elder.data.toList.drop 116 = dktX0_elder_5 := dk_seg dksX0_elder_4 23 rfl rfl
theorem dksX0_elder_6 : cX0_elder.data.toList.drop 138 = dktX0_elder_6 := dk_seg dksX0_elder_5 22 rfl rfl
theorem dksX0_elder_7 : cX0_elder.data.toList.drop 161 = dktX0_elder_7 := dk_seg dksX0_elder_6 23 rfl rfl
theorem dX0_elder_0 : decode cX0_elder 0 = .ok (.new 14, 3) := dk_187 0 14 (dk_at dksX0_elder_0 0 rfl rfl)
theorem dX0_elder_3 : decode cX0_elder 3 = .ok (.dup, 1) := dk_89 (dk_at dksX0_elder_0 3 rfl rfl)
theorem dX0_elder_4 : decode cX0_elder 4 = .ok (.invokespecial 16, 3) := dk_183 0 16 (dk_at dksX0_elder_0 4 rfl rfl)
theorem dX0_elder_7 : decode cX0_elder 7 = .ok (.astore_n 1, 1) := dk_76 (dk_at dksX0_elder_0 7 rfl rfl)
theorem dX0_elder_8 : decode cX0_elder 8 = .ok (.aload_n 0, 1) := dk_42 (dk_at dksX0_elder_0 8 rfl rfl)
theorem dX0_elder_9 : decode cX0_elder 9 = .ok (.iconst 0, 1) := dk_3 (dk_at dksX0_elder_0 9 rfl rfl)
theorem dX0_elder_10 : decode cX0_elder 10 = .ok (.invokestatic 7, 3) := dk_184 0 7 (dk_at dksX0_elder_0 10 rfl rfl)
theorem dX0_elder_13 : decode cX0_elder 13 = .ok (.bipush 31, 2) := dk_16 31 (dk_at dksX0_elder_0 13 rfl rfl)
theorem dX0_elder_15 : decode cX0_elder 15 = .ok (.iand, 1) := dk_126 (dk_at dksX0_elder_0 15 rfl rfl)
theorem dX0_elder_16 : decode cX0_elder 16 = .ok (.istore_n 2, 1) := dk_61 (dk_at dksX0_elder_0 16 rfl rfl)
theorem dX0_elder_17 : decode cX0_elder 17 = .ok (.iload_n 2, 1) := dk_28 (dk_at dksX0_elder_0 17 rfl rfl)
theorem dX0_elder_18 : decode cX0_elder 18 = .ok (.invokestatic 17, 3) := dk_184 0 17 (dk_at dksX0_elder_0 18 rfl rfl)
theorem dX0_elder_21 : decode cX0_elder 21 = .ok (.istore_n 3, 1) := dk_62 (dk_at dksX0_elder_0 21 rfl rfl)
theorem dX0_elder_22 : decode cX0_elder 22 = .ok (.iload_n 3, 1) := dk_29 (dk_at dksX0_elder_0 22 rfl rfl)
theorem dX0_elder_23 : decode cX0_elder 23 = .ok (.aload_n 0, 1) := dk_42 (dk_at dksX0_elder_0 23 rfl rfl)
theorem dX0_elder_24 : decode cX0_elder 24 = .ok (.iconst 1, 1) := dk_4 (dk_at dksX0_elder_1 0 rfl rfl)
theorem dX0_elder_25 : decode cX0_elder 25 = .ok (.invokestatic 21, 3) := dk_184 0 21 (dk_at dksX0_elder_1 1 rfl rfl)
theorem dX0_elder_28 : decode cX0_elder 28 = .ok (.ixor, 1) := dk_130 (dk_at dksX0_elder_1 4 rfl rfl)
theorem dX0_elder_29 : decode cX0_elder 29 = .ok (.istore 4, 2) := dk_54 4 (dk_at dksX0_elder_1 5 rfl rfl)
theorem dX0_elder_31 : decode cX0_elder 31 = .ok (.iload_n 3, 1) := dk_29 (dk_at dksX0_elder_1 7 rfl rfl)
theorem dX0_elder_32 : decode cX0_elder 32 = .ok (.aload_n 0, 1) := dk_42 (dk_at dksX0_elder_1 8 rfl rfl)
theorem dX0_elder_33 : decode cX0_elder 33 = .ok (.iconst 4, 1) := dk_7 (dk_at dksX0_elder_1 9 rfl rfl)
theorem dX0_elder_34 : decode cX0_elder 34 = .ok (.invokestatic 21, 3) := dk_184 0 21 (dk_at dksX0_elder_1 10 rfl rfl)
theorem dX0_elder_37 : decode cX0_elder 37 = .ok (.ixor, 1) := dk_130 (dk_at dksX0_elder_1 13 rfl rfl)
theorem dX0_elder_38 : decode cX0_elder 38 = .ok (.istore 5, 2) := dk_54 5 (dk_at dksX0_elder_1 14 rfl rfl)
theorem dX0_elder_40 : decode cX0_elder 40 = .ok (.aload_n 0, 1) := dk_42 (dk_at dksX0_elder_1 16 rfl rfl)
theorem dX0_elder_41 : decode cX0_elder 41 = .ok (.bipush 7, 2) := dk_16 7 (dk_at dksX0_elder_1 17 rfl rfl)
theorem dX0_elder_43 : decode cX0_elder 43 = .ok (.invokestatic 7, 3) := dk_184 0 7 (dk_at dksX0_elder_1 19 rfl rfl)
theorem dX0_elder_46 : decode cX0_elder 46 = .ok (.istore 6, 2) := dk_54 6 (dk_at dksX0_elder_1 22 rfl rfl)
theorem dX0_elder_48 : decode cX0_elder 48 = .ok (.aload_n 1, 1) := dk_43 (dk_at dksX0_elder_2 0 rfl rfl)
theorem dX0_elder_49 : decode cX0_elder 49 = .ok (.iload 4, 2) := dk_21 4 (dk_at dksX0_elder_2 1 rfl rfl)
theorem dX0_elder_51 : decode cX0_elder 51 = .ok (.iload 5, 2) := dk_21 5 (dk_at dksX0_elder_2 3 rfl rfl)
theorem dX0_elder_53 : decode cX0_elder 53 = .ok (.invokevirtual 24, 3) := dk_182 0 24 (dk_at dksX0_elder_2 5 rfl rfl)
theorem dX0_elder_56 : decode cX0_elder 56 = .ok (.iload_n 2, 1) := dk_28 (dk_at dksX0_elder_2 8 rfl rfl)
theorem dX0_elder_57 : decode cX0_elder 57 = .ok (.if_icmp .eq 5, 3) := dk_159 0 5 (dk_at dksX0_elder_2 9 rfl rfl)
theorem dX0_elder_60 : decode cX0_elder 60 = .ok (.iconst 0, 1) := dk_3 (dk_at dksX0_elder_2 12 rfl rfl)
theorem dX0_elder_61 : decode cX0_elder 61 = .ok (.ireturn, 1) := dk_172 (dk_at dksX0_elder_2 13 rfl rfl)
theorem dX0_elder_62 : decode cX0_elder 62 = .ok (.aload_n 1, 1) := dk_43 (dk_at dksX0_elder_2 14 rfl rfl)
theorem dX0_elder_63 : decode cX0_elder 63 = .ok (.iload 4, 2) := dk_21 4 (dk_at dksX0_elder_2 15 rfl rfl)
theorem dX0_elder_65 : decode cX0_elder 65 = .ok (.iload_n 3, 1) := dk_29 (dk_at dksX0_elder_2 17 rfl rfl)
theorem dX0_elder_66 : decode cX0_elder 66 = .ok (.invokevirtual 28, 3) := dk_182 0 28 (dk_at dksX0_elder_2 18 rfl rfl)
theorem dX0_elder_69 : decode cX0_elder 69 = .ok (.iconst 3, 1) := dk_6 (dk_at dksX0_elder_2 21 rfl rfl)
theorem dX0_elder_70 : decode cX0_elder 70 = .ok (.if_icmp .gt 33, 3) := dk_163 0 33 (dk_at dksX0_elder_3 0 rfl rfl)
theorem dX0_elder_73 : decode cX0_elder 73 = .ok (.aload_n 1, 1) := dk_43 (dk_at dksX0_elder_3 3 rfl rfl)
theorem dX0_elder_74 : decode cX0_elder 74 = .ok (.iload 5, 2) := dk_21 5 (dk_at dksX0_elder_3 4 rfl rfl)
theorem dX0_elder_76 : decode cX0_elder 76 = .ok (.iload_n 3, 1) := dk_29 (dk_at dksX0_elder_3 6 rfl rfl)
theorem dX0_elder_77 : decode cX0_elder 77 = .ok (.invokevirtual 28, 3) := dk_182 0 28 (dk_at dksX0_elder_3 7 rfl rfl)
theorem dX0_elder_80 : decode cX0_elder 80 = .ok (.iconst 3, 1) := dk_6 (dk_at dksX0_elder_3 10 rfl rfl)
theorem dX0_elder_81 : decode cX0_elder 81 = .ok (.if_icmp .gt 22, 3) := dk_163 0 22 (dk_at dksX0_elder_3 11 rfl rfl)
theorem dX0_elder_84 : decode cX0_elder 84 = .ok (.aload_n 1, 1) := dk_43 (dk_at dksX0_elder_3 14 rfl rfl)
theorem dX0_elder_85 : decode cX0_elder 85 = .ok (.iload 4, 2) := dk_21 4 (dk_at dksX0_elder_3 15 rfl rfl)
theorem dX0_elder_87 : decode cX0_elder 87 = .ok (.iload 5, 2) := dk_21 5 (dk_at dksX0_elder_3 17 rfl rfl)
theorem dX0_elder_89 : decode cX0_elder 89 = .ok (.invokevirtual 28, 3) := dk_182 0 28 (dk_at dksX0_elder_3 19 rfl rfl)
theorem dX0_elder_92 : decode cX0_elder 92 = .ok (.aload_n 1, 1) := dk_43 (dk_at dksX0_elder_3 22 rfl rfl)
theorem dX0_elder_93 : decode cX0_elder 93 = .ok (.iload 5, 2) := dk_21 5 (dk_at dksX0_elder_4 0 rfl rfl)
theorem dX0_elder_95 : decode cX0_elder 95 = .ok (.iload 4, 2) := dk_21 4 (dk_at dksX0_elder_4 2 rfl rfl)
theorem dX0_elder_97 : decode cX0_elder 97 = .ok (.invokevirtual 28, 3) := dk_182 0 28 (dk_at dksX0_elder_4 4 rfl rfl)
theorem dX0_elder_100 : decode cX0_elder 100 = .ok (.if_icmp .eq 5, 3) := dk_159 0 5 (dk_at dksX0_elder_4 7 rfl rfl)
theorem dX0_elder_103 : decode cX0_elder 103 = .ok (.iconst 0, 1) := dk_3 (dk_at dksX0_elder_4 10 rfl rfl)
theorem dX0_elder_104 : decode cX0_elder 104 = .ok (.ireturn, 1) := dk_172 (dk_at dksX0_elder_4 11 rfl rfl)
theorem dX0_elder_105 : decode cX0_elder 105 = .ok (.aload_n 1, 1) := dk_43 (dk_at dksX0_elder_4 12 rfl rfl)
theorem dX0_elder_106 : decode cX0_elder 106 = .ok (.iload 4, 2) := dk_21 4 (dk_at dksX0_elder_4 13 rfl rfl)
theorem dX0_elder_108 : decode cX0_elder 108 = .ok (.iload 5, 2) := dk_21 5 (dk_at dksX0_elder_4 15 rfl rfl)
theorem dX0_elder_110 : decode cX0_elder 110 = .ok (.invokevirtual 28, 3) := dk_182 0 28 (dk_at dksX0_elder_4 17 rfl rfl)
theorem dX0_elder_113 : decode cX0_elder 113 = .ok (.aload_n 1, 1) := dk_43 (dk_at dksX0_elder_4 20 rfl rfl)
theorem dX0_elder_114 : decode cX0_elder 114 = .ok (.iload 4, 2) := dk_21 4 (dk_at dksX0_elder_4 21 rfl rfl)
theorem dX0_elder_116 : decode cX0_elder 116 = .ok (.iload 6, 2) := dk_21 6 (dk_at dksX0_elder_5 0 rfl rfl)
theorem dX0_elder_118 : decode cX0_elder 118 = .ok (.invokevirtual 28, 3) := dk_182 0 28 (dk_at dksX0_elder_5 2 rfl rfl)
theorem dX0_elder_121 : decode cX0_elder 121 = .ok (.aload_n 1, 1) := dk_43 (dk_at dksX0_elder_5 5 rfl rfl)
theorem dX0_elder_122 : decode cX0_elder 122 = .ok (.iload 6, 2) := dk_21 6 (dk_at dksX0_elder_5 6 rfl rfl)
theorem dX0_elder_124 : decode cX0_elder 124 = .ok (.iload 5, 2) := dk_21 5 (dk_at dksX0_elder_5 8 rfl rfl)
theorem dX0_elder_126 : decode cX0_elder 126 = .ok (.invokevirtual 28, 3) := dk_182 0 28 (dk_at dksX0_elder_5 10 rfl rfl)
theorem dX0_elder_129 : decode cX0_elder 129 = .ok (.iadd, 1) := dk_96 (dk_at dksX0_elder_5 13 rfl rfl)
theorem dX0_elder_130 : decode cX0_elder 130 = .ok (.if_icmp .gt 38, 3) := dk_163 0 38 (dk_at dksX0_elder_5 14 rfl rfl)
theorem dX0_elder_133 : decode cX0_elder 133 = .ok (.aload_n 1, 1) := dk_43 (dk_at dksX0_elder_5 17 rfl rfl)
theorem dX0_elder_134 : decode cX0_elder 134 = .ok (.iload 4, 2) := dk_21 4 (dk_at dksX0_elder_5 18 rfl rfl)
theorem dX0_elder_136 : decode cX0_elder 136 = .ok (.iload 5, 2) := dk_21 5 (dk_at dksX0_elder_5 20 rfl rfl)
theorem dX0_elder_138 : decode cX0_elder 138 = .ok (.invokevirtual 28, 3) := dk_182 0 28 (dk_at dksX0_elder_6 0 rfl rfl)
theorem dX0_elder_141 : decode cX0_elder 141 = .ok (.ifCond .ne 7, 3) := dk_154 0 7 (dk_at dksX0_elder_6 3 rfl rfl)
theorem dX0_elder_144 : decode cX0_elder 144 = .ok (.iconst 1, 1) := dk_4 (dk_at dksX0_elder_6 6 rfl rfl)
theorem dX0_elder_145 : decode cX0_elder 145 = .ok (.goto 4, 3) := dk_167 0 4 (dk_at dksX0_elder_6 7 rfl rfl)
theorem dX0_elder_148 : decode cX0_elder 148 = .ok (.iconst 0, 1) := dk_3 (dk_at dksX0_elder_6 10 rfl rfl)
theorem dX0_elder_149 : decode cX0_elder 149 = .ok (.iload 4, 2) := dk_21 4 (dk_at dksX0_elder_6 11 rfl rfl)
theorem dX0_elder_151 : decode cX0_elder 151 = .ok (.iload 5, 2) := dk_21 5 (dk_at dksX0_elder_6 13 rfl rfl)
theorem dX0_elder_153 : decode cX0_elder 153 = .ok (.if_icmp .ne 7, 3) := dk_160 0 7 (dk_at dksX0_elder_6 15 rfl rfl)
theorem dX0_elder_156 : decode cX0_elder 156 = .ok (.iconst 1, 1) := dk_4 (dk_at dksX0_elder_6 18 rfl rfl)
theorem dX0_elder_157 : decode cX0_elder 157 = .ok (.goto 4, 3) := dk_167 0 4 (dk_at dksX0_elder_6 19 rfl rfl)
theorem dX0_elder_160 : decode cX0_elder 160 = .ok (.iconst 0, 1) := dk_3 (dk_at dksX0_elder_6 22 rfl rfl)
theorem dX0_elder_161 : decode cX0_elder 161 = .ok (.if_icmp .ne 7, 3) := dk_160 0 7 (dk_at dksX0_elder_7 0 rfl rfl)
theorem dX0_elder_164 : decode cX0_elder 164 = .ok (.iconst 1, 1) := dk_4 (dk_at dksX0_elder_7 3 rfl rfl)
theorem dX0_elder_165 : decode cX0_elder 165 = .ok (.goto 4, 3) := dk_167 0 4 (dk_at dksX0_elder_7 4 rfl rfl)
theorem dX0_elder_168 : decode cX0_elder 168 = .ok (.iconst 0, 1) := dk_3 (dk_at dksX0_elder_7 7 rfl rfl)
theorem dX0_elder_169 : decode cX0_elder 169 = .ok (.ireturn, 1) := dk_172 (dk_at dksX0_elder_7 8 rfl rfl)
abbrev cX0_cell : ByteArray := method_2_code
def yX0_cell : MethodName := ⟨RX0, "cell", "([II)I"⟩
def dkwX0_cell_0 : List UInt8 := [27, 42, 190, 162, 0, 9, 42, 27, 46, 167, 0, 4, 3, 172]
abbrev dktX0_cell_0 : List UInt8 := dkwX0_cell_0 ++ []
theorem dksX0_cell_0 : cX0_cell.data.toList.drop 0 = dktX0_cell_0 := by decide +kernel
theorem dX0_cell_0 : decode cX0_cell 0 = .ok (.iload_n 1, 1) := dk_27 (dk_at dksX0_cell_0 0 rfl rfl)
theorem dX0_cell_1 : decode cX0_cell 1 = .ok (.aload_n 0, 1) := dk_42 (dk_at dksX0_cell_0 1 rfl rfl)
theorem dX0_cell_2 : decode cX0_cell 2 = .ok (.arraylength, 1) := dk_190 (dk_at dksX0_cell_0 2 rfl rfl)
theorem dX0_cell_3 : decode cX0_cell 3 = .ok (.if_icmp .ge 9, 3) := dk_162 0 9 (dk_at dksX0_cell_0 3 rfl rfl)
theorem dX0_cell_6 : decode cX0_cell 6 = .ok (.aload_n 0, 1) := dk_42 (dk_at dksX0_cell_0 6 rfl rfl)
theorem dX0_cell_7 : decode cX0_cell 7 = .ok (.iload_n 1, 1) := dk_27 (dk_at dksX0_cell_0 7 rfl rfl)
theorem dX0_cell_8 : decode cX0_cell 8 = .ok (.iaload, 1) := dk_46 (dk_at dksX0_cell_0 8 rfl rfl)
theorem dX0_cell_9 : decode cX0_cell 9 = .ok (.goto 4, 3) := dk_167 0 4 (dk_at dksX0_cell_0 9 rfl rfl)
theorem dX0_cell_12 : decode cX0_cell 12 = .ok (.iconst 0, 1) := dk_3 (dk_at dksX0_cell_0 12 rfl rfl)
theorem dX0_cell_13 : decode cX0_cell 13 = .ok (.ireturn, 1) := dk_172 (dk_at dksX0_cell_0 13 rfl rfl)
abbrev cX0_word : ByteArray := method_3_code
def yX0_word : MethodName := ⟨RX0, "word", "(I)I"⟩
def dkwX0_word_2 : List UInt8 := [17, 84, 18, 130, 172]
abbrev dktX0_word_2 : List UInt8 := dkwX0_word_2 ++ []
def dkwX0_word_1 : List UInt8 := [17, 5, 55, 28, 16, 10, 100, 120, 130, 60, 132, 2, 255, 167, 255, 227, 26, 16, 10, 120, 27, 128]
abbrev dktX0_word_1 : List UInt8 := dkwX0_word_1 ++ dktX0_word_2
def dkwX0_word_0 : List UInt8 := [26, 16, 10, 120, 60, 16, 14, 61, 28, 16, 9, 164, 0, 29, 27, 28, 122, 4, 126, 4, 160, 0, 14, 27]
abbrev dktX0_word_0 : List UInt8 := dkwX0_word_0 ++ dktX0_word_1
theorem dksX0_word_0 : cX0_word.data.toList.drop 0 = dktX0_word_0 := by decide +kernel
theorem dksX0_word_1 : cX0_word.data.toList.drop 24 = dktX0_word_1 := dk_seg dksX0_word_0 24 rfl rfl
theorem dksX0_word_2 : cX0_word.data.toList.drop 46 = dktX0_word_2 := dk_seg dksX0_word_1 22 rfl rfl
theorem dX0_word_0 : decode cX0_word 0 = .ok (.iload_n 0, 1) := dk_26 (dk_at dksX0_word_0 0 rfl rfl)
theorem dX0_word_1 : decode cX0_word 1 = .ok (.bipush 10, 2) := dk_16 10 (dk_at dksX0_word_0 1 rfl rfl)
theorem dX0_word_3 : decode cX0_word 3 = .ok (.ishl, 1) := dk_120 (dk_at dksX0_word_0 3 rfl rfl)
theorem dX0_word_4 : decode cX0_word 4 = .ok (.istore_n 1, 1) := dk_60 (dk_at dksX0_word_0 4 rfl rfl)
theorem dX0_word_5 : decode cX0_word 5 = .ok (.bipush 14, 2) := dk_16 14 (dk_at dksX0_word_0 5 rfl rfl)
theorem dX0_word_7 : decode cX0_word 7 = .ok (.istore_n 2, 1) := dk_61 (dk_at dksX0_word_0 7 rfl rfl)
theorem dX0_word_8 : decode cX0_word 8 = .ok (.iload_n 2, 1) := dk_28 (dk_at dksX0_word_0 8 rfl rfl)
theorem dX0_word_9 : decode cX0_word 9 = .ok (.bipush 9, 2) := dk_16 9 (dk_at dksX0_word_0 9 rfl rfl)
theorem dX0_word_11 : decode cX0_word 11 = .ok (.if_icmp .le 29, 3) := dk_164 0 29 (dk_at dksX0_word_0 11 rfl rfl)
theorem dX0_word_14 : decode cX0_word 14 = .ok (.iload_n 1, 1) := dk_27 (dk_at dksX0_word_0 14 rfl rfl)
theorem dX0_word_15 : decode cX0_word 15 = .ok (.iload_n 2, 1) := dk_28 (dk_at dksX0_word_0 15 rfl rfl)
theorem dX0_word_16 : decode cX0_word 16 = .ok (.ishr, 1) := dk_122 (dk_at dksX0_word_0 16 rfl rfl)
theorem dX0_word_17 : decode cX0_word 17 = .ok (.iconst 1, 1) := dk_4 (dk_at dksX0_word_0 17 rfl rfl)
theorem dX0_word_18 : decode cX0_word 18 = .ok (.iand, 1) := dk_126 (dk_at dksX0_word_0 18 rfl rfl)
theorem dX0_word_19 : decode cX0_word 19 = .ok (.iconst 1, 1) := dk_4 (dk_at dksX0_word_0 19 rfl rfl)
theorem dX0_word_20 : decode cX0_word 20 = .ok (.if_icmp .ne 14, 3) := dk_160 0 14 (dk_at dksX0_word_0 20 rfl rfl)
theorem dX0_word_23 : decode cX0_word 23 = .ok (.iload_n 1, 1) := dk_27 (dk_at dksX0_word_0 23 rfl rfl)
theorem dX0_word_24 : decode cX0_word 24 = .ok (.sipush 1335, 3) := dk_17 5 55 (dk_at dksX0_word_1 0 rfl rfl)
theorem dX0_word_27 : decode cX0_word 27 = .ok (.iload_n 2, 1) := dk_28 (dk_at dksX0_word_1 3 rfl rfl)
theorem dX0_word_28 : decode cX0_word 28 = .ok (.bipush 10, 2) := dk_16 10 (dk_at dksX0_word_1 4 rfl rfl)
theorem dX0_word_30 : decode cX0_word 30 = .ok (.isub, 1) := dk_100 (dk_at dksX0_word_1 6 rfl rfl)
theorem dX0_word_31 : decode cX0_word 31 = .ok (.ishl, 1) := dk_120 (dk_at dksX0_word_1 7 rfl rfl)
theorem dX0_word_32 : decode cX0_word 32 = .ok (.ixor, 1) := dk_130 (dk_at dksX0_word_1 8 rfl rfl)
theorem dX0_word_33 : decode cX0_word 33 = .ok (.istore_n 1, 1) := dk_60 (dk_at dksX0_word_1 9 rfl rfl)
theorem dX0_word_34 : decode cX0_word 34 = .ok (.iinc 2 (-1), 3) := dk_132 2 255 (dk_at dksX0_word_1 10 rfl rfl)
theorem dX0_word_37 : decode cX0_word 37 = .ok (.goto (-29), 3) := dk_167 255 227 (dk_at dksX0_word_1 13 rfl rfl)
theorem dX0_word_40 : decode cX0_word 40 = .ok (.iload_n 0, 1) := dk_26 (dk_at dksX0_word_1 16 rfl rfl)
theorem dX0_word_41 : decode cX0_word 41 = .ok (.bipush 10, 2) := dk_16 10 (dk_at dksX0_word_1 17 rfl rfl)
theorem dX0_word_43 : decode cX0_word 43 = .ok (.ishl, 1) := dk_120 (dk_at dksX0_word_1 19 rfl rfl)
theorem dX0_word_44 : decode cX0_word 44 = .ok (.iload_n 1, 1) := dk_27 (dk_at dksX0_word_1 20 rfl rfl)
theorem dX0_word_45 : decode cX0_word 45 = .ok (.ior, 1) := dk_128 (dk_at dksX0_word_1 21 rfl rfl)
theorem dX0_word_46 : decode cX0_word 46 = .ok (.sipush 21522, 3) := dk_17 84 18 (dk_at dksX0_word_2 0 rfl rfl)
theorem dX0_word_49 : decode cX0_word 49 = .ok (.ixor, 1) := dk_130 (dk_at dksX0_word_2 3 rfl rfl)
theorem dX0_word_50 : decode cX0_word 50 = .ok (.ireturn, 1) := dk_172 (dk_at dksX0_word_2 4 rfl rfl)
abbrev cX0_spoilt : ByteArray := method_4_code
def yX0_spoilt : MethodName := ⟨RX0, "spoilt", "([II)I"⟩
def dkwX0_spoilt_1 : List UInt8 := [120, 130, 61, 132, 3, 1, 167, 255, 230, 28, 172]
abbrev dktX0_spoilt_1 : List UInt8 := dkwX0_spoilt_1 ++ []
def dkwX0_spoilt_0 : List UInt8 := [3, 61, 3, 62, 29, 6, 162, 0, 27, 28, 4, 42, 27, 29, 96, 184, 0, 7, 18, 13, 126, 16, 15, 112]
abbrev dktX0_spoilt_0 : List UInt8 := dkwX0_spoilt_0 ++ dktX0_spoilt_1
theorem dksX0_spoilt_0 : cX0_spoilt.data.toList.drop 0 = dktX0_spoilt_0 := by decide +kernel
theorem dksX0_spoilt_1 : cX0_spoilt.data.toList.drop 24 = dktX0_spoilt_1 := dk_seg dksX0_spoilt_0 24 rfl rfl
theorem dX0_spoilt_0 : decode cX0_spoilt 0 = .ok (.iconst 0, 1) := dk_3 (dk_at dksX0_spoilt_0 0 rfl rfl)
theorem dX0_spoilt_1 : decode cX0_spoilt 1 = .ok (.istore_n 2, 1) := dk_61 (dk_at dksX0_spoilt_0 1 rfl rfl)
theorem dX0_spoilt_2 : decode cX0_spoilt 2 = .ok (.iconst 0, 1) := dk_3 (dk_at dksX0_spoilt_0 2 rfl rfl)
theorem dX0_spoilt_3 : decode cX0_spoilt 3 = .ok (.istore_n 3, 1) := dk_62 (dk_at dksX0_spoilt_0 3 rfl rfl)
theorem dX0_spoilt_4 : decode cX0_spoilt 4 = .ok (.iload_n 3, 1) := dk_29 (dk_at dksX0_spoilt_0 4 rfl rfl)
theorem dX0_spoilt_5 : decode cX0_spoilt 5 = .ok (.iconst 3, 1) := dk_6 (dk_at dksX0_spoilt_0 5 rfl rfl)
theorem dX0_spoilt_6 : decode cX0_spoilt 6 = .ok (.if_icmp .ge 27, 3) := dk_162 0 27 (dk_at dksX0_spoilt_0 6 rfl rfl)
theorem dX0_spoilt_9 : decode cX0_spoilt 9 = .ok (.iload_n 2, 1) := dk_28 (dk_at dksX0_spoilt_0 9 rfl rfl)
theorem dX0_spoilt_10 : decode cX0_spoilt 10 = .ok (.iconst 1, 1) := dk_4 (dk_at dksX0_spoilt_0 10 rfl rfl)
theorem dX0_spoilt_11 : decode cX0_spoilt 11 = .ok (.aload_n 0, 1) := dk_42 (dk_at dksX0_spoilt_0 11 rfl rfl)
theorem dX0_spoilt_12 : decode cX0_spoilt 12 = .ok (.iload_n 1, 1) := dk_27 (dk_at dksX0_spoilt_0 12 rfl rfl)
theorem dX0_spoilt_13 : decode cX0_spoilt 13 = .ok (.iload_n 3, 1) := dk_29 (dk_at dksX0_spoilt_0 13 rfl rfl)
theorem dX0_spoilt_14 : decode cX0_spoilt 14 = .ok (.iadd, 1) := dk_96 (dk_at dksX0_spoilt_0 14 rfl rfl)
theorem dX0_spoilt_15 : decode cX0_spoilt 15 = .ok (.invokestatic 7, 3) := dk_184 0 7 (dk_at dksX0_spoilt_0 15 rfl rfl)
theorem dX0_spoilt_18 : decode cX0_spoilt 18 = .ok (.ldc 13, 2) := dk_18 13 (dk_at dksX0_spoilt_0 18 rfl rfl)
theorem dX0_spoilt_20 : decode cX0_spoilt 20 = .ok (.iand, 1) := dk_126 (dk_at dksX0_spoilt_0 20 rfl rfl)
theorem dX0_spoilt_21 : decode cX0_spoilt 21 = .ok (.bipush 15, 2) := dk_16 15 (dk_at dksX0_spoilt_0 21 rfl rfl)
theorem dX0_spoilt_23 : decode cX0_spoilt 23 = .ok (.irem, 1) := dk_112 (dk_at dksX0_spoilt_0 23 rfl rfl)
theorem dX0_spoilt_24 : decode cX0_spoilt 24 = .ok (.ishl, 1) := dk_120 (dk_at dksX0_spoilt_1 0 rfl rfl)
theorem dX0_spoilt_25 : decode cX0_spoilt 25 = .ok (.ixor, 1) := dk_130 (dk_at dksX0_spoilt_1 1 rfl rfl)
theorem dX0_spoilt_26 : decode cX0_spoilt 26 = .ok (.istore_n 2, 1) := dk_61 (dk_at dksX0_spoilt_1 2 rfl rfl)
theorem dX0_spoilt_27 : decode cX0_spoilt 27 = .ok (.iinc 3 1, 3) := dk_132 3 1 (dk_at dksX0_spoilt_1 3 rfl rfl)
theorem dX0_spoilt_30 : decode cX0_spoilt 30 = .ok (.goto (-26), 3) := dk_167 255 230 (dk_at dksX0_spoilt_1 6 rfl rfl)
theorem dX0_spoilt_33 : decode cX0_spoilt 33 = .ok (.iload_n 2, 1) := dk_28 (dk_at dksX0_spoilt_1 9 rfl rfl)
theorem dX0_spoilt_34 : decode cX0_spoilt 34 = .ok (.ireturn, 1) := dk_172 (dk_at dksX0_spoilt_1 10 rfl rfl)
abbrev cX0_askedApart : ByteArray := method_9_code
def yX0_askedApart : MethodName := ⟨RX0, "askedApart", "([I)Z"⟩
def dkwX0_askedApart_3 : List UInt8 := [28, 28, 182, 0, 28, 154, 0, 7, 4, 167, 0, 4, 3, 172]
abbrev dktX0_askedApart_3 : List UInt8 := dkwX0_askedApart_3 ++ []
def dkwX0_askedApart_2 : List UInt8 := [3, 18, 39, 182, 0, 28, 4, 160, 0, 29, 43, 28, 28, 2, 130, 182, 0, 28, 16, 32, 160, 0, 16, 43]
abbrev dktX0_askedApart_2 : List UInt8 := dkwX0_askedApart_2 ++ dktX0_askedApart_3
def dkwX0_askedApart_1 : List UInt8 := [182, 0, 28, 28, 29, 130, 184, 0, 34, 160, 0, 51, 43, 3, 2, 182, 0, 28, 16, 32, 160, 0, 40, 43]
abbrev dktX0_askedApart_1 : List UInt8 := dkwX0_askedApart_1 ++ dktX0_askedApart_2
def dkwX0_askedApart_0 : List UInt8 := [187, 0, 14, 89, 183, 0, 16, 76, 42, 3, 184, 0, 31, 61, 42, 4, 184, 0, 31, 62, 43, 28, 29]
abbrev dktX0_askedApart_0 : List UInt8 := dkwX0_askedApart_0 ++ dktX0_askedApart_1
theorem dksX0_askedApart_0 : cX0_askedApart.data.toList.drop 0 = dktX0_askedApart_0 := by decide +kernel
theorem dksX0_askedApart_1 : cX0_askedApart.data.toList.drop 23 = dktX0_askedApart_1 := dk_seg dksX0_askedApart_0 23 rfl rfl
theorem dksX0_askedApart_2 : cX0_askedApart.data.toList.drop 47 = dktX0_askedApart_2 := dk_seg dksX0_askedApart_1 24 rfl rfl
theorem dksX0_askedApart_3 : cX0_askedApart.data.toList.drop 71 = dktX0_askedApart_3 := dk_seg dksX0_askedApart_2 24 rfl rfl
theorem dX0_askedApart_0 : decode cX0_askedApart 0 = .ok (.new 14, 3) := dk_187 0 14 (dk_at dksX0_askedApart_0 0 rfl rfl)
theorem dX0_askedApart_3 : decode cX0_askedApart 3 = .ok (.dup, 1) := dk_89 (dk_at dksX0_askedApart_0 3 rfl rfl)
theorem dX0_askedApart_4 : decode cX0_askedApart 4 = .ok (.invokespecial 16, 3) := dk_183 0 16 (dk_at dksX0_askedApart_0 4 rfl rfl)
theorem dX0_askedApart_7 : decode cX0_askedApart 7 = .ok (.astore_n 1, 1) := dk_76 (dk_at dksX0_askedApart_0 7 rfl rfl)
theorem dX0_askedApart_8 : decode cX0_askedApart 8 = .ok (.aload_n 0, 1) := dk_42 (dk_at dksX0_askedApart_0 8 rfl rfl)
theorem dX0_askedApart_9 : decode cX0_askedApart 9 = .ok (.iconst 0, 1) := dk_3 (dk_at dksX0_askedApart_0 9 rfl rfl)
theorem dX0_askedApart_10 : decode cX0_askedApart 10 = .ok (.invokestatic 31, 3) := dk_184 0 31 (dk_at dksX0_askedApart_0 10 rfl rfl)
theorem dX0_askedApart_13 : decode cX0_askedApart 13 = .ok (.istore_n 2, 1) := dk_61 (dk_at dksX0_askedApart_0 13 rfl rfl)
theorem dX0_askedApart_14 : decode cX0_askedApart 14 = .ok (.aload_n 0, 1) := dk_42 (dk_at dksX0_askedApart_0 14 rfl rfl)
theorem dX0_askedApart_15 : decode cX0_askedApart 15 = .ok (.iconst 1, 1) := dk_4 (dk_at dksX0_askedApart_0 15 rfl rfl)
theorem dX0_askedApart_16 : decode cX0_askedApart 16 = .ok (.invokestatic 31, 3) := dk_184 0 31 (dk_at dksX0_askedApart_0 16 rfl rfl)
theorem dX0_askedApart_19 : decode cX0_askedApart 19 = .ok (.istore_n 3, 1) := dk_62 (dk_at dksX0_askedApart_0 19 rfl rfl)
theorem dX0_askedApart_20 : decode cX0_askedApart 20 = .ok (.aload_n 1, 1) := dk_43 (dk_at dksX0_askedApart_0 20 rfl rfl)
theorem dX0_askedApart_21 : decode cX0_askedApart 21 = .ok (.iload_n 2, 1) := dk_28 (dk_at dksX0_askedApart_0 21 rfl rfl)
theorem dX0_askedApart_22 : decode cX0_askedApart 22 = .ok (.iload_n 3, 1) := dk_29 (dk_at dksX0_askedApart_0 22 rfl rfl)
theorem dX0_askedApart_23 : decode cX0_askedApart 23 = .ok (.invokevirtual 28, 3) := dk_182 0 28 (dk_at dksX0_askedApart_1 0 rfl rfl)
theorem dX0_askedApart_26 : decode cX0_askedApart 26 = .ok (.iload_n 2, 1) := dk_28 (dk_at dksX0_askedApart_1 3 rfl rfl)
theorem dX0_askedApart_27 : decode cX0_askedApart 27 = .ok (.iload_n 3, 1) := dk_29 (dk_at dksX0_askedApart_1 4 rfl rfl)
theorem dX0_askedApart_28 : decode cX0_askedApart 28 = .ok (.ixor, 1) := dk_130 (dk_at dksX0_askedApart_1 5 rfl rfl)
theorem dX0_askedApart_29 : decode cX0_askedApart 29 = .ok (.invokestatic 34, 3) := dk_184 0 34 (dk_at dksX0_askedApart_1 6 rfl rfl)
theorem dX0_askedApart_32 : decode cX0_askedApart 32 = .ok (.if_icmp .ne 51, 3) := dk_160 0 51 (dk_at dksX0_askedApart_1 9 rfl rfl)
theorem dX0_askedApart_35 : decode cX0_askedApart 35 = .ok (.aload_n 1, 1) := dk_43 (dk_at dksX0_askedApart_1 12 rfl rfl)
theorem dX0_askedApart_36 : decode cX0_askedApart 36 = .ok (.iconst 0, 1) := dk_3 (dk_at dksX0_askedApart_1 13 rfl rfl)
theorem dX0_askedApart_37 : decode cX0_askedApart 37 = .ok (.iconst (-1), 1) := dk_2 (dk_at dksX0_askedApart_1 14 rfl rfl)
theorem dX0_askedApart_38 : decode cX0_askedApart 38 = .ok (.invokevirtual 28, 3) := dk_182 0 28 (dk_at dksX0_askedApart_1 15 rfl rfl)
theorem dX0_askedApart_41 : decode cX0_askedApart 41 = .ok (.bipush 32, 2) := dk_16 32 (dk_at dksX0_askedApart_1 18 rfl rfl)
theorem dX0_askedApart_43 : decode cX0_askedApart 43 = .ok (.if_icmp .ne 40, 3) := dk_160 0 40 (dk_at dksX0_askedApart_1 20 rfl rfl)
theorem dX0_askedApart_46 : decode cX0_askedApart 46 = .ok (.aload_n 1, 1) := dk_43 (dk_at dksX0_askedApart_1 23 rfl rfl)
theorem dX0_askedApart_47 : decode cX0_askedApart 47 = .ok (.iconst 0, 1) := dk_3 (dk_at dksX0_askedApart_2 0 rfl rfl)
theorem dX0_askedApart_48 : decode cX0_askedApart 48 = .ok (.ldc 39, 2) := dk_18 39 (dk_at dksX0_askedApart_2 1 rfl rfl)
theorem dX0_askedApart_50 : decode cX0_askedApart 50 = .ok (.invokevirtual 28, 3) := dk_182 0 28 (dk_at dksX0_askedApart_2 3 rfl rfl)
theorem dX0_askedApart_53 : decode cX0_askedApart 53 = .ok (.iconst 1, 1) := dk_4 (dk_at dksX0_askedApart_2 6 rfl rfl)
theorem dX0_askedApart_54 : decode cX0_askedApart 54 = .ok (.if_icmp .ne 29, 3) := dk_160 0 29 (dk_at dksX0_askedApart_2 7 rfl rfl)
theorem dX0_askedApart_57 : decode cX0_askedApart 57 = .ok (.aload_n 1, 1) := dk_43 (dk_at dksX0_askedApart_2 10 rfl rfl)
theorem dX0_askedApart_58 : decode cX0_askedApart 58 = .ok (.iload_n 2, 1) := dk_28 (dk_at dksX0_askedApart_2 11 rfl rfl)
theorem dX0_askedApart_59 : decode cX0_askedApart 59 = .ok (.iload_n 2, 1) := dk_28 (dk_at dksX0_askedApart_2 12 rfl rfl)
theorem dX0_askedApart_60 : decode cX0_askedApart 60 = .ok (.iconst (-1), 1) := dk_2 (dk_at dksX0_askedApart_2 13 rfl rfl)
theorem dX0_askedApart_61 : decode cX0_askedApart 61 = .ok (.ixor, 1) := dk_130 (dk_at dksX0_askedApart_2 14 rfl rfl)
theorem dX0_askedApart_62 : decode cX0_askedApart 62 = .ok (.invokevirtual 28, 3) := dk_182 0 28 (dk_at dksX0_askedApart_2 15 rfl rfl)
theorem dX0_askedApart_65 : decode cX0_askedApart 65 = .ok (.bipush 32, 2) := dk_16 32 (dk_at dksX0_askedApart_2 18 rfl rfl)
theorem dX0_askedApart_67 : decode cX0_askedApart 67 = .ok (.if_icmp .ne 16, 3) := dk_160 0 16 (dk_at dksX0_askedApart_2 20 rfl rfl)
theorem dX0_askedApart_70 : decode cX0_askedApart 70 = .ok (.aload_n 1, 1) := dk_43 (dk_at dksX0_askedApart_2 23 rfl rfl)
theorem dX0_askedApart_71 : decode cX0_askedApart 71 = .ok (.iload_n 2, 1) := dk_28 (dk_at dksX0_askedApart_3 0 rfl rfl)
theorem dX0_askedApart_72 : decode cX0_askedApart 72 = .ok (.iload_n 2, 1) := dk_28 (dk_at dksX0_askedApart_3 1 rfl rfl)
theorem dX0_askedApart_73 : decode cX0_askedApart 73 = .ok (.invokevirtual 28, 3) := dk_182 0 28 (dk_at dksX0_askedApart_3 2 rfl rfl)
theorem dX0_askedApart_76 : decode cX0_askedApart 76 = .ok (.ifCond .ne 7, 3) := dk_154 0 7 (dk_at dksX0_askedApart_3 5 rfl rfl)
theorem dX0_askedApart_79 : decode cX0_askedApart 79 = .ok (.iconst 1, 1) := dk_4 (dk_at dksX0_askedApart_3 8 rfl rfl)
theorem dX0_askedApart_80 : decode cX0_askedApart 80 = .ok (.goto 4, 3) := dk_167 0 4 (dk_at dksX0_askedApart_3 9 rfl rfl)
theorem dX0_askedApart_83 : decode cX0_askedApart 83 = .ok (.iconst 0, 1) := dk_3 (dk_at dksX0_askedApart_3 12 rfl rfl)
theorem dX0_askedApart_84 : decode cX0_askedApart 84 = .ok (.ireturn, 1) := dk_172 (dk_at dksX0_askedApart_3 13 rfl rfl)
abbrev cX0_askedCell : ByteArray := method_6_code
def yX0_askedCell : MethodName := ⟨RX0, "askedCell", "([II)I"⟩
def dkwX0_askedCell_0 : List UInt8 := [27, 42, 190, 162, 0, 9, 42, 27, 46, 167, 0, 4, 3, 172]
abbrev dktX0_askedCell_0 : List UInt8 := dkwX0_askedCell_0 ++ []
theorem dksX0_askedCell_0 : cX0_askedCell.data.toList.drop 0 = dktX0_askedCell_0 := by decide +kernel
theorem dX0_askedCell_0 : decode cX0_askedCell 0 = .ok (.iload_n 1, 1) := dk_27 (dk_at dksX0_askedCell_0 0 rfl rfl)
theorem dX0_askedCell_1 : decode cX0_askedCell 1 = .ok (.aload_n 0, 1) := dk_42 (dk_at dksX0_askedCell_0 1 rfl rfl)
theorem dX0_askedCell_2 : decode cX0_askedCell 2 = .ok (.arraylength, 1) := dk_190 (dk_at dksX0_askedCell_0 2 rfl rfl)
theorem dX0_askedCell_3 : decode cX0_askedCell 3 = .ok (.if_icmp .ge 9, 3) := dk_162 0 9 (dk_at dksX0_askedCell_0 3 rfl rfl)
theorem dX0_askedCell_6 : decode cX0_askedCell 6 = .ok (.aload_n 0, 1) := dk_42 (dk_at dksX0_askedCell_0 6 rfl rfl)
theorem dX0_askedCell_7 : decode cX0_askedCell 7 = .ok (.iload_n 1, 1) := dk_27 (dk_at dksX0_askedCell_0 7 rfl rfl)
theorem dX0_askedCell_8 : decode cX0_askedCell 8 = .ok (.iaload, 1) := dk_46 (dk_at dksX0_askedCell_0 8 rfl rfl)
theorem dX0_askedCell_9 : decode cX0_askedCell 9 = .ok (.goto 4, 3) := dk_167 0 4 (dk_at dksX0_askedCell_0 9 rfl rfl)
theorem dX0_askedCell_12 : decode cX0_askedCell 12 = .ok (.iconst 0, 1) := dk_3 (dk_at dksX0_askedCell_0 12 rfl rfl)
theorem dX0_askedCell_13 : decode cX0_askedCell 13 = .ok (.ireturn, 1) := dk_172 (dk_at dksX0_askedCell_0 13 rfl rfl)
abbrev cX0_askedBits : ByteArray := method_8_code
def yX0_askedBits : MethodName := ⟨RX0, "askedBits", "(I)I"⟩
def dkwX0_askedBits_1 : List UInt8 := [27, 172]
abbrev dktX0_askedBits_1 : List UInt8 := dkwX0_askedBits_1 ++ []
def dkwX0_askedBits_0 : List UInt8 := [3, 60, 3, 61, 28, 16, 32, 162, 0, 17, 27, 26, 28, 124, 4, 126, 96, 60, 132, 2, 1, 167, 255, 239]
abbrev dktX0_askedBits_0 : List UInt8 := dkwX0_askedBits_0 ++ dktX0_askedBits_1
theorem dksX0_askedBits_0 : cX0_askedBits.data.toList.drop 0 = dktX0_askedBits_0 := by decide +kernel
theorem dksX0_askedBits_1 : cX0_askedBits.data.toList.drop 24 = dktX0_askedBits_1 := dk_seg dksX0_askedBits_0 24 rfl rfl
theorem dX0_askedBits_0 : decode cX0_askedBits 0 = .ok (.iconst 0, 1) := dk_3 (dk_at dksX0_askedBits_0 0 rfl rfl)
theorem dX0_askedBits_1 : decode cX0_askedBits 1 = .ok (.istore_n 1, 1) := dk_60 (dk_at dksX0_askedBits_0 1 rfl rfl)
theorem dX0_askedBits_2 : decode cX0_askedBits 2 = .ok (.iconst 0, 1) := dk_3 (dk_at dksX0_askedBits_0 2 rfl rfl)
theorem dX0_askedBits_3 : decode cX0_askedBits 3 = .ok (.istore_n 2, 1) := dk_61 (dk_at dksX0_askedBits_0 3 rfl rfl)
theorem dX0_askedBits_4 : decode cX0_askedBits 4 = .ok (.iload_n 2, 1) := dk_28 (dk_at dksX0_askedBits_0 4 rfl rfl)
theorem dX0_askedBits_5 : decode cX0_askedBits 5 = .ok (.bipush 32, 2) := dk_16 32 (dk_at dksX0_askedBits_0 5 rfl rfl)
theorem dX0_askedBits_7 : decode cX0_askedBits 7 = .ok (.if_icmp .ge 17, 3) := dk_162 0 17 (dk_at dksX0_askedBits_0 7 rfl rfl)
theorem dX0_askedBits_10 : decode cX0_askedBits 10 = .ok (.iload_n 1, 1) := dk_27 (dk_at dksX0_askedBits_0 10 rfl rfl)
theorem dX0_askedBits_11 : decode cX0_askedBits 11 = .ok (.iload_n 0, 1) := dk_26 (dk_at dksX0_askedBits_0 11 rfl rfl)
theorem dX0_askedBits_12 : decode cX0_askedBits 12 = .ok (.iload_n 2, 1) := dk_28 (dk_at dksX0_askedBits_0 12 rfl rfl)
theorem dX0_askedBits_13 : decode cX0_askedBits 13 = .ok (.iushr, 1) := dk_124 (dk_at dksX0_askedBits_0 13 rfl rfl)
theorem dX0_askedBits_14 : decode cX0_askedBits 14 = .ok (.iconst 1, 1) := dk_4 (dk_at dksX0_askedBits_0 14 rfl rfl)
theorem dX0_askedBits_15 : decode cX0_askedBits 15 = .ok (.iand, 1) := dk_126 (dk_at dksX0_askedBits_0 15 rfl rfl)
theorem dX0_askedBits_16 : decode cX0_askedBits 16 = .ok (.iadd, 1) := dk_96 (dk_at dksX0_askedBits_0 16 rfl rfl)
theorem dX0_askedBits_17 : decode cX0_askedBits 17 = .ok (.istore_n 1, 1) := dk_60 (dk_at dksX0_askedBits_0 17 rfl rfl)
theorem dX0_askedBits_18 : decode cX0_askedBits 18 = .ok (.iinc 2 1, 3) := dk_132 2 1 (dk_at dksX0_askedBits_0 18 rfl rfl)
theorem dX0_askedBits_21 : decode cX0_askedBits 21 = .ok (.goto (-17), 3) := dk_167 255 239 (dk_at dksX0_askedBits_0 21 rfl rfl)
theorem dX0_askedBits_24 : decode cX0_askedBits 24 = .ok (.iload_n 1, 1) := dk_27 (dk_at dksX0_askedBits_1 0 rfl rfl)
theorem dX0_askedBits_25 : decode cX0_askedBits 25 = .ok (.ireturn, 1) := dk_172 (dk_at dksX0_askedBits_1 1 rfl rfl)
abbrev cX0_askedPublished : ByteArray := method_10_code
def yX0_askedPublished : MethodName := ⟨RX0, "askedPublished", "()Z"⟩
def dkwX0_askedPublished_11 : List UInt8 := [167, 255, 231, 4, 172]
abbrev dktX0_askedPublished_11 : List UInt8 := dkwX0_askedPublished_11 ++ []
def dkwX0_askedPublished_10 : List UInt8 := [16, 32, 162, 0, 25, 43, 42, 28, 46, 42, 28, 46, 182, 0, 24, 28, 159, 0, 5, 3, 172, 132, 2, 1]
abbrev dktX0_askedPublished_10 : List UInt8 := dkwX0_askedPublished_10 ++ dktX0_askedPublished_11
def dkwX0_askedPublished_9 : List UInt8 := [17, 46, 218, 79, 89, 16, 31, 17, 43, 237, 79, 75, 187, 0, 14, 89, 183, 0, 16, 76, 3, 61, 28]
abbrev dktX0_askedPublished_9 : List UInt8 := dkwX0_askedPublished_9 ++ dktX0_askedPublished_10
def dkwX0_askedPublished_8 : List UInt8 := [16, 27, 17, 58, 6, 79, 89, 16, 28, 17, 36, 180, 79, 89, 16, 29, 17, 33, 131, 79, 89, 16, 30]
abbrev dktX0_askedPublished_8 : List UInt8 := dkwX0_askedPublished_8 ++ dktX0_askedPublished_9
def dkwX0_askedPublished_7 : List UInt8 := [79, 89, 16, 24, 17, 53, 95, 79, 89, 16, 25, 17, 48, 104, 79, 89, 16, 26, 17, 63, 49, 79, 89]
abbrev dktX0_askedPublished_7 : List UInt8 := dkwX0_askedPublished_7 ++ dktX0_askedPublished_8
def dkwX0_askedPublished_6 : List UInt8 := [17, 7, 98, 79, 89, 16, 21, 17, 2, 85, 79, 89, 16, 22, 17, 13, 12, 79, 89, 16, 23, 17, 8, 59]
abbrev dktX0_askedPublished_6 : List UInt8 := dkwX0_askedPublished_6 ++ dktX0_askedPublished_7
def dkwX0_askedPublished_5 : List UInt8 := [16, 17, 17, 19, 190, 79, 89, 16, 18, 17, 28, 231, 79, 89, 16, 19, 17, 25, 208, 79, 89, 16, 20]
abbrev dktX0_askedPublished_5 : List UInt8 := dkwX0_askedPublished_5 ++ dktX0_askedPublished_6
def dkwX0_askedPublished_4 : List UInt8 := [79, 89, 16, 14, 17, 108, 65, 79, 89, 16, 15, 17, 105, 118, 79, 89, 16, 16, 17, 22, 137, 79, 89]
abbrev dktX0_askedPublished_4 : List UInt8 := dkwX0_askedPublished_4 ++ dktX0_askedPublished_5
def dkwX0_askedPublished_3 : List UInt8 := [17, 125, 170, 79, 89, 16, 11, 17, 120, 157, 79, 89, 16, 12, 17, 102, 47, 79, 89, 16, 13, 17, 99, 24]
abbrev dktX0_askedPublished_3 : List UInt8 := dkwX0_askedPublished_3 ++ dktX0_askedPublished_4
def dkwX0_askedPublished_2 : List UInt8 := [16, 7, 17, 74, 160, 79, 89, 16, 8, 17, 119, 196, 79, 89, 16, 9, 17, 114, 243, 79, 89, 16, 10]
abbrev dktX0_askedPublished_2 : List UInt8 := dkwX0_askedPublished_2 ++ dktX0_askedPublished_3
def dkwX0_askedPublished_1 : List UInt8 := [17, 91, 75, 79, 89, 7, 17, 69, 249, 79, 89, 8, 17, 64, 206, 79, 89, 16, 6, 17, 79, 151, 79, 89]
abbrev dktX0_askedPublished_1 : List UInt8 := dkwX0_askedPublished_1 ++ dktX0_askedPublished_2
def dkwX0_askedPublished_0 : List UInt8 := [16, 32, 188, 10, 89, 3, 17, 84, 18, 79, 89, 4, 17, 81, 37, 79, 89, 5, 17, 94, 124, 79, 89, 6]
abbrev dktX0_askedPublished_0 : List UInt8 := dkwX0_askedPublished_0 ++ dktX0_askedPublished_1
theorem dksX0_askedPublished_0 : cX0_askedPublished.data.toList.drop 0 = dktX0_askedPublished_0 := by decide +kernel
theorem dksX0_askedPublished_1 : cX0_askedPublished.data.toList.drop 24 = dktX0_askedPublished_1 := dk_seg dksX0_askedPublished_0 24 rfl rfl
theorem dksX0_askedPublished_2 : cX0_askedPublished.data.toList.drop 48 = dktX0_askedPublished_2 := dk_seg dksX0_askedPublished_1 24 rfl rfl
theorem dksX0_askedPublished_3 : cX0_askedPublished.data.toList.drop 71 = dktX0_askedPublished_3 := dk_seg dksX0_askedPublished_2 23 rfl rfl
theorem dksX0_askedPublished_4 : cX0_askedPublished.data.toList.drop 95 = dktX0_askedPublished_4 := dk_seg dksX0_askedPublished_3 24 rfl rfl
theorem dksX0_askedPublished_5 : cX0_askedPublished.data.toList.drop 118 = dktX0_askedPublished_5 := dk_seg dksX0_askedPublished_4 23 rfl rfl
theorem dksX0_askedPublished_6 : cX0_askedPublished.data.toList.drop 141 = dktX0_askedPublished_6 := dk_seg dksX0_askedPublished_5 23 rfl rfl
theorem dksX0_askedPublished_7 : cX0_askedPublished.data.toList.drop 165 = dktX0_askedPublished_7 := dk_seg dksX0_askedPublished_6 24 rfl rfl
theorem dksX0_askedPublished_8 : cX0_askedPublished.data.toList.drop 188 = dktX0_askedPublished_8 := dk_seg dksX0_askedPublished_7 23 rfl rfl
theorem dksX0_askedPublished_9 : cX0_askedPublished.data.toList.drop 211 = dktX0_askedPublished_9 := dk_seg dksX0_askedPublished_8 23 rfl rfl
theorem dksX0_askedPublished_10 : cX0_askedPublished.data.toList.drop 234 = dktX0_askedPublished_10 := dk_seg dksX0_askedPublished_9 23 rfl rfl
theorem dksX0_askedPublished_11 : cX0_askedPublished.data.toList.drop 258 = dktX0_askedPublished_11 := dk_seg dksX0_askedPublished_10 24 rfl rfl
theorem dX0_askedPublished_0 : decode cX0_askedPublished 0 = .ok (.bipush 32, 2) := dk_16 32 (dk_at dksX0_askedPublished_0 0 rfl rfl)
theorem dX0_askedPublished_2 : decode cX0_askedPublished 2 = .ok (.newarray .int, 2) := dk_188_10 (dk_at dksX0_askedPublished_0 2 rfl rfl)
theorem dX0_askedPublished_4 : decode cX0_askedPublished 4 = .ok (.dup, 1) := dk_89 (dk_at dksX0_askedPublished_0 4 rfl rfl)
theorem dX0_askedPublished_5 : decode cX0_askedPublished 5 = .ok (.iconst 0, 1) := dk_3 (dk_at dksX0_askedPublished_0 5 rfl rfl)
theorem dX0_askedPublished_6 : decode cX0_askedPublished 6 = .ok (.sipush 21522, 3) := dk_17 84 18 (dk_at dksX0_askedPublished_0 6 rfl rfl)
theorem dX0_askedPublished_9 : decode cX0_askedPublished 9 = .ok (.iastore, 1) := dk_79 (dk_at dksX0_askedPublished_0 9 rfl rfl)
theorem dX0_askedPublished_10 : decode cX0_askedPublished 10 = .ok (.dup, 1) := dk_89 (dk_at dksX0_askedPublished_0 10 rfl rfl)
theorem dX0_askedPublished_11 : decode cX0_askedPublished 11 = .ok (.iconst 1, 1) := dk_4 (dk_at dksX0_askedPublished_0 11 rfl rfl)
theorem dX0_askedPublished_12 : decode cX0_askedPublished 12 = .ok (.sipush 20773, 3) := dk_17 81 37 (dk_at dksX0_askedPublished_0 12 rfl rfl)
theorem dX0_askedPublished_15 : decode cX0_askedPublished 15 = .ok (.iastore, 1) := dk_79 (dk_at dksX0_askedPublished_0 15 rfl rfl)
theorem dX0_askedPublished_16 : decode cX0_askedPublished 16 = .ok (.dup, 1) := dk_89 (dk_at dksX0_askedPublished_0 16 rfl rfl)
theorem dX0_askedPublished_17 : decode cX0_askedPublished 17 = .ok (.iconst 2, 1) := dk_5 (dk_at dksX0_askedPublished_0 17 rfl rfl)
theorem dX0_askedPublished_18 : decode cX0_askedPublished 18 = .ok (.sipush 24188, 3) := dk_17 94 124 (dk_at dksX0_askedPublished_0 18 rfl rfl)
theorem dX0_askedPublished_21 : decode cX0_askedPublished 21 = .ok (.iastore, 1) := dk_79 (dk_at dksX0_askedPublished_0 21 rfl rfl)
theorem dX0_askedPublished_22 : decode cX0_askedPublished 22 = .ok (.dup, 1) := dk_89 (dk_at dksX0_askedPublished_0 22 rfl rfl)
theorem dX0_askedPublished_23 : decode cX0_askedPublished 23 = .ok (.iconst 3, 1) := dk_6 (dk_at dksX0_askedPublished_0 23 rfl rfl)
theorem dX0_askedPublished_24 : decode cX0_askedPublished 24 = .ok (.sipush 23371, 3) := dk_17 91 75 (dk_at dksX0_askedPublished_1 0 rfl rfl)
theorem dX0_askedPublished_27 : decode cX0_askedPublished 27 = .ok (.iastore, 1) := dk_79 (dk_at dksX0_askedPublished_1 3 rfl rfl)
theorem dX0_askedPublished_28 : decode cX0_askedPublished 28 = .ok (.dup, 1) := dk_89 (dk_at dksX0_askedPublished_1 4 rfl rfl)
theorem dX0_askedPublished_29 : decode cX0_askedPublished 29 = .ok (.iconst 4, 1) := dk_7 (dk_at dksX0_askedPublished_1 5 rfl rfl)
theorem dX0_askedPublished_30 : decode cX0_askedPublished 30 = .ok (.sipush 17913, 3) := dk_17 69 249 (dk_at dksX0_askedPublished_1 6 rfl rfl)
theorem dX0_askedPublished_33 : decode cX0_askedPublished 33 = .ok (.iastore, 1) := dk_79 (dk_at dksX0_askedPublished_1 9 rfl rfl)
theorem dX0_askedPublished_34 : decode cX0_askedPublished 34 = .ok (.dup, 1) := dk_89 (dk_at dksX0_askedPublished_1 10 rfl rfl)
theorem dX0_askedPublished_35 : decode cX0_askedPublished 35 = .ok (.iconst 5, 1) := dk_8 (dk_at dksX0_askedPublished_1 11 rfl rfl)
theorem dX0_askedPublished_36 : decode cX0_askedPublished 36 = .ok (.sipush 16590, 3) := dk_17 64 206 (dk_at dksX0_askedPublished_1 12 rfl rfl)
theorem dX0_askedPublished_39 : decode cX0_askedPublished 39 = .ok (.iastore, 1) := dk_79 (dk_at dksX0_askedPublished_1 15 rfl rfl)
theorem dX0_askedPublished_40 : decode cX0_askedPublished 40 = .ok (.dup, 1) := dk_89 (dk_at dksX0_askedPublished_1 16 rfl rfl)
theorem dX0_askedPublished_41 : decode cX0_askedPublished 41 = .ok (.bipush 6, 2) := dk_16 6 (dk_at dksX0_askedPublished_1 17 rfl rfl)
theorem dX0_askedPublished_43 : decode cX0_askedPublished 43 = .ok (.sipush 20375, 3) := dk_17 79 151 (dk_at dksX0_askedPublished_1 19 rfl rfl)
theorem dX0_askedPublished_46 : decode cX0_askedPublished 46 = .ok (.iastore, 1) := dk_79 (dk_at dksX0_askedPublished_1 22 rfl rfl)
theorem dX0_askedPublished_47 : decode cX0_askedPublished 47 = .ok (.dup, 1) := dk_89 (dk_at dksX0_askedPublished_1 23 rfl rfl)
theorem dX0_askedPublished_48 : decode cX0_askedPublished 48 = .ok (.bipush 7, 2) := dk_16 7 (dk_at dksX0_askedPublished_2 0 rfl rfl)
theorem dX0_askedPublished_50 : decode cX0_askedPublished 50 = .ok (.sipush 19104, 3) := dk_17 74 160 (dk_at dksX0_askedPublished_2 2 rfl rfl)
theorem dX0_askedPublished_53 : decode cX0_askedPublished 53 = .ok (.iastore, 1) := dk_79 (dk_at dksX0_askedPublished_2 5 rfl rfl)
theorem dX0_askedPublished_54 : decode cX0_askedPublished 54 = .ok (.dup, 1) := dk_89 (dk_at dksX0_askedPublished_2 6 rfl rfl)
theorem dX0_askedPublished_55 : decode cX0_askedPublished 55 = .ok (.bipush 8, 2) := dk_16 8 (dk_at dksX0_askedPublished_2 7 rfl rfl)
theorem dX0_askedPublished_57 : decode cX0_askedPublished 57 = .ok (.sipush 30660, 3) := dk_17 119 196 (dk_at dksX0_askedPublished_2 9 rfl rfl)
theorem dX0_askedPublished_60 : decode cX0_askedPublished 60 = .ok (.iastore, 1) := dk_79 (dk_at dksX0_askedPublished_2 12 rfl rfl)
theorem dX0_askedPublished_61 : decode cX0_askedPublished 61 = .ok (.dup, 1) := dk_89 (dk_at dksX0_askedPublished_2 13 rfl rfl)
theorem dX0_askedPublished_62 : decode cX0_askedPublished 62 = .ok (.bipush 9, 2) := dk_16 9 (dk_at dksX0_askedPublished_2 14 rfl rfl)
theorem dX0_askedPublished_64 : decode cX0_askedPublished 64 = .ok (.sipush 29427, 3) := dk_17 114 243 (dk_at dksX0_askedPublished_2 16 rfl rfl)
theorem dX0_askedPublished_67 : decode cX0_askedPublished 67 = .ok (.iastore, 1) := dk_79 (dk_at dksX0_askedPublished_2 19 rfl rfl)
theorem dX0_askedPublished_68 : decode cX0_askedPublished 68 = .ok (.dup, 1) := dk_89 (dk_at dksX0_askedPublished_2 20 rfl rfl)
theorem dX0_askedPublished_69 : decode cX0_askedPublished 69 = .ok (.bipush 10, 2) := dk_16 10 (dk_at dksX0_askedPublished_2 21 rfl rfl)
theorem dX0_askedPublished_71 : decode cX0_askedPublished 71 = .ok (.sipush 32170, 3) := dk_17 125 170 (dk_at dksX0_askedPublished_3 0 rfl rfl)
theorem dX0_askedPublished_74 : decode cX0_askedPublished 74 = .ok (.iastore, 1) := dk_79 (dk_at dksX0_askedPublished_3 3 rfl rfl)
theorem dX0_askedPublished_75 : decode cX0_askedPublished 75 = .ok (.dup, 1) := dk_89 (dk_at dksX0_askedPublished_3 4 rfl rfl)
theorem dX0_askedPublished_76 : decode cX0_askedPublished 76 = .ok (.bipush 11, 2) := dk_16 11 (dk_at dksX0_askedPublished_3 5 rfl rfl)
theorem dX0_askedPublished_78 : decode cX0_askedPublished 78 = .ok (.sipush 30877, 3) := dk_17 120 157 (dk_at dksX0_askedPublished_3 7 rfl rfl)
theorem dX0_askedPublished_81 : decode cX0_askedPublished 81 = .ok (.iastore, 1) := dk_79 (dk_at dksX0_askedPublished_3 10 rfl rfl)
theorem dX0_askedPublished_82 : decode cX0_askedPublished 82 = .ok (.dup, 1) := dk_89 (dk_at dksX0_askedPublished_3 11 rfl rfl)
theorem dX0_askedPublished_83 : decode cX0_askedPublished 83 = .ok (.bipush 12, 2) := dk_16 12 (dk_at dksX0_askedPublished_3 12 rfl rfl)
theorem dX0_askedPublished_85 : decode cX0_askedPublished 85 = .ok (.sipush 26159, 3) := dk_17 102 47 (dk_at dksX0_askedPublished_3 14 rfl rfl)
theorem dX0_askedPublished_88 : decode cX0_askedPublished 88 = .ok (.iastore, 1) := dk_79 (dk_at dksX0_askedPublished_3 17 rfl rfl)
theorem dX0_askedPublished_89 : decode cX0_askedPublished 89 = .ok (.dup, 1) := dk_89 (dk_at dksX0_askedPublished_3 18 rfl rfl)
theorem dX0_askedPublished_90 : decode cX0_askedPublished 90 = .ok (.bipush 13, 2) := dk_16 13 (dk_at dksX0_askedPublished_3 19 rfl rfl)
theorem dX0_askedPublished_92 : decode cX0_askedPublished 92 = .ok (.sipush 25368, 3) := dk_17 99 24 (dk_at dksX0_askedPublished_3 21 rfl rfl)
theorem dX0_askedPublished_95 : decode cX0_askedPublished 95 = .ok (.iastore, 1) := dk_79 (dk_at dksX0_askedPublished_4 0 rfl rfl)
theorem dX0_askedPublished_96 : decode cX0_askedPublished 96 = .ok (.dup, 1) := dk_89 (dk_at dksX0_askedPublished_4 1 rfl rfl)
theorem dX0_askedPublished_97 : decode cX0_askedPublished 97 = .ok (.bipush 14, 2) := dk_16 14 (dk_at dksX0_askedPublished_4 2 rfl rfl)
theorem dX0_askedPublished_99 : decode cX0_askedPublished 99 = .ok (.sipush 27713, 3) := dk_17 108 65 (dk_at dksX0_askedPublished_4 4 rfl rfl)
theorem dX0_askedPublished_102 : decode cX0_askedPublished 102 = .ok (.iastore, 1) := dk_79 (dk_at dksX0_askedPublished_4 7 rfl rfl)
theorem dX0_askedPublished_103 : decode cX0_askedPublished 103 = .ok (.dup, 1) := dk_89 (dk_at dksX0_askedPublished_4 8 rfl rfl)
theorem dX0_askedPublished_104 : decode cX0_askedPublished 104 = .ok (.bipush 15, 2) := dk_16 15 (dk_at dksX0_askedPublished_4 9 rfl rfl)
theorem dX0_askedPublished_106 : decode cX0_askedPublished 106 = .ok (.sipush 26998, 3) := dk_17 105 118 (dk_at dksX0_askedPublished_4 11 rfl rfl)
theorem dX0_askedPublished_109 : decode cX0_askedPublished 109 = .ok (.iastore, 1) := dk_79 (dk_at dksX0_askedPublished_4 14 rfl rfl)
theorem dX0_askedPublished_110 : decode cX0_askedPublished 110 = .ok (.dup, 1) := dk_89 (dk_at dksX0_askedPublished_4 15 rfl rfl)
theorem dX0_askedPublished_111 : decode cX0_askedPublished 111 = .ok (.bipush 16, 2) := dk_16 16 (dk_at dksX0_askedPublished_4 16 rfl rfl)
theorem dX0_askedPublished_113 : decode cX0_askedPublished 113 = .ok (.sipush 5769, 3) := dk_17 22 137 (dk_at dksX0_askedPublished_4 18 rfl rfl)
theorem dX0_askedPublished_116 : decode cX0_askedPublished 116 = .ok (.iastore, 1) := dk_79 (dk_at dksX0_askedPublished_4 21 rfl rfl)
theorem dX0_askedPublished_117 : decode cX0_askedPublished 117 = .ok (.dup, 1) := dk_89 (dk_at dksX0_askedPublished_4 22 rfl rfl)
theorem dX0_askedPublished_118 : decode cX0_askedPublished 118 = .ok (.bipush 17, 2) := dk_16 17 (dk_at dksX0_askedPublished_5 0 rfl rfl)
theorem dX0_askedPublished_120 : decode cX0_askedPublished 120 = .ok (.sipush 5054, 3) := dk_17 19 190 (dk_at dksX0_askedPublished_5 2 rfl rfl)
theorem dX0_askedPublished_123 : decode cX0_askedPublished 123 = .ok (.iastore, 1) := dk_79 (dk_at dksX0_askedPublished_5 5 rfl rfl)
theorem dX0_askedPublished_124 : decode cX0_askedPublished 124 = .ok (.dup, 1) := dk_89 (dk_at dksX0_askedPublished_5 6 rfl rfl)
theorem dX0_askedPublished_125 : decode cX0_askedPublished 125 = .ok (.bipush 18, 2) := dk_16 18 (dk_at dksX0_askedPublished_5 7 rfl rfl)
theorem dX0_askedPublished_127 : decode cX0_askedPublished 127 = .ok (.sipush 7399, 3) := dk_17 28 231 (dk_at dksX0_askedPublished_5 9 rfl rfl)
theorem dX0_askedPublished_130 : decode cX0_askedPublished 130 = .ok (.iastore, 1) := dk_79 (dk_at dksX0_askedPublished_5 12 rfl rfl)
theorem dX0_askedPublished_131 : decode cX0_askedPublished 131 = .ok (.dup, 1) := dk_89 (dk_at dksX0_askedPublished_5 13 rfl rfl)
theorem dX0_askedPublished_132 : decode cX0_askedPublished 132 = .ok (.bipush 19, 2) := dk_16 19 (dk_at dksX0_askedPublished_5 14 rfl rfl)
theorem dX0_askedPublished_134 : decode cX0_askedPublished 134 = .ok (.sipush 6608, 3) := dk_17 25 208 (dk_at dksX0_askedPublished_5 16 rfl rfl)
theorem dX0_askedPublished_137 : decode cX0_askedPublished 137 = .ok (.iastore, 1) := dk_79 (dk_at dksX0_askedPublished_5 19 rfl rfl)
theorem dX0_askedPublished_138 : decode cX0_askedPublished 138 = .ok (.dup, 1) := dk_89 (dk_at dksX0_askedPublished_5 20 rfl rfl)
theorem dX0_askedPublished_139 : decode cX0_askedPublished 139 = .ok (.bipush 20, 2) := dk_16 20 (dk_at dksX0_askedPublished_5 21 rfl rfl)
theorem dX0_askedPublished_141 : decode cX0_askedPublished 141 = .ok (.sipush 1890, 3) := dk_17 7 98 (dk_at dksX0_askedPublished_6 0 rfl rfl)
theorem dX0_askedPublished_144 : decode cX0_askedPublished 144 = .ok (.iastore, 1) := dk_79 (dk_at dksX0_askedPublished_6 3 rfl rfl)
theorem dX0_askedPublished_145 : decode cX0_askedPublished 145 = .ok (.dup, 1) := dk_89 (dk_at dksX0_askedPublished_6 4 rfl rfl)
theorem dX0_askedPublished_146 : decode cX0_askedPublished 146 = .ok (.bipush 21, 2) := dk_16 21 (dk_at dksX0_askedPublished_6 5 rfl rfl)
theorem dX0_askedPublished_148 : decode cX0_askedPublished 148 = .ok (.sipush 597, 3) := dk_17 2 85 (dk_at dksX0_askedPublished_6 7 rfl rfl)
theorem dX0_askedPublished_151 : decode cX0_askedPublished 151 = .ok (.iastore, 1) := dk_79 (dk_at dksX0_askedPublished_6 10 rfl rfl)
theorem dX0_askedPublished_152 : decode cX0_askedPublished 152 = .ok (.dup, 1) := dk_89 (dk_at dksX0_askedPublished_6 11 rfl rfl)
theorem dX0_askedPublished_153 : decode cX0_askedPublished 153 = .ok (.bipush 22, 2) := dk_16 22 (dk_at dksX0_askedPublished_6 12 rfl rfl)
theorem dX0_askedPublished_155 : decode cX0_askedPublished 155 = .ok (.sipush 3340, 3) := dk_17 13 12 (dk_at dksX0_askedPublished_6 14 rfl rfl)
theorem dX0_askedPublished_158 : decode cX0_askedPublished 158 = .ok (.iastore, 1) := dk_79 (dk_at dksX0_askedPublished_6 17 rfl rfl)
theorem dX0_askedPublished_159 : decode cX0_askedPublished 159 = .ok (.dup, 1) := dk_89 (dk_at dksX0_askedPublished_6 18 rfl rfl)
theorem dX0_askedPublished_160 : decode cX0_askedPublished 160 = .ok (.bipush 23, 2) := dk_16 23 (dk_at dksX0_askedPublished_6 19 rfl rfl)
theorem dX0_askedPublished_162 : decode cX0_askedPublished 162 = .ok (.sipush 2107, 3) := dk_17 8 59 (dk_at dksX0_askedPublished_6 21 rfl rfl)
theorem dX0_askedPublished_165 : decode cX0_askedPublished 165 = .ok (.iastore, 1) := dk_79 (dk_at dksX0_askedPublished_7 0 rfl rfl)
theorem dX0_askedPublished_166 : decode cX0_askedPublished 166 = .ok (.dup, 1) := dk_89 (dk_at dksX0_askedPublished_7 1 rfl rfl)
theorem dX0_askedPublished_167 : decode cX0_askedPublished 167 = .ok (.bipush 24, 2) := dk_16 24 (dk_at dksX0_askedPublished_7 2 rfl rfl)
theorem dX0_askedPublished_169 : decode cX0_askedPublished 169 = .ok (.sipush 13663, 3) := dk_17 53 95 (dk_at dksX0_askedPublished_7 4 rfl rfl)
theorem dX0_askedPublished_172 : decode cX0_askedPublished 172 = .ok (.iastore, 1) := dk_79 (dk_at dksX0_askedPublished_7 7 rfl rfl)
theorem dX0_askedPublished_173 : decode cX0_askedPublished 173 = .ok (.dup, 1) := dk_89 (dk_at dksX0_askedPublished_7 8 rfl rfl)
theorem dX0_askedPublished_174 : decode cX0_askedPublished 174 = .ok (.bipush 25, 2) := dk_16 25 (dk_at dksX0_askedPublished_7 9 rfl rfl)
theorem dX0_askedPublished_176 : decode cX0_askedPublished 176 = .ok (.sipush 12392, 3) := dk_17 48 104 (dk_at dksX0_askedPublished_7 11 rfl rfl)
theorem dX0_askedPublished_179 : decode cX0_askedPublished 179 = .ok (.iastore, 1) := dk_79 (dk_at dksX0_askedPublished_7 14 rfl rfl)
theorem dX0_askedPublished_180 : decode cX0_askedPublished 180 = .ok (.dup, 1) := dk_89 (dk_at dksX0_askedPublished_7 15 rfl rfl)
theorem dX0_askedPublished_181 : decode cX0_askedPublished 181 = .ok (.bipush 26, 2) := dk_16 26 (dk_at dksX0_askedPublished_7 16 rfl rfl)
theorem dX0_askedPublished_183 : decode cX0_askedPublished 183 = .ok (.sipush 16177, 3) := dk_17 63 49 (dk_at dksX0_askedPublished_7 18 rfl rfl)
theorem dX0_askedPublished_186 : decode cX0_askedPublished 186 = .ok (.iastore, 1) := dk_79 (dk_at dksX0_askedPublished_7 21 rfl rfl)
theorem dX0_askedPublished_187 : decode cX0_askedPublished 187 = .ok (.dup, 1) := dk_89 (dk_at dksX0_askedPublished_7 22 rfl rfl)
theorem dX0_askedPublished_188 : decode cX0_askedPublished 188 = .ok (.bipush 27, 2) := dk_16 27 (dk_at dksX0_askedPublished_8 0 rfl rfl)
theorem dX0_askedPublished_190 : decode cX0_askedPublished 190 = .ok (.sipush 14854, 3) := dk_17 58 6 (dk_at dksX0_askedPublished_8 2 rfl rfl)
theorem dX0_askedPublished_193 : decode cX0_askedPublished 193 = .ok (.iastore, 1) := dk_79 (dk_at dksX0_askedPublished_8 5 rfl rfl)
theorem dX0_askedPublished_194 : decode cX0_askedPublished 194 = .ok (.dup, 1) := dk_89 (dk_at dksX0_askedPublished_8 6 rfl rfl)
theorem dX0_askedPublished_195 : decode cX0_askedPublished 195 = .ok (.bipush 28, 2) := dk_16 28 (dk_at dksX0_askedPublished_8 7 rfl rfl)
theorem dX0_askedPublished_197 : decode cX0_askedPublished 197 = .ok (.sipush 9396, 3) := dk_17 36 180 (dk_at dksX0_askedPublished_8 9 rfl rfl)
theorem dX0_askedPublished_200 : decode cX0_askedPublished 200 = .ok (.iastore, 1) := dk_79 (dk_at dksX0_askedPublished_8 12 rfl rfl)
theorem dX0_askedPublished_201 : decode cX0_askedPublished 201 = .ok (.dup, 1) := dk_89 (dk_at dksX0_askedPublished_8 13 rfl rfl)
theorem dX0_askedPublished_202 : decode cX0_askedPublished 202 = .ok (.bipush 29, 2) := dk_16 29 (dk_at dksX0_askedPublished_8 14 rfl rfl)
theorem dX0_askedPublished_204 : decode cX0_askedPublished 204 = .ok (.sipush 8579, 3) := dk_17 33 131 (dk_at dksX0_askedPublished_8 16 rfl rfl)
theorem dX0_askedPublished_207 : decode cX0_askedPublished 207 = .ok (.iastore, 1) := dk_79 (dk_at dksX0_askedPublished_8 19 rfl rfl)
theorem dX0_askedPublished_208 : decode cX0_askedPublished 208 = .ok (.dup, 1) := dk_89 (dk_at dksX0_askedPublished_8 20 rfl rfl)
theorem dX0_askedPublished_209 : decode cX0_askedPublished 209 = .ok (.bipush 30, 2) := dk_16 30 (dk_at dksX0_askedPublished_8 21 rfl rfl)
theorem dX0_askedPublished_211 : decode cX0_askedPublished 211 = .ok (.sipush 11994, 3) := dk_17 46 218 (dk_at dksX0_askedPublished_9 0 rfl rfl)
theorem dX0_askedPublished_214 : decode cX0_askedPublished 214 = .ok (.iastore, 1) := dk_79 (dk_at dksX0_askedPublished_9 3 rfl rfl)
theorem dX0_askedPublished_215 : decode cX0_askedPublished 215 = .ok (.dup, 1) := dk_89 (dk_at dksX0_askedPublished_9 4 rfl rfl)
theorem dX0_askedPublished_216 : decode cX0_askedPublished 216 = .ok (.bipush 31, 2) := dk_16 31 (dk_at dksX0_askedPublished_9 5 rfl rfl)
theorem dX0_askedPublished_218 : decode cX0_askedPublished 218 = .ok (.sipush 11245, 3) := dk_17 43 237 (dk_at dksX0_askedPublished_9 7 rfl rfl)
theorem dX0_askedPublished_221 : decode cX0_askedPublished 221 = .ok (.iastore, 1) := dk_79 (dk_at dksX0_askedPublished_9 10 rfl rfl)
theorem dX0_askedPublished_222 : decode cX0_askedPublished 222 = .ok (.astore_n 0, 1) := dk_75 (dk_at dksX0_askedPublished_9 11 rfl rfl)
theorem dX0_askedPublished_223 : decode cX0_askedPublished 223 = .ok (.new 14, 3) := dk_187 0 14 (dk_at dksX0_askedPublished_9 12 rfl rfl)
theorem dX0_askedPublished_226 : decode cX0_askedPublished 226 = .ok (.dup, 1) := dk_89 (dk_at dksX0_askedPublished_9 15 rfl rfl)
theorem dX0_askedPublished_227 : decode cX0_askedPublished 227 = .ok (.invokespecial 16, 3) := dk_183 0 16 (dk_at dksX0_askedPublished_9 16 rfl rfl)
theorem dX0_askedPublished_230 : decode cX0_askedPublished 230 = .ok (.astore_n 1, 1) := dk_76 (dk_at dksX0_askedPublished_9 19 rfl rfl)
theorem dX0_askedPublished_231 : decode cX0_askedPublished 231 = .ok (.iconst 0, 1) := dk_3 (dk_at dksX0_askedPublished_9 20 rfl rfl)
theorem dX0_askedPublished_232 : decode cX0_askedPublished 232 = .ok (.istore_n 2, 1) := dk_61 (dk_at dksX0_askedPublished_9 21 rfl rfl)
theorem dX0_askedPublished_233 : decode cX0_askedPublished 233 = .ok (.iload_n 2, 1) := dk_28 (dk_at dksX0_askedPublished_9 22 rfl rfl)
theorem dX0_askedPublished_234 : decode cX0_askedPublished 234 = .ok (.bipush 32, 2) := dk_16 32 (dk_at dksX0_askedPublished_10 0 rfl rfl)
theorem dX0_askedPublished_236 : decode cX0_askedPublished 236 = .ok (.if_icmp .ge 25, 3) := dk_162 0 25 (dk_at dksX0_askedPublished_10 2 rfl rfl)
theorem dX0_askedPublished_239 : decode cX0_askedPublished 239 = .ok (.aload_n 1, 1) := dk_43 (dk_at dksX0_askedPublished_10 5 rfl rfl)
theorem dX0_askedPublished_240 : decode cX0_askedPublished 240 = .ok (.aload_n 0, 1) := dk_42 (dk_at dksX0_askedPublished_10 6 rfl rfl)
theorem dX0_askedPublished_241 : decode cX0_askedPublished 241 = .ok (.iload_n 2, 1) := dk_28 (dk_at dksX0_askedPublished_10 7 rfl rfl)
theorem dX0_askedPublished_242 : decode cX0_askedPublished 242 = .ok (.iaload, 1) := dk_46 (dk_at dksX0_askedPublished_10 8 rfl rfl)
theorem dX0_askedPublished_243 : decode cX0_askedPublished 243 = .ok (.aload_n 0, 1) := dk_42 (dk_at dksX0_askedPublished_10 9 rfl rfl)
theorem dX0_askedPublished_244 : decode cX0_askedPublished 244 = .ok (.iload_n 2, 1) := dk_28 (dk_at dksX0_askedPublished_10 10 rfl rfl)
theorem dX0_askedPublished_245 : decode cX0_askedPublished 245 = .ok (.iaload, 1) := dk_46 (dk_at dksX0_askedPublished_10 11 rfl rfl)
theorem dX0_askedPublished_246 : decode cX0_askedPublished 246 = .ok (.invokevirtual 24, 3) := dk_182 0 24 (dk_at dksX0_askedPublished_10 12 rfl rfl)
theorem dX0_askedPublished_249 : decode cX0_askedPublished 249 = .ok (.iload_n 2, 1) := dk_28 (dk_at dksX0_askedPublished_10 15 rfl rfl)
theorem dX0_askedPublished_250 : decode cX0_askedPublished 250 = .ok (.if_icmp .eq 5, 3) := dk_159 0 5 (dk_at dksX0_askedPublished_10 16 rfl rfl)
theorem dX0_askedPublished_253 : decode cX0_askedPublished 253 = .ok (.iconst 0, 1) := dk_3 (dk_at dksX0_askedPublished_10 19 rfl rfl)
theorem dX0_askedPublished_254 : decode cX0_askedPublished 254 = .ok (.ireturn, 1) := dk_172 (dk_at dksX0_askedPublished_10 20 rfl rfl)
theorem dX0_askedPublished_255 : decode cX0_askedPublished 255 = .ok (.iinc 2 1, 3) := dk_132 2 1 (dk_at dksX0_askedPublished_10 21 rfl rfl)
theorem dX0_askedPublished_258 : decode cX0_askedPublished 258 = .ok (.goto (-25), 3) := dk_167 255 231 (dk_at dksX0_askedPublished_11 0 rfl rfl)
theorem dX0_askedPublished_261 : decode cX0_askedPublished 261 = .ok (.iconst 1, 1) := dk_4 (dk_at dksX0_askedPublished_11 3 rfl rfl)
theorem dX0_askedPublished_262 : decode cX0_askedPublished 262 = .ok (.ireturn, 1) := dk_172 (dk_at dksX0_askedPublished_11 4 rfl rfl)
abbrev cX0_askedNearest : ByteArray := method_11_code
def yX0_askedNearest : MethodName := ⟨RX0, "askedNearest", "([I)Z"⟩
def dkwX0_askedNearest_3 : List UInt8 := [29, 184, 0, 40, 160, 0, 7, 4, 167, 0, 4, 3, 172]
abbrev dktX0_askedNearest_3 : List UInt8 := dkwX0_askedNearest_3 ++ []
def dkwX0_askedNearest_2 : List UInt8 := [17, 127, 255, 126, 61, 29, 17, 127, 255, 126, 62, 132, 4, 1, 167, 255, 219, 43, 28, 29, 182, 0, 24, 28]
abbrev dktX0_askedNearest_2 : List UInt8 := dkwX0_askedNearest_2 ++ dktX0_askedNearest_3
def dkwX0_askedNearest_1 : List UInt8 := [21, 4, 5, 162, 0, 37, 43, 28, 29, 182, 0, 24, 28, 29, 184, 0, 40, 159, 0, 5, 3, 172, 28]
abbrev dktX0_askedNearest_1 : List UInt8 := dkwX0_askedNearest_1 ++ dktX0_askedNearest_2
def dkwX0_askedNearest_0 : List UInt8 := [187, 0, 14, 89, 183, 0, 16, 76, 42, 3, 184, 0, 31, 61, 42, 4, 184, 0, 31, 62, 3, 54, 4]
abbrev dktX0_askedNearest_0 : List UInt8 := dkwX0_askedNearest_0 ++ dktX0_askedNearest_1
theorem dksX0_askedNearest_0 : cX0_askedNearest.data.toList.drop 0 = dktX0_askedNearest_0 := by decide +kernel
theorem dksX0_askedNearest_1 : cX0_askedNearest.data.toList.drop 23 = dktX0_askedNearest_1 := dk_seg dksX0_askedNearest_0 23 rfl rfl
theorem dksX0_askedNearest_2 : cX0_askedNearest.data.toList.drop 46 = dktX0_askedNearest_2 := dk_seg dksX0_askedNearest_1 23 rfl rfl
theorem dksX0_askedNearest_3 : cX0_askedNearest.data.toList.drop 70 = dktX0_askedNearest_3 := dk_seg dksX0_askedNearest_2 24 rfl rfl
theorem dX0_askedNearest_0 : decode cX0_askedNearest 0 = .ok (.new 14, 3) := dk_187 0 14 (dk_at dksX0_askedNearest_0 0 rfl rfl)
theorem dX0_askedNearest_3 : decode cX0_askedNearest 3 = .ok (.dup, 1) := dk_89 (dk_at dksX0_askedNearest_0 3 rfl rfl)
theorem dX0_askedNearest_4 : decode cX0_askedNearest 4 = .ok (.invokespecial 16, 3) := dk_183 0 16 (dk_at dksX0_askedNearest_0 4 rfl rfl)
theorem dX0_askedNearest_7 : decode cX0_askedNearest 7 = .ok (.astore_n 1, 1) := dk_76 (dk_at dksX0_askedNearest_0 7 rfl rfl)
theorem dX0_askedNearest_8 : decode cX0_askedNearest 8 = .ok (.aload_n 0, 1) := dk_42 (dk_at dksX0_askedNearest_0 8 rfl rfl)
theorem dX0_askedNearest_9 : decode cX0_askedNearest 9 = .ok (.iconst 0, 1) := dk_3 (dk_at dksX0_askedNearest_0 9 rfl rfl)
theorem dX0_askedNearest_10 : decode cX0_askedNearest 10 = .ok (.invokestatic 31, 3) := dk_184 0 31 (dk_at dksX0_askedNearest_0 10 rfl rfl)
theorem dX0_askedNearest_13 : decode cX0_askedNearest 13 = .ok (.istore_n 2, 1) := dk_61 (dk_at dksX0_askedNearest_0 13 rfl rfl)
theorem dX0_askedNearest_14 : decode cX0_askedNearest 14 = .ok (.aload_n 0, 1) := dk_42 (dk_at dksX0_askedNearest_0 14 rfl rfl)
theorem dX0_askedNearest_15 : decode cX0_askedNearest 15 = .ok (.iconst 1, 1) := dk_4 (dk_at dksX0_askedNearest_0 15 rfl rfl)
theorem dX0_askedNearest_16 : decode cX0_askedNearest 16 = .ok (.invokestatic 31, 3) := dk_184 0 31 (dk_at dksX0_askedNearest_0 16 rfl rfl)
theorem dX0_askedNearest_19 : decode cX0_askedNearest 19 = .ok (.istore_n 3, 1) := dk_62 (dk_at dksX0_askedNearest_0 19 rfl rfl)
theorem dX0_askedNearest_20 : decode cX0_askedNearest 20 = .ok (.iconst 0, 1) := dk_3 (dk_at dksX0_askedNearest_0 20 rfl rfl)
theorem dX0_askedNearest_21 : decode cX0_askedNearest 21 = .ok (.istore 4, 2) := dk_54 4 (dk_at dksX0_askedNearest_0 21 rfl rfl)
theorem dX0_askedNearest_23 : decode cX0_askedNearest 23 = .ok (.iload 4, 2) := dk_21 4 (dk_at dksX0_askedNearest_1 0 rfl rfl)
theorem dX0_askedNearest_25 : decode cX0_askedNearest 25 = .ok (.iconst 2, 1) := dk_5 (dk_at dksX0_askedNearest_1 2 rfl rfl)
theorem dX0_askedNearest_26 : decode cX0_askedNearest 26 = .ok (.if_icmp .ge 37, 3) := dk_162 0 37 (dk_at dksX0_askedNearest_1 3 rfl rfl)
theorem dX0_askedNearest_29 : decode cX0_askedNearest 29 = .ok (.aload_n 1, 1) := dk_43 (dk_at dksX0_askedNearest_1 6 rfl rfl)
theorem dX0_askedNearest_30 : decode cX0_askedNearest 30 = .ok (.iload_n 2, 1) := dk_28 (dk_at dksX0_askedNearest_1 7 rfl rfl)
theorem dX0_askedNearest_31 : decode cX0_askedNearest 31 = .ok (.iload_n 3, 1) := dk_29 (dk_at dksX0_askedNearest_1 8 rfl rfl)
theorem dX0_askedNearest_32 : decode cX0_askedNearest 32 = .ok (.invokevirtual 24, 3) := dk_182 0 24 (dk_at dksX0_askedNearest_1 9 rfl rfl)
theorem dX0_askedNearest_35 : decode cX0_askedNearest 35 = .ok (.iload_n 2, 1) := dk_28 (dk_at dksX0_askedNearest_1 12 rfl rfl)
theorem dX0_askedNearest_36 : decode cX0_askedNearest 36 = .ok (.iload_n 3, 1) := dk_29 (dk_at dksX0_askedNearest_1 13 rfl rfl)
theorem dX0_askedNearest_37 : decode cX0_askedNearest 37 = .ok (.invokestatic 40, 3) := dk_184 0 40 (dk_at dksX0_askedNearest_1 14 rfl rfl)
theorem dX0_askedNearest_40 : decode cX0_askedNearest 40 = .ok (.if_icmp .eq 5, 3) := dk_159 0 5 (dk_at dksX0_askedNearest_1 17 rfl rfl)
theorem dX0_askedNearest_43 : decode cX0_askedNearest 43 = .ok (.iconst 0, 1) := dk_3 (dk_at dksX0_askedNearest_1 20 rfl rfl)
theorem dX0_askedNearest_44 : decode cX0_askedNearest 44 = .ok (.ireturn, 1) := dk_172 (dk_at dksX0_askedNearest_1 21 rfl rfl)
theorem dX0_askedNearest_45 : decode cX0_askedNearest 45 = .ok (.iload_n 2, 1) := dk_28 (dk_at dksX0_askedNearest_1 22 rfl rfl)
theorem dX0_askedNearest_46 : decode cX0_askedNearest 46 = .ok (.sipush 32767, 3) := dk_17 127 255 (dk_at dksX0_askedNearest_2 0 rfl rfl)
theorem dX0_askedNearest_49 : decode cX0_askedNearest 49 = .ok (.iand, 1) := dk_126 (dk_at dksX0_askedNearest_2 3 rfl rfl)
theorem dX0_askedNearest_50 : decode cX0_askedNearest 50 = .ok (.istore_n 2, 1) := dk_61 (dk_at dksX0_askedNearest_2 4 rfl rfl)
theorem dX0_askedNearest_51 : decode cX0_askedNearest 51 = .ok (.iload_n 3, 1) := dk_29 (dk_at dksX0_askedNearest_2 5 rfl rfl)
theorem dX0_askedNearest_52 : decode cX0_askedNearest 52 = .ok (.sipush 32767, 3) := dk_17 127 255 (dk_at dksX0_askedNearest_2 6 rfl rfl)
theorem dX0_askedNearest_55 : decode cX0_askedNearest 55 = .ok (.iand, 1) := dk_126 (dk_at dksX0_askedNearest_2 9 rfl rfl)
theorem dX0_askedNearest_56 : decode cX0_askedNearest 56 = .ok (.istore_n 3, 1) := dk_62 (dk_at dksX0_askedNearest_2 10 rfl rfl)
theorem dX0_askedNearest_57 : decode cX0_askedNearest 57 = .ok (.iinc 4 1, 3) := dk_132 4 1 (dk_at dksX0_askedNearest_2 11 rfl rfl)
theorem dX0_askedNearest_60 : decode cX0_askedNearest 60 = .ok (.goto (-37), 3) := dk_167 255 219 (dk_at dksX0_askedNearest_2 14 rfl rfl)
theorem dX0_askedNearest_63 : decode cX0_askedNearest 63 = .ok (.aload_n 1, 1) := dk_43 (dk_at dksX0_askedNearest_2 17 rfl rfl)
theorem dX0_askedNearest_64 : decode cX0_askedNearest 64 = .ok (.iload_n 2, 1) := dk_28 (dk_at dksX0_askedNearest_2 18 rfl rfl)
theorem dX0_askedNearest_65 : decode cX0_askedNearest 65 = .ok (.iload_n 3, 1) := dk_29 (dk_at dksX0_askedNearest_2 19 rfl rfl)
theorem dX0_askedNearest_66 : decode cX0_askedNearest 66 = .ok (.invokevirtual 24, 3) := dk_182 0 24 (dk_at dksX0_askedNearest_2 20 rfl rfl)
theorem dX0_askedNearest_69 : decode cX0_askedNearest 69 = .ok (.iload_n 2, 1) := dk_28 (dk_at dksX0_askedNearest_2 23 rfl rfl)
theorem dX0_askedNearest_70 : decode cX0_askedNearest 70 = .ok (.iload_n 3, 1) := dk_29 (dk_at dksX0_askedNearest_3 0 rfl rfl)
theorem dX0_askedNearest_71 : decode cX0_askedNearest 71 = .ok (.invokestatic 40, 3) := dk_184 0 40 (dk_at dksX0_askedNearest_3 1 rfl rfl)
theorem dX0_askedNearest_74 : decode cX0_askedNearest 74 = .ok (.if_icmp .ne 7, 3) := dk_160 0 7 (dk_at dksX0_askedNearest_3 4 rfl rfl)
theorem dX0_askedNearest_77 : decode cX0_askedNearest 77 = .ok (.iconst 1, 1) := dk_4 (dk_at dksX0_askedNearest_3 7 rfl rfl)
theorem dX0_askedNearest_78 : decode cX0_askedNearest 78 = .ok (.goto 4, 3) := dk_167 0 4 (dk_at dksX0_askedNearest_3 8 rfl rfl)
theorem dX0_askedNearest_81 : decode cX0_askedNearest 81 = .ok (.iconst 0, 1) := dk_3 (dk_at dksX0_askedNearest_3 11 rfl rfl)
theorem dX0_askedNearest_82 : decode cX0_askedNearest 82 = .ok (.ireturn, 1) := dk_172 (dk_at dksX0_askedNearest_3 12 rfl rfl)
abbrev cX0_askedDue : ByteArray := method_12_code
def yX0_askedDue : MethodName := ⟨RX0, "askedDue", "(II)I"⟩
def dkwX0_askedDue_1 : List UInt8 := [184, 0, 43, 172]
abbrev dktX0_askedDue_1 : List UInt8 := dkwX0_askedDue_1 ++ []
def dkwX0_askedDue_0 : List UInt8 := [26, 27, 184, 0, 43, 61, 28, 155, 0, 7, 28, 167, 0, 16, 26, 17, 84, 18, 130, 27, 17, 84, 18, 130]
abbrev dktX0_askedDue_0 : List UInt8 := dkwX0_askedDue_0 ++ dktX0_askedDue_1
theorem dksX0_askedDue_0 : cX0_askedDue.data.toList.drop 0 = dktX0_askedDue_0 := by decide +kernel
theorem dksX0_askedDue_1 : cX0_askedDue.data.toList.drop 24 = dktX0_askedDue_1 := dk_seg dksX0_askedDue_0 24 rfl rfl
theorem dX0_askedDue_0 : decode cX0_askedDue 0 = .ok (.iload_n 0, 1) := dk_26 (dk_at dksX0_askedDue_0 0 rfl rfl)
theorem dX0_askedDue_1 : decode cX0_askedDue 1 = .ok (.iload_n 1, 1) := dk_27 (dk_at dksX0_askedDue_0 1 rfl rfl)
theorem dX0_askedDue_2 : decode cX0_askedDue 2 = .ok (.invokestatic 43, 3) := dk_184 0 43 (dk_at dksX0_askedDue_0 2 rfl rfl)
theorem dX0_askedDue_5 : decode cX0_askedDue 5 = .ok (.istore_n 2, 1) := dk_61 (dk_at dksX0_askedDue_0 5 rfl rfl)
theorem dX0_askedDue_6 : decode cX0_askedDue 6 = .ok (.iload_n 2, 1) := dk_28 (dk_at dksX0_askedDue_0 6 rfl rfl)
theorem dX0_askedDue_7 : decode cX0_askedDue 7 = .ok (.ifCond .lt 7, 3) := dk_155 0 7 (dk_at dksX0_askedDue_0 7 rfl rfl)
theorem dX0_askedDue_10 : decode cX0_askedDue 10 = .ok (.iload_n 2, 1) := dk_28 (dk_at dksX0_askedDue_0 10 rfl rfl)
theorem dX0_askedDue_11 : decode cX0_askedDue 11 = .ok (.goto 16, 3) := dk_167 0 16 (dk_at dksX0_askedDue_0 11 rfl rfl)
theorem dX0_askedDue_14 : decode cX0_askedDue 14 = .ok (.iload_n 0, 1) := dk_26 (dk_at dksX0_askedDue_0 14 rfl rfl)
theorem dX0_askedDue_15 : decode cX0_askedDue 15 = .ok (.sipush 21522, 3) := dk_17 84 18 (dk_at dksX0_askedDue_0 15 rfl rfl)
theorem dX0_askedDue_18 : decode cX0_askedDue 18 = .ok (.ixor, 1) := dk_130 (dk_at dksX0_askedDue_0 18 rfl rfl)
theorem dX0_askedDue_19 : decode cX0_askedDue 19 = .ok (.iload_n 1, 1) := dk_27 (dk_at dksX0_askedDue_0 19 rfl rfl)
theorem dX0_askedDue_20 : decode cX0_askedDue 20 = .ok (.sipush 21522, 3) := dk_17 84 18 (dk_at dksX0_askedDue_0 20 rfl rfl)
theorem dX0_askedDue_23 : decode cX0_askedDue 23 = .ok (.ixor, 1) := dk_130 (dk_at dksX0_askedDue_0 23 rfl rfl)
theorem dX0_askedDue_24 : decode cX0_askedDue 24 = .ok (.invokestatic 43, 3) := dk_184 0 43 (dk_at dksX0_askedDue_1 0 rfl rfl)
theorem dX0_askedDue_27 : decode cX0_askedDue 27 = .ok (.ireturn, 1) := dk_172 (dk_at dksX0_askedDue_1 3 rfl rfl)
abbrev cX0_askedNear : ByteArray := method_13_code
def yX0_askedNear : MethodName := ⟨RX0, "askedNear", "(II)I"⟩
def dkwX0_askedNear_2 : List UInt8 := [21, 4, 62, 132, 4, 1, 167, 255, 209, 29, 172]
abbrev dktX0_askedNear_2 : List UInt8 := dkwX0_askedNear_2 ++ []
def dkwX0_askedNear_1 : List UInt8 := [27, 21, 4, 184, 0, 46, 130, 184, 0, 34, 184, 0, 49, 54, 5, 21, 5, 28, 162, 0, 9, 21, 5, 61]
abbrev dktX0_askedNear_1 : List UInt8 := dkwX0_askedNear_1 ++ dktX0_askedNear_2
def dkwX0_askedNear_0 : List UInt8 := [7, 61, 2, 62, 3, 54, 4, 21, 4, 16, 32, 162, 0, 46, 26, 21, 4, 184, 0, 46, 130, 184, 0, 34]
abbrev dktX0_askedNear_0 : List UInt8 := dkwX0_askedNear_0 ++ dktX0_askedNear_1
theorem dksX0_askedNear_0 : cX0_askedNear.data.toList.drop 0 = dktX0_askedNear_0 := by decide +kernel
theorem dksX0_askedNear_1 : cX0_askedNear.data.toList.drop 24 = dktX0_askedNear_1 := dk_seg dksX0_askedNear_0 24 rfl rfl
theorem dksX0_askedNear_2 : cX0_askedNear.data.toList.drop 48 = dktX0_askedNear_2 := dk_seg dksX0_askedNear_1 24 rfl rfl
theorem dX0_askedNear_0 : decode cX0_askedNear 0 = .ok (.iconst 4, 1) := dk_7 (dk_at dksX0_askedNear_0 0 rfl rfl)
theorem dX0_askedNear_1 : decode cX0_askedNear 1 = .ok (.istore_n 2, 1) := dk_61 (dk_at dksX0_askedNear_0 1 rfl rfl)
theorem dX0_askedNear_2 : decode cX0_askedNear 2 = .ok (.iconst (-1), 1) := dk_2 (dk_at dksX0_askedNear_0 2 rfl rfl)
theorem dX0_askedNear_3 : decode cX0_askedNear 3 = .ok (.istore_n 3, 1) := dk_62 (dk_at dksX0_askedNear_0 3 rfl rfl)
theorem dX0_askedNear_4 : decode cX0_askedNear 4 = .ok (.iconst 0, 1) := dk_3 (dk_at dksX0_askedNear_0 4 rfl rfl)
theorem dX0_askedNear_5 : decode cX0_askedNear 5 = .ok (.istore 4, 2) := dk_54 4 (dk_at dksX0_askedNear_0 5 rfl rfl)
theorem dX0_askedNear_7 : decode cX0_askedNear 7 = .ok (.iload 4, 2) := dk_21 4 (dk_at dksX0_askedNear_0 7 rfl rfl)
theorem dX0_askedNear_9 : decode cX0_askedNear 9 = .ok (.bipush 32, 2) := dk_16 32 (dk_at dksX0_askedNear_0 9 rfl rfl)
theorem dX0_askedNear_11 : decode cX0_askedNear 11 = .ok (.if_icmp .ge 46, 3) := dk_162 0 46 (dk_at dksX0_askedNear_0 11 rfl rfl)
theorem dX0_askedNear_14 : decode cX0_askedNear 14 = .ok (.iload_n 0, 1) := dk_26 (dk_at dksX0_askedNear_0 14 rfl rfl)
theorem dX0_askedNear_15 : decode cX0_askedNear 15 = .ok (.iload 4, 2) := dk_21 4 (dk_at dksX0_askedNear_0 15 rfl rfl)
theorem dX0_askedNear_17 : decode cX0_askedNear 17 = .ok (.invokestatic 46, 3) := dk_184 0 46 (dk_at dksX0_askedNear_0 17 rfl rfl)
theorem dX0_askedNear_20 : decode cX0_askedNear 20 = .ok (.ixor, 1) := dk_130 (dk_at dksX0_askedNear_0 20 rfl rfl)
theorem dX0_askedNear_21 : decode cX0_askedNear 21 = .ok (.invokestatic 34, 3) := dk_184 0 34 (dk_at dksX0_askedNear_0 21 rfl rfl)
theorem dX0_askedNear_24 : decode cX0_askedNear 24 = .ok (.iload_n 1, 1) := dk_27 (dk_at dksX0_askedNear_1 0 rfl rfl)
theorem dX0_askedNear_25 : decode cX0_askedNear 25 = .ok (.iload 4, 2) := dk_21 4 (dk_at dksX0_askedNear_1 1 rfl rfl)
theorem dX0_askedNear_27 : decode cX0_askedNear 27 = .ok (.invokestatic 46, 3) := dk_184 0 46 (dk_at dksX0_askedNear_1 3 rfl rfl)
theorem dX0_askedNear_30 : decode cX0_askedNear 30 = .ok (.ixor, 1) := dk_130 (dk_at dksX0_askedNear_1 6 rfl rfl)
theorem dX0_askedNear_31 : decode cX0_askedNear 31 = .ok (.invokestatic 34, 3) := dk_184 0 34 (dk_at dksX0_askedNear_1 7 rfl rfl)
theorem dX0_askedNear_34 : decode cX0_askedNear 34 = .ok (.invokestatic 49, 3) := dk_184 0 49 (dk_at dksX0_askedNear_1 10 rfl rfl)
theorem dX0_askedNear_37 : decode cX0_askedNear 37 = .ok (.istore 5, 2) := dk_54 5 (dk_at dksX0_askedNear_1 13 rfl rfl)
theorem dX0_askedNear_39 : decode cX0_askedNear 39 = .ok (.iload 5, 2) := dk_21 5 (dk_at dksX0_askedNear_1 15 rfl rfl)
theorem dX0_askedNear_41 : decode cX0_askedNear 41 = .ok (.iload_n 2, 1) := dk_28 (dk_at dksX0_askedNear_1 17 rfl rfl)
theorem dX0_askedNear_42 : decode cX0_askedNear 42 = .ok (.if_icmp .ge 9, 3) := dk_162 0 9 (dk_at dksX0_askedNear_1 18 rfl rfl)
theorem dX0_askedNear_45 : decode cX0_askedNear 45 = .ok (.iload 5, 2) := dk_21 5 (dk_at dksX0_askedNear_1 21 rfl rfl)
theorem dX0_askedNear_47 : decode cX0_askedNear 47 = .ok (.istore_n 2, 1) := dk_61 (dk_at dksX0_askedNear_1 23 rfl rfl)
theorem dX0_askedNear_48 : decode cX0_askedNear 48 = .ok (.iload 4, 2) := dk_21 4 (dk_at dksX0_askedNear_2 0 rfl rfl)
theorem dX0_askedNear_50 : decode cX0_askedNear 50 = .ok (.istore_n 3, 1) := dk_62 (dk_at dksX0_askedNear_2 2 rfl rfl)
theorem dX0_askedNear_51 : decode cX0_askedNear 51 = .ok (.iinc 4 1, 3) := dk_132 4 1 (dk_at dksX0_askedNear_2 3 rfl rfl)
theorem dX0_askedNear_54 : decode cX0_askedNear 54 = .ok (.goto (-47), 3) := dk_167 255 209 (dk_at dksX0_askedNear_2 6 rfl rfl)
theorem dX0_askedNear_57 : decode cX0_askedNear 57 = .ok (.iload_n 3, 1) := dk_29 (dk_at dksX0_askedNear_2 9 rfl rfl)
theorem dX0_askedNear_58 : decode cX0_askedNear 58 = .ok (.ireturn, 1) := dk_172 (dk_at dksX0_askedNear_2 10 rfl rfl)
abbrev cX0_askedWord : ByteArray := method_7_code
def yX0_askedWord : MethodName := ⟨RX0, "askedWord", "(I)I"⟩
def dkwX0_askedWord_2 : List UInt8 := [17, 84, 18, 130, 172]
abbrev dktX0_askedWord_2 : List UInt8 := dkwX0_askedWord_2 ++ []
def dkwX0_askedWord_1 : List UInt8 := [17, 5, 55, 28, 16, 10, 100, 120, 130, 60, 132, 2, 255, 167, 255, 227, 26, 16, 10, 120, 27, 128]
abbrev dktX0_askedWord_1 : List UInt8 := dkwX0_askedWord_1 ++ dktX0_askedWord_2
def dkwX0_askedWord_0 : List UInt8 := [26, 16, 10, 120, 60, 16, 14, 61, 28, 16, 9, 164, 0, 29, 27, 28, 122, 4, 126, 4, 160, 0, 14, 27]
abbrev dktX0_askedWord_0 : List UInt8 := dkwX0_askedWord_0 ++ dktX0_askedWord_1
theorem dksX0_askedWord_0 : cX0_askedWord.data.toList.drop 0 = dktX0_askedWord_0 := by decide +kernel
theorem dksX0_askedWord_1 : cX0_askedWord.data.toList.drop 24 = dktX0_askedWord_1 := dk_seg dksX0_askedWord_0 24 rfl rfl
theorem dksX0_askedWord_2 : cX0_askedWord.data.toList.drop 46 = dktX0_askedWord_2 := dk_seg dksX0_askedWord_1 22 rfl rfl
theorem dX0_askedWord_0 : decode cX0_askedWord 0 = .ok (.iload_n 0, 1) := dk_26 (dk_at dksX0_askedWord_0 0 rfl rfl)
theorem dX0_askedWord_1 : decode cX0_askedWord 1 = .ok (.bipush 10, 2) := dk_16 10 (dk_at dksX0_askedWord_0 1 rfl rfl)
theorem dX0_askedWord_3 : decode cX0_askedWord 3 = .ok (.ishl, 1) := dk_120 (dk_at dksX0_askedWord_0 3 rfl rfl)
theorem dX0_askedWord_4 : decode cX0_askedWord 4 = .ok (.istore_n 1, 1) := dk_60 (dk_at dksX0_askedWord_0 4 rfl rfl)
theorem dX0_askedWord_5 : decode cX0_askedWord 5 = .ok (.bipush 14, 2) := dk_16 14 (dk_at dksX0_askedWord_0 5 rfl rfl)
theorem dX0_askedWord_7 : decode cX0_askedWord 7 = .ok (.istore_n 2, 1) := dk_61 (dk_at dksX0_askedWord_0 7 rfl rfl)
theorem dX0_askedWord_8 : decode cX0_askedWord 8 = .ok (.iload_n 2, 1) := dk_28 (dk_at dksX0_askedWord_0 8 rfl rfl)
theorem dX0_askedWord_9 : decode cX0_askedWord 9 = .ok (.bipush 9, 2) := dk_16 9 (dk_at dksX0_askedWord_0 9 rfl rfl)
theorem dX0_askedWord_11 : decode cX0_askedWord 11 = .ok (.if_icmp .le 29, 3) := dk_164 0 29 (dk_at dksX0_askedWord_0 11 rfl rfl)
theorem dX0_askedWord_14 : decode cX0_askedWord 14 = .ok (.iload_n 1, 1) := dk_27 (dk_at dksX0_askedWord_0 14 rfl rfl)
theorem dX0_askedWord_15 : decode cX0_askedWord 15 = .ok (.iload_n 2, 1) := dk_28 (dk_at dksX0_askedWord_0 15 rfl rfl)
theorem dX0_askedWord_16 : decode cX0_askedWord 16 = .ok (.ishr, 1) := dk_122 (dk_at dksX0_askedWord_0 16 rfl rfl)
theorem dX0_askedWord_17 : decode cX0_askedWord 17 = .ok (.iconst 1, 1) := dk_4 (dk_at dksX0_askedWord_0 17 rfl rfl)
theorem dX0_askedWord_18 : decode cX0_askedWord 18 = .ok (.iand, 1) := dk_126 (dk_at dksX0_askedWord_0 18 rfl rfl)
theorem dX0_askedWord_19 : decode cX0_askedWord 19 = .ok (.iconst 1, 1) := dk_4 (dk_at dksX0_askedWord_0 19 rfl rfl)
theorem dX0_askedWord_20 : decode cX0_askedWord 20 = .ok (.if_icmp .ne 14, 3) := dk_160 0 14 (dk_at dksX0_askedWord_0 20 rfl rfl)
theorem dX0_askedWord_23 : decode cX0_askedWord 23 = .ok (.iload_n 1, 1) := dk_27 (dk_at dksX0_askedWord_0 23 rfl rfl)
theorem dX0_askedWord_24 : decode cX0_askedWord 24 = .ok (.sipush 1335, 3) := dk_17 5 55 (dk_at dksX0_askedWord_1 0 rfl rfl)
theorem dX0_askedWord_27 : decode cX0_askedWord 27 = .ok (.iload_n 2, 1) := dk_28 (dk_at dksX0_askedWord_1 3 rfl rfl)
theorem dX0_askedWord_28 : decode cX0_askedWord 28 = .ok (.bipush 10, 2) := dk_16 10 (dk_at dksX0_askedWord_1 4 rfl rfl)
theorem dX0_askedWord_30 : decode cX0_askedWord 30 = .ok (.isub, 1) := dk_100 (dk_at dksX0_askedWord_1 6 rfl rfl)
theorem dX0_askedWord_31 : decode cX0_askedWord 31 = .ok (.ishl, 1) := dk_120 (dk_at dksX0_askedWord_1 7 rfl rfl)
theorem dX0_askedWord_32 : decode cX0_askedWord 32 = .ok (.ixor, 1) := dk_130 (dk_at dksX0_askedWord_1 8 rfl rfl)
theorem dX0_askedWord_33 : decode cX0_askedWord 33 = .ok (.istore_n 1, 1) := dk_60 (dk_at dksX0_askedWord_1 9 rfl rfl)
theorem dX0_askedWord_34 : decode cX0_askedWord 34 = .ok (.iinc 2 (-1), 3) := dk_132 2 255 (dk_at dksX0_askedWord_1 10 rfl rfl)
theorem dX0_askedWord_37 : decode cX0_askedWord 37 = .ok (.goto (-29), 3) := dk_167 255 227 (dk_at dksX0_askedWord_1 13 rfl rfl)
theorem dX0_askedWord_40 : decode cX0_askedWord 40 = .ok (.iload_n 0, 1) := dk_26 (dk_at dksX0_askedWord_1 16 rfl rfl)
theorem dX0_askedWord_41 : decode cX0_askedWord 41 = .ok (.bipush 10, 2) := dk_16 10 (dk_at dksX0_askedWord_1 17 rfl rfl)
theorem dX0_askedWord_43 : decode cX0_askedWord 43 = .ok (.ishl, 1) := dk_120 (dk_at dksX0_askedWord_1 19 rfl rfl)
theorem dX0_askedWord_44 : decode cX0_askedWord 44 = .ok (.iload_n 1, 1) := dk_27 (dk_at dksX0_askedWord_1 20 rfl rfl)
theorem dX0_askedWord_45 : decode cX0_askedWord 45 = .ok (.ior, 1) := dk_128 (dk_at dksX0_askedWord_1 21 rfl rfl)
theorem dX0_askedWord_46 : decode cX0_askedWord 46 = .ok (.sipush 21522, 3) := dk_17 84 18 (dk_at dksX0_askedWord_2 0 rfl rfl)
theorem dX0_askedWord_49 : decode cX0_askedWord 49 = .ok (.ixor, 1) := dk_130 (dk_at dksX0_askedWord_2 3 rfl rfl)
theorem dX0_askedWord_50 : decode cX0_askedWord 50 = .ok (.ireturn, 1) := dk_172 (dk_at dksX0_askedWord_2 4 rfl rfl)
abbrev cX0_askedCopies : ByteArray := method_14_code
def yX0_askedCopies : MethodName := ⟨RX0, "askedCopies", "([I)Z"⟩
def dkwX0_askedCopies_9 : List UInt8 := [184, 0, 46, 17, 84, 18, 130, 182, 0, 24, 28, 160, 0, 7, 4, 167, 0, 4, 3, 172]
abbrev dktX0_askedCopies_9 : List UInt8 := dkwX0_askedCopies_9 ++ []
def dkwX0_askedCopies_8 : List UInt8 := [184, 0, 46, 18, 54, 130, 182, 0, 24, 2, 160, 0, 31, 43, 28, 184, 0, 46, 17, 84, 18, 130, 28]
abbrev dktX0_askedCopies_8 : List UInt8 := dkwX0_askedCopies_8 ++ dktX0_askedCopies_9
def dkwX0_askedCopies_7 : List UInt8 := [182, 0, 24, 28, 29, 184, 0, 49, 159, 0, 5, 3, 172, 43, 28, 184, 0, 46, 18, 54, 130, 29]
abbrev dktX0_askedCopies_7 : List UInt8 := dkwX0_askedCopies_7 ++ dktX0_askedCopies_8
def dkwX0_askedCopies_6 : List UInt8 := [182, 0, 24, 28, 159, 0, 5, 3, 172, 43, 28, 184, 0, 46, 21, 4, 130, 29, 184, 0, 46, 21, 4, 130]
abbrev dktX0_askedCopies_6 : List UInt8 := dkwX0_askedCopies_6 ++ dktX0_askedCopies_7
def dkwX0_askedCopies_5 : List UInt8 := [182, 0, 24, 28, 159, 0, 5, 3, 172, 43, 28, 184, 0, 46, 21, 4, 130, 29, 184, 0, 46, 16, 7, 130]
abbrev dktX0_askedCopies_5 : List UInt8 := dkwX0_askedCopies_5 ++ dktX0_askedCopies_6
def dkwX0_askedCopies_4 : List UInt8 := [154, 0, 33, 43, 28, 184, 0, 46, 21, 5, 182, 0, 24, 28, 160, 0, 17, 43, 21, 5, 28, 184, 0, 46]
abbrev dktX0_askedCopies_4 : List UInt8 := dkwX0_askedCopies_4 ++ dktX0_askedCopies_5
def dkwX0_askedCopies_3 : List UInt8 := [184, 0, 46, 21, 5, 160, 0, 7, 4, 167, 0, 4, 3, 128, 54, 6, 132, 7, 1, 167, 255, 226, 21, 6]
abbrev dktX0_askedCopies_3 : List UInt8 := dkwX0_askedCopies_3 ++ dktX0_askedCopies_4
def dkwX0_askedCopies_2 : List UInt8 := [130, 21, 4, 130, 54, 5, 3, 54, 6, 3, 54, 7, 21, 7, 16, 32, 162, 0, 29, 21, 6, 21, 7]
abbrev dktX0_askedCopies_2 : List UInt8 := dkwX0_askedCopies_2 ++ dktX0_askedCopies_3
def dkwX0_askedCopies_1 : List UInt8 := [126, 62, 4, 42, 5, 184, 0, 31, 18, 13, 126, 16, 15, 112, 120, 54, 4, 28, 184, 0, 46, 17, 127, 255]
abbrev dktX0_askedCopies_1 : List UInt8 := dkwX0_askedCopies_1 ++ dktX0_askedCopies_2
def dkwX0_askedCopies_0 : List UInt8 := [187, 0, 14, 89, 183, 0, 16, 76, 42, 3, 184, 0, 31, 16, 31, 126, 61, 42, 4, 184, 0, 31, 16, 31]
abbrev dktX0_askedCopies_0 : List UInt8 := dkwX0_askedCopies_0 ++ dktX0_askedCopies_1
theorem dksX0_askedCopies_0 : cX0_askedCopies.data.toList.drop 0 = dktX0_askedCopies_0 := by decide +kernel
theorem dksX0_askedCopies_1 : cX0_askedCopies.data.toList.drop 24 = dktX0_askedCopies_1 := dk_seg dksX0_askedCopies_0 24 rfl rfl
theorem dksX0_askedCopies_2 : cX0_askedCopies.data.toList.drop 48 = dktX0_askedCopies_2 := dk_seg dksX0_askedCopies_1 24 rfl rfl
theorem dksX0_askedCopies_3 : cX0_askedCopies.data.toList.drop 71 = dktX0_askedCopies_3 := dk_seg dksX0_askedCopies_2 23 rfl rfl
theorem dksX0_askedCopies_4 : cX0_askedCopies.data.toList.drop 95 = dktX0_askedCopies_4 := dk_seg dksX0_askedCopies_3 24 rfl rfl
theorem dksX0_askedCopies_5 : cX0_askedCopies.data.toList.drop 119 = dktX0_askedCopies_5 := dk_seg dksX0_askedCopies_4 24 rfl rfl
theorem dksX0_askedCopies_6 : cX0_askedCopies.data.toList.drop 143 = dktX0_askedCopies_6 := dk_seg dksX0_askedCopies_5 24 rfl rfl
theorem dksX0_askedCopies_7 : cX0_askedCopies.data.toList.drop 167 = dktX0_askedCopies_7 := dk_seg dksX0_askedCopies_6 24 rfl rfl
theorem dksX0_askedCopies_8 : cX0_askedCopies.data.toList.drop 189 = dktX0_askedCopies_8 := dk_seg dksX0_askedCopies_7 22 rfl rfl
theorem dksX0_askedCopies_9 : cX0_askedCopies.data.toList.drop 212 = dktX0_askedCopies_9 := dk_seg dksX0_askedCopies_8 23 rfl rfl
theorem dX0_askedCopies_0 : decode cX0_askedCopies 0 = .ok (.new 14, 3) := dk_187 0 14 (dk_at dksX0_askedCopies_0 0 rfl rfl)
theorem dX0_askedCopies_3 : decode cX0_askedCopies 3 = .ok (.dup, 1) := dk_89 (dk_at dksX0_askedCopies_0 3 rfl rfl)
theorem dX0_askedCopies_4 : decode cX0_askedCopies 4 = .ok (.invokespecial 16, 3) := dk_183 0 16 (dk_at dksX0_askedCopies_0 4 rfl rfl)
theorem dX0_askedCopies_7 : decode cX0_askedCopies 7 = .ok (.astore_n 1, 1) := dk_76 (dk_at dksX0_askedCopies_0 7 rfl rfl)
theorem dX0_askedCopies_8 : decode cX0_askedCopies 8 = .ok (.aload_n 0, 1) := dk_42 (dk_at dksX0_askedCopies_0 8 rfl rfl)
theorem dX0_askedCopies_9 : decode cX0_askedCopies 9 = .ok (.iconst 0, 1) := dk_3 (dk_at dksX0_askedCopies_0 9 rfl rfl)
theorem dX0_askedCopies_10 : decode cX0_askedCopies 10 = .ok (.invokestatic 31, 3) := dk_184 0 31 (dk_at dksX0_askedCopies_0 10 rfl rfl)
theorem dX0_askedCopies_13 : decode cX0_askedCopies 13 = .ok (.bipush 31, 2) := dk_16 31 (dk_at dksX0_askedCopies_0 13 rfl rfl)
theorem dX0_askedCopies_15 : decode cX0_askedCopies 15 = .ok (.iand, 1) := dk_126 (dk_at dksX0_askedCopies_0 15 rfl rfl)
theorem dX0_askedCopies_16 : decode cX0_askedCopies 16 = .ok (.istore_n 2, 1) := dk_61 (dk_at dksX0_askedCopies_0 16 rfl rfl)
theorem dX0_askedCopies_17 : decode cX0_askedCopies 17 = .ok (.aload_n 0, 1) := dk_42 (dk_at dksX0_askedCopies_0 17 rfl rfl)
theorem dX0_askedCopies_18 : decode cX0_askedCopies 18 = .ok (.iconst 1, 1) := dk_4 (dk_at dksX0_askedCopies_0 18 rfl rfl)
theorem dX0_askedCopies_19 : decode cX0_askedCopies 19 = .ok (.invokestatic 31, 3) := dk_184 0 31 (dk_at dksX0_askedCopies_0 19 rfl rfl)
theorem dX0_askedCopies_22 : decode cX0_askedCopies 22 = .ok (.bipush 31, 2) := dk_16 31 (dk_at dksX0_askedCopies_0 22 rfl rfl)
theorem dX0_askedCopies_24 : decode cX0_askedCopies 24 = .ok (.iand, 1) := dk_126 (dk_at dksX0_askedCopies_1 0 rfl rfl)
theorem dX0_askedCopies_25 : decode cX0_askedCopies 25 = .ok (.istore_n 3, 1) := dk_62 (dk_at dksX0_askedCopies_1 1 rfl rfl)
theorem dX0_askedCopies_26 : decode cX0_askedCopies 26 = .ok (.iconst 1, 1) := dk_4 (dk_at dksX0_askedCopies_1 2 rfl rfl)
theorem dX0_askedCopies_27 : decode cX0_askedCopies 27 = .ok (.aload_n 0, 1) := dk_42 (dk_at dksX0_askedCopies_1 3 rfl rfl)
theorem dX0_askedCopies_28 : decode cX0_askedCopies 28 = .ok (.iconst 2, 1) := dk_5 (dk_at dksX0_askedCopies_1 4 rfl rfl)
theorem dX0_askedCopies_29 : decode cX0_askedCopies 29 = .ok (.invokestatic 31, 3) := dk_184 0 31 (dk_at dksX0_askedCopies_1 5 rfl rfl)
theorem dX0_askedCopies_32 : decode cX0_askedCopies 32 = .ok (.ldc 13, 2) := dk_18 13 (dk_at dksX0_askedCopies_1 8 rfl rfl)
theorem dX0_askedCopies_34 : decode cX0_askedCopies 34 = .ok (.iand, 1) := dk_126 (dk_at dksX0_askedCopies_1 10 rfl rfl)
theorem dX0_askedCopies_35 : decode cX0_askedCopies 35 = .ok (.bipush 15, 2) := dk_16 15 (dk_at dksX0_askedCopies_1 11 rfl rfl)
theorem dX0_askedCopies_37 : decode cX0_askedCopies 37 = .ok (.irem, 1) := dk_112 (dk_at dksX0_askedCopies_1 13 rfl rfl)
theorem dX0_askedCopies_38 : decode cX0_askedCopies 38 = .ok (.ishl, 1) := dk_120 (dk_at dksX0_askedCopies_1 14 rfl rfl)
theorem dX0_askedCopies_39 : decode cX0_askedCopies 39 = .ok (.istore 4, 2) := dk_54 4 (dk_at dksX0_askedCopies_1 15 rfl rfl)
theorem dX0_askedCopies_41 : decode cX0_askedCopies 41 = .ok (.iload_n 2, 1) := dk_28 (dk_at dksX0_askedCopies_1 17 rfl rfl)
theorem dX0_askedCopies_42 : decode cX0_askedCopies 42 = .ok (.invokestatic 46, 3) := dk_184 0 46 (dk_at dksX0_askedCopies_1 18 rfl rfl)
theorem dX0_askedCopies_45 : decode cX0_askedCopies 45 = .ok (.sipush 32767, 3) := dk_17 127 255 (dk_at dksX0_askedCopies_1 21 rfl rfl)
theorem dX0_askedCopies_48 : decode cX0_askedCopies 48 = .ok (.ixor, 1) := dk_130 (dk_at dksX0_askedCopies_2 0 rfl rfl)
theorem dX0_askedCopies_49 : decode cX0_askedCopies 49 = .ok (.iload 4, 2) := dk_21 4 (dk_at dksX0_askedCopies_2 1 rfl rfl)
theorem dX0_askedCopies_51 : decode cX0_askedCopies 51 = .ok (.ixor, 1) := dk_130 (dk_at dksX0_askedCopies_2 3 rfl rfl)
theorem dX0_askedCopies_52 : decode cX0_askedCopies 52 = .ok (.istore 5, 2) := dk_54 5 (dk_at dksX0_askedCopies_2 4 rfl rfl)
theorem dX0_askedCopies_54 : decode cX0_askedCopies 54 = .ok (.iconst 0, 1) := dk_3 (dk_at dksX0_askedCopies_2 6 rfl rfl)
theorem dX0_askedCopies_55 : decode cX0_askedCopies 55 = .ok (.istore 6, 2) := dk_54 6 (dk_at dksX0_askedCopies_2 7 rfl rfl)
theorem dX0_askedCopies_57 : decode cX0_askedCopies 57 = .ok (.iconst 0, 1) := dk_3 (dk_at dksX0_askedCopies_2 9 rfl rfl)
theorem dX0_askedCopies_58 : decode cX0_askedCopies 58 = .ok (.istore 7, 2) := dk_54 7 (dk_at dksX0_askedCopies_2 10 rfl rfl)
theorem dX0_askedCopies_60 : decode cX0_askedCopies 60 = .ok (.iload 7, 2) := dk_21 7 (dk_at dksX0_askedCopies_2 12 rfl rfl)
theorem dX0_askedCopies_62 : decode cX0_askedCopies 62 = .ok (.bipush 32, 2) := dk_16 32 (dk_at dksX0_askedCopies_2 14 rfl rfl)
theorem dX0_askedCopies_64 : decode cX0_askedCopies 64 = .ok (.if_icmp .ge 29, 3) := dk_162 0 29 (dk_at dksX0_askedCopies_2 16 rfl rfl)
theorem dX0_askedCopies_67 : decode cX0_askedCopies 67 = .ok (.iload 6, 2) := dk_21 6 (dk_at dksX0_askedCopies_2 19 rfl rfl)
theorem dX0_askedCopies_69 : decode cX0_askedCopies 69 = .ok (.iload 7, 2) := dk_21 7 (dk_at dksX0_askedCopies_2 21 rfl rfl)
theorem dX0_askedCopies_71 : decode cX0_askedCopies 71 = .ok (.invokestatic 46, 3) := dk_184 0 46 (dk_at dksX0_askedCopies_3 0 rfl rfl)
theorem dX0_askedCopies_74 : decode cX0_askedCopies 74 = .ok (.iload 5, 2) := dk_21 5 (dk_at dksX0_askedCopies_3 3 rfl rfl)
theorem dX0_askedCopies_76 : decode cX0_askedCopies 76 = .ok (.if_icmp .ne 7, 3) := dk_160 0 7 (dk_at dksX0_askedCopies_3 5 rfl rfl)
theorem dX0_askedCopies_79 : decode cX0_askedCopies 79 = .ok (.iconst 1, 1) := dk_4 (dk_at dksX0_askedCopies_3 8 rfl rfl)
theorem dX0_askedCopies_80 : decode cX0_askedCopies 80 = .ok (.goto 4, 3) := dk_167 0 4 (dk_at dksX0_askedCopies_3 9 rfl rfl)
theorem dX0_askedCopies_83 : decode cX0_askedCopies 83 = .ok (.iconst 0, 1) := dk_3 (dk_at dksX0_askedCopies_3 12 rfl rfl)
theorem dX0_askedCopies_84 : decode cX0_askedCopies 84 = .ok (.ior, 1) := dk_128 (dk_at dksX0_askedCopies_3 13 rfl rfl)
theorem dX0_askedCopies_85 : decode cX0_askedCopies 85 = .ok (.istore 6, 2) := dk_54 6 (dk_at dksX0_askedCopies_3 14 rfl rfl)
theorem dX0_askedCopies_87 : decode cX0_askedCopies 87 = .ok (.iinc 7 1, 3) := dk_132 7 1 (dk_at dksX0_askedCopies_3 16 rfl rfl)
theorem dX0_askedCopies_90 : decode cX0_askedCopies 90 = .ok (.goto (-30), 3) := dk_167 255 226 (dk_at dksX0_askedCopies_3 19 rfl rfl)
theorem dX0_askedCopies_93 : decode cX0_askedCopies 93 = .ok (.iload 6, 2) := dk_21 6 (dk_at dksX0_askedCopies_3 22 rfl rfl)
theorem dX0_askedCopies_95 : decode cX0_askedCopies 95 = .ok (.ifCond .ne 33, 3) := dk_154 0 33 (dk_at dksX0_askedCopies_4 0 rfl rfl)
theorem dX0_askedCopies_98 : decode cX0_askedCopies 98 = .ok (.aload_n 1, 1) := dk_43 (dk_at dksX0_askedCopies_4 3 rfl rfl)
theorem dX0_askedCopies_99 : decode cX0_askedCopies 99 = .ok (.iload_n 2, 1) := dk_28 (dk_at dksX0_askedCopies_4 4 rfl rfl)
theorem dX0_askedCopies_100 : decode cX0_askedCopies 100 = .ok (.invokestatic 46, 3) := dk_184 0 46 (dk_at dksX0_askedCopies_4 5 rfl rfl)
theorem dX0_askedCopies_103 : decode cX0_askedCopies 103 = .ok (.iload 5, 2) := dk_21 5 (dk_at dksX0_askedCopies_4 8 rfl rfl)
theorem dX0_askedCopies_105 : decode cX0_askedCopies 105 = .ok (.invokevirtual 24, 3) := dk_182 0 24 (dk_at dksX0_askedCopies_4 10 rfl rfl)
theorem dX0_askedCopies_108 : decode cX0_askedCopies 108 = .ok (.iload_n 2, 1) := dk_28 (dk_at dksX0_askedCopies_4 13 rfl rfl)
theorem dX0_askedCopies_109 : decode cX0_askedCopies 109 = .ok (.if_icmp .ne 17, 3) := dk_160 0 17 (dk_at dksX0_askedCopies_4 14 rfl rfl)
theorem dX0_askedCopies_112 : decode cX0_askedCopies 112 = .ok (.aload_n 1, 1) := dk_43 (dk_at dksX0_askedCopies_4 17 rfl rfl)
theorem dX0_askedCopies_113 : decode cX0_askedCopies 113 = .ok (.iload 5, 2) := dk_21 5 (dk_at dksX0_askedCopies_4 18 rfl rfl)
theorem dX0_askedCopies_115 : decode cX0_askedCopies 115 = .ok (.iload_n 2, 1) := dk_28 (dk_at dksX0_askedCopies_4 20 rfl rfl)
theorem dX0_askedCopies_116 : decode cX0_askedCopies 116 = .ok (.invokestatic 46, 3) := dk_184 0 46 (dk_at dksX0_askedCopies_4 21 rfl rfl)
theorem dX0_askedCopies_119 : decode cX0_askedCopies 119 = .ok (.invokevirtual 24, 3) := dk_182 0 24 (dk_at dksX0_askedCopies_5 0 rfl rfl)
theorem dX0_askedCopies_122 : decode cX0_askedCopies 122 = .ok (.iload_n 2, 1) := dk_28 (dk_at dksX0_askedCopies_5 3 rfl rfl)
theorem dX0_askedCopies_123 : decode cX0_askedCopies 123 = .ok (.if_icmp .eq 5, 3) := dk_159 0 5 (dk_at dksX0_askedCopies_5 4 rfl rfl)
theorem dX0_askedCopies_126 : decode cX0_askedCopies 126 = .ok (.iconst 0, 1) := dk_3 (dk_at dksX0_askedCopies_5 7 rfl rfl)
theorem dX0_askedCopies_127 : decode cX0_askedCopies 127 = .ok (.ireturn, 1) := dk_172 (dk_at dksX0_askedCopies_5 8 rfl rfl)
theorem dX0_askedCopies_128 : decode cX0_askedCopies 128 = .ok (.aload_n 1, 1) := dk_43 (dk_at dksX0_askedCopies_5 9 rfl rfl)
theorem dX0_askedCopies_129 : decode cX0_askedCopies 129 = .ok (.iload_n 2, 1) := dk_28 (dk_at dksX0_askedCopies_5 10 rfl rfl)
theorem dX0_askedCopies_130 : decode cX0_askedCopies 130 = .ok (.invokestatic 46, 3) := dk_184 0 46 (dk_at dksX0_askedCopies_5 11 rfl rfl)
theorem dX0_askedCopies_133 : decode cX0_askedCopies 133 = .ok (.iload 4, 2) := dk_21 4 (dk_at dksX0_askedCopies_5 14 rfl rfl)
theorem dX0_askedCopies_135 : decode cX0_askedCopies 135 = .ok (.ixor, 1) := dk_130 (dk_at dksX0_askedCopies_5 16 rfl rfl)
theorem dX0_askedCopies_136 : decode cX0_askedCopies 136 = .ok (.iload_n 3, 1) := dk_29 (dk_at dksX0_askedCopies_5 17 rfl rfl)
theorem dX0_askedCopies_137 : decode cX0_askedCopies 137 = .ok (.invokestatic 46, 3) := dk_184 0 46 (dk_at dksX0_askedCopies_5 18 rfl rfl)
theorem dX0_askedCopies_140 : decode cX0_askedCopies 140 = .ok (.bipush 7, 2) := dk_16 7 (dk_at dksX0_askedCopies_5 21 rfl rfl)
theorem dX0_askedCopies_142 : decode cX0_askedCopies 142 = .ok (.ixor, 1) := dk_130 (dk_at dksX0_askedCopies_5 23 rfl rfl)
theorem dX0_askedCopies_143 : decode cX0_askedCopies 143 = .ok (.invokevirtual 24, 3) := dk_182 0 24 (dk_at dksX0_askedCopies_6 0 rfl rfl)
theorem dX0_askedCopies_146 : decode cX0_askedCopies 146 = .ok (.iload_n 2, 1) := dk_28 (dk_at dksX0_askedCopies_6 3 rfl rfl)
theorem dX0_askedCopies_147 : decode cX0_askedCopies 147 = .ok (.if_icmp .eq 5, 3) := dk_159 0 5 (dk_at dksX0_askedCopies_6 4 rfl rfl)
theorem dX0_askedCopies_150 : decode cX0_askedCopies 150 = .ok (.iconst 0, 1) := dk_3 (dk_at dksX0_askedCopies_6 7 rfl rfl)
theorem dX0_askedCopies_151 : decode cX0_askedCopies 151 = .ok (.ireturn, 1) := dk_172 (dk_at dksX0_askedCopies_6 8 rfl rfl)
theorem dX0_askedCopies_152 : decode cX0_askedCopies 152 = .ok (.aload_n 1, 1) := dk_43 (dk_at dksX0_askedCopies_6 9 rfl rfl)
theorem dX0_askedCopies_153 : decode cX0_askedCopies 153 = .ok (.iload_n 2, 1) := dk_28 (dk_at dksX0_askedCopies_6 10 rfl rfl)
theorem dX0_askedCopies_154 : decode cX0_askedCopies 154 = .ok (.invokestatic 46, 3) := dk_184 0 46 (dk_at dksX0_askedCopies_6 11 rfl rfl)
theorem dX0_askedCopies_157 : decode cX0_askedCopies 157 = .ok (.iload 4, 2) := dk_21 4 (dk_at dksX0_askedCopies_6 14 rfl rfl)
theorem dX0_askedCopies_159 : decode cX0_askedCopies 159 = .ok (.ixor, 1) := dk_130 (dk_at dksX0_askedCopies_6 16 rfl rfl)
theorem dX0_askedCopies_160 : decode cX0_askedCopies 160 = .ok (.iload_n 3, 1) := dk_29 (dk_at dksX0_askedCopies_6 17 rfl rfl)
theorem dX0_askedCopies_161 : decode cX0_askedCopies 161 = .ok (.invokestatic 46, 3) := dk_184 0 46 (dk_at dksX0_askedCopies_6 18 rfl rfl)
theorem dX0_askedCopies_164 : decode cX0_askedCopies 164 = .ok (.iload 4, 2) := dk_21 4 (dk_at dksX0_askedCopies_6 21 rfl rfl)
theorem dX0_askedCopies_166 : decode cX0_askedCopies 166 = .ok (.ixor, 1) := dk_130 (dk_at dksX0_askedCopies_6 23 rfl rfl)
theorem dX0_askedCopies_167 : decode cX0_askedCopies 167 = .ok (.invokevirtual 24, 3) := dk_182 0 24 (dk_at dksX0_askedCopies_7 0 rfl rfl)
theorem dX0_askedCopies_170 : decode cX0_askedCopies 170 = .ok (.iload_n 2, 1) := dk_28 (dk_at dksX0_askedCopies_7 3 rfl rfl)
theorem dX0_askedCopies_171 : decode cX0_askedCopies 171 = .ok (.iload_n 3, 1) := dk_29 (dk_at dksX0_askedCopies_7 4 rfl rfl)
theorem dX0_askedCopies_172 : decode cX0_askedCopies 172 = .ok (.invokestatic 49, 3) := dk_184 0 49 (dk_at dksX0_askedCopies_7 5 rfl rfl)
theorem dX0_askedCopies_175 : decode cX0_askedCopies 175 = .ok (.if_icmp .eq 5, 3) := dk_159 0 5 (dk_at dksX0_askedCopies_7 8 rfl rfl)
theorem dX0_askedCopies_178 : decode cX0_askedCopies 178 = .ok (.iconst 0, 1) := dk_3 (dk_at dksX0_askedCopies_7 11 rfl rfl)
theorem dX0_askedCopies_179 : decode cX0_askedCopies 179 = .ok (.ireturn, 1) := dk_172 (dk_at dksX0_askedCopies_7 12 rfl rfl)
theorem dX0_askedCopies_180 : decode cX0_askedCopies 180 = .ok (.aload_n 1, 1) := dk_43 (dk_at dksX0_askedCopies_7 13 rfl rfl)
theorem dX0_askedCopies_181 : decode cX0_askedCopies 181 = .ok (.iload_n 2, 1) := dk_28 (dk_at dksX0_askedCopies_7 14 rfl rfl)
theorem dX0_askedCopies_182 : decode cX0_askedCopies 182 = .ok (.invokestatic 46, 3) := dk_184 0 46 (dk_at dksX0_askedCopies_7 15 rfl rfl)
theorem dX0_askedCopies_185 : decode cX0_askedCopies 185 = .ok (.ldc 54, 2) := dk_18 54 (dk_at dksX0_askedCopies_7 18 rfl rfl)
theorem dX0_askedCopies_187 : decode cX0_askedCopies 187 = .ok (.ixor, 1) := dk_130 (dk_at dksX0_askedCopies_7 20 rfl rfl)
theorem dX0_askedCopies_188 : decode cX0_askedCopies 188 = .ok (.iload_n 3, 1) := dk_29 (dk_at dksX0_askedCopies_7 21 rfl rfl)
theorem dX0_askedCopies_189 : decode cX0_askedCopies 189 = .ok (.invokestatic 46, 3) := dk_184 0 46 (dk_at dksX0_askedCopies_8 0 rfl rfl)
theorem dX0_askedCopies_192 : decode cX0_askedCopies 192 = .ok (.ldc 54, 2) := dk_18 54 (dk_at dksX0_askedCopies_8 3 rfl rfl)
theorem dX0_askedCopies_194 : decode cX0_askedCopies 194 = .ok (.ixor, 1) := dk_130 (dk_at dksX0_askedCopies_8 5 rfl rfl)
theorem dX0_askedCopies_195 : decode cX0_askedCopies 195 = .ok (.invokevirtual 24, 3) := dk_182 0 24 (dk_at dksX0_askedCopies_8 6 rfl rfl)
theorem dX0_askedCopies_198 : decode cX0_askedCopies 198 = .ok (.iconst (-1), 1) := dk_2 (dk_at dksX0_askedCopies_8 9 rfl rfl)
theorem dX0_askedCopies_199 : decode cX0_askedCopies 199 = .ok (.if_icmp .ne 31, 3) := dk_160 0 31 (dk_at dksX0_askedCopies_8 10 rfl rfl)
theorem dX0_askedCopies_202 : decode cX0_askedCopies 202 = .ok (.aload_n 1, 1) := dk_43 (dk_at dksX0_askedCopies_8 13 rfl rfl)
theorem dX0_askedCopies_203 : decode cX0_askedCopies 203 = .ok (.iload_n 2, 1) := dk_28 (dk_at dksX0_askedCopies_8 14 rfl rfl)
theorem dX0_askedCopies_204 : decode cX0_askedCopies 204 = .ok (.invokestatic 46, 3) := dk_184 0 46 (dk_at dksX0_askedCopies_8 15 rfl rfl)
theorem dX0_askedCopies_207 : decode cX0_askedCopies 207 = .ok (.sipush 21522, 3) := dk_17 84 18 (dk_at dksX0_askedCopies_8 18 rfl rfl)
theorem dX0_askedCopies_210 : decode cX0_askedCopies 210 = .ok (.ixor, 1) := dk_130 (dk_at dksX0_askedCopies_8 21 rfl rfl)
theorem dX0_askedCopies_211 : decode cX0_askedCopies 211 = .ok (.iload_n 2, 1) := dk_28 (dk_at dksX0_askedCopies_8 22 rfl rfl)
theorem dX0_askedCopies_212 : decode cX0_askedCopies 212 = .ok (.invokestatic 46, 3) := dk_184 0 46 (dk_at dksX0_askedCopies_9 0 rfl rfl)
theorem dX0_askedCopies_215 : decode cX0_askedCopies 215 = .ok (.sipush 21522, 3) := dk_17 84 18 (dk_at dksX0_askedCopies_9 3 rfl rfl)
theorem dX0_askedCopies_218 : decode cX0_askedCopies 218 = .ok (.ixor, 1) := dk_130 (dk_at dksX0_askedCopies_9 6 rfl rfl)
theorem dX0_askedCopies_219 : decode cX0_askedCopies 219 = .ok (.invokevirtual 24, 3) := dk_182 0 24 (dk_at dksX0_askedCopies_9 7 rfl rfl)
theorem dX0_askedCopies_222 : decode cX0_askedCopies 222 = .ok (.iload_n 2, 1) := dk_28 (dk_at dksX0_askedCopies_9 10 rfl rfl)
theorem dX0_askedCopies_223 : decode cX0_askedCopies 223 = .ok (.if_icmp .ne 7, 3) := dk_160 0 7 (dk_at dksX0_askedCopies_9 11 rfl rfl)
theorem dX0_askedCopies_226 : decode cX0_askedCopies 226 = .ok (.iconst 1, 1) := dk_4 (dk_at dksX0_askedCopies_9 14 rfl rfl)
theorem dX0_askedCopies_227 : decode cX0_askedCopies 227 = .ok (.goto 4, 3) := dk_167 0 4 (dk_at dksX0_askedCopies_9 15 rfl rfl)
theorem dX0_askedCopies_230 : decode cX0_askedCopies 230 = .ok (.iconst 0, 1) := dk_3 (dk_at dksX0_askedCopies_9 18 rfl rfl)
theorem dX0_askedCopies_231 : decode cX0_askedCopies 231 = .ok (.ireturn, 1) := dk_172 (dk_at dksX0_askedCopies_9 19 rfl rfl)
theorem q1 : (Jvm.Cond.initialized "FormatWordLaw") ∈ lw_all := lw_g (lw_at lw_m0 0 rfl) rfl
theorem q12 : (Jvm.Cond.methodLink "FormatWordLaw" (55 : Nat) ({ cls := "FormatWordLaw", name := "elder", desc := "([I)Z" } : Jvm.MethodName)) ∈ lw_all := lw_g (lw_at lw_m0 11 rfl) rfl
theorem q13 : (Jvm.Cond.static ({ cls := "FormatWordLaw", name := "elder", desc := "([I)Z" } : Jvm.MethodName)) ∈ lw_all := lw_g (lw_at lw_m0 12 rfl) rfl
theorem q14 : (Jvm.Cond.code ({ cls := "FormatWordLaw", name := "elder", desc := "([I)Z" } : Jvm.MethodName) method_5_code (7 : Nat) (Option.some Jvm.ClassFile.FieldType.boolean)) ∈ lw_all := lw_g (lw_at lw_m0 13 rfl) rfl
theorem q15 : (Jvm.Cond.classLink "FormatWordLaw" (14 : Nat) "FormatWord") ∈ lw_all := lw_g (lw_at lw_m0 14 rfl) rfl
theorem q17 : (Jvm.Cond.methodLink "FormatWordLaw" (16 : Nat) ({ cls := "FormatWord", name := "<init>", desc := "()V" } : Jvm.MethodName)) ∈ lw_all := lw_g (lw_at lw_m0 16 rfl) rfl
theorem q24 : (Jvm.Cond.methodLink "FormatWordLaw" (7 : Nat) ({ cls := "FormatWordLaw", name := "cell", desc := "([II)I" } : Jvm.MethodName)) ∈ lw_all := lw_g (lw_at lw_m0 23 rfl) rfl
theorem q25 : (Jvm.Cond.static ({ cls := "FormatWordLaw", name := "cell", desc := "([II)I" } : Jvm.MethodName)) ∈ lw_all := lw_g (lw_at lw_m0 24 rfl) rfl
theorem q26 : (Jvm.Cond.code ({ cls := "FormatWordLaw", name := "cell", desc := "([II)I" } : Jvm.MethodName) method_2_code (2 : Nat) (Option.some Jvm.ClassFile.FieldType.int)) ∈ lw_all := lw_g (lw_at lw_m0 25 rfl) rfl
theorem q27 : (Jvm.Cond.methodLink "FormatWordLaw" (17 : Nat) ({ cls := "FormatWordLaw", name := "word", desc := "(I)I" } : Jvm.MethodName)) ∈ lw_all := lw_g (lw_at lw_m0 26 rfl) rfl
theorem q28 : (Jvm.Cond.static ({ cls := "FormatWordLaw", name := "word", desc := "(I)I" } : Jvm.MethodName)) ∈ lw_all := lw_g (lw_at lw_m0 27 rfl) rfl
theorem q29 : (Jvm.Cond.code ({ cls := "FormatWordLaw", name := "word", desc := "(I)I" } : Jvm.MethodName) method_3_code (3 : Nat) (Option.some Jvm.ClassFile.FieldType.int)) ∈ lw_all := lw_g (lw_at lw_m0 28 rfl) rfl
theorem q30 : (Jvm.Cond.methodLink "FormatWordLaw" (21 : Nat) ({ cls := "FormatWordLaw", name := "spoilt", desc := "([II)I" } : Jvm.MethodName)) ∈ lw_all := lw_g (lw_at lw_m0 29 rfl) rfl
theorem q31 : (Jvm.Cond.static ({ cls := "FormatWordLaw", name := "spoilt", desc := "([II)I" } : Jvm.MethodName)) ∈ lw_all := lw_g (lw_at lw_m0 30 rfl) rfl
theorem q32 : (Jvm.Cond.code ({ cls := "FormatWordLaw", name := "spoilt", desc := "([II)I" } : Jvm.MethodName) method_4_code (4 : Nat) (Option.some Jvm.ClassFile.FieldType.int)) ∈ lw_all := lw_g (lw_at lw_m0 31 rfl) rfl
theorem q33 : (Jvm.Cond.constant "FormatWordLaw" (13 : Nat) (2147483647 : Int32)) ∈ lw_all := lw_g (lw_at lw_m0 32 rfl) rfl
theorem q34 : (Jvm.Cond.methodLink "FormatWordLaw" (24 : Nat) ({ cls := "FormatWord", name := "read", desc := "(II)I" } : Jvm.MethodName)) ∈ lw_all := lw_g (lw_at lw_m0 33 rfl) rfl
theorem q147 : (Jvm.Cond.methodLink "FormatWordLaw" (28 : Nat) ({ cls := "FormatWord", name := "apart", desc := "(II)I" } : Jvm.MethodName)) ∈ lw_all := lw_g (lw_at lw_m0 146 rfl) rfl
theorem q152 : (Jvm.Cond.methodLink "FormatWordLaw" (59 : Nat) ({ cls := "FormatWordLaw", name := "askedApart", desc := "([I)Z" } : Jvm.MethodName)) ∈ lw_all := lw_g (lw_at lw_m0 151 rfl) rfl
theorem q153 : (Jvm.Cond.static ({ cls := "FormatWordLaw", name := "askedApart", desc := "([I)Z" } : Jvm.MethodName)) ∈ lw_all := lw_g (lw_at lw_m0 152 rfl) rfl
theorem q154 : (Jvm.Cond.code ({ cls := "FormatWordLaw", name := "askedApart", desc := "([I)Z" } : Jvm.MethodName) method_9_code (4 : Nat) (Option.some Jvm.ClassFile.FieldType.boolean)) ∈ lw_all := lw_g (lw_at lw_m0 153 rfl) rfl
theorem q155 : (Jvm.Cond.methodLink "FormatWordLaw" (31 : Nat) ({ cls := "FormatWordLaw", name := "askedCell", desc := "([II)I" } : Jvm.MethodName)) ∈ lw_all := lw_g (lw_at lw_m0 154 rfl) rfl
theorem q156 : (Jvm.Cond.static ({ cls := "FormatWordLaw", name := "askedCell", desc := "([II)I" } : Jvm.MethodName)) ∈ lw_all := lw_g (lw_at lw_m0 155 rfl) rfl
theorem q157 : (Jvm.Cond.code ({ cls := "FormatWordLaw", name := "askedCell", desc := "([II)I" } : Jvm.MethodName) method_6_code (2 : Nat) (Option.some Jvm.ClassFile.FieldType.int)) ∈ lw_all := lw_g (lw_at lw_m0 156 rfl) rfl
theorem q158 : (Jvm.Cond.methodLink "FormatWordLaw" (34 : Nat) ({ cls := "FormatWordLaw", name := "askedBits", desc := "(I)I" } : Jvm.MethodName)) ∈ lw_all := lw_g (lw_at lw_m0 157 rfl) rfl
theorem q159 : (Jvm.Cond.static ({ cls := "FormatWordLaw", name := "askedBits", desc := "(I)I" } : Jvm.MethodName)) ∈ lw_all := lw_g (lw_at lw_m0 158 rfl) rfl
theorem q160 : (Jvm.Cond.code ({ cls := "FormatWordLaw", name := "askedBits", desc := "(I)I" } : Jvm.MethodName) method_8_code (3 : Nat) (Option.some Jvm.ClassFile.FieldType.int)) ∈ lw_all := lw_g (lw_at lw_m0 159 rfl) rfl
theorem q161 : (Jvm.Cond.constant "FormatWordLaw" (39 : Nat) (-2147483648 : Int32)) ∈ lw_all := lw_g (lw_at lw_m0 160 rfl) rfl
theorem q162 : (Jvm.Cond.methodLink "FormatWordLaw" (62 : Nat) ({ cls := "FormatWordLaw", name := "askedPublished", desc := "()Z" } : Jvm.MethodName)) ∈ lw_all := lw_g (lw_at lw_m0 161 rfl) rfl
theorem q163 : (Jvm.Cond.static ({ cls := "FormatWordLaw", name := "askedPublished", desc := "()Z" } : Jvm.MethodName)) ∈ lw_all := lw_g (lw_at lw_m0 162 rfl) rfl
theorem q164 : (Jvm.Cond.code ({ cls := "FormatWordLaw", name := "askedPublished", desc := "()Z" } : Jvm.MethodName) method_10_code (3 : Nat) (Option.some Jvm.ClassFile.FieldType.boolean)) ∈ lw_all := lw_g (lw_at lw_m0 163 rfl) rfl
theorem q166 : (Jvm.Cond.methodLink "FormatWordLaw" (66 : Nat) ({ cls := "FormatWordLaw", name := "askedNearest", desc := "([I)Z" } : Jvm.MethodName)) ∈ lw_all := lw_g (lw_at lw_m0 165 rfl) rfl
theorem q167 : (Jvm.Cond.static ({ cls := "FormatWordLaw", name := "askedNearest", desc := "([I)Z" } : Jvm.MethodName)) ∈ lw_all := lw_g (lw_at lw_m0 166 rfl) rfl
theorem q168 : (Jvm.Cond.code ({ cls := "FormatWordLaw", name := "askedNearest", desc := "([I)Z" } : Jvm.MethodName) method_11_code (5 : Nat) (Option.some Jvm.ClassFile.FieldType.boolean)) ∈ lw_all := lw_g (lw_at lw_m0 167 rfl) rfl
theorem q169 : (Jvm.Cond.methodLink "FormatWordLaw" (40 : Nat) ({ cls := "FormatWordLaw", name := "askedDue", desc := "(II)I" } : Jvm.MethodName)) ∈ lw_all := lw_g (lw_at lw_m0 168 rfl) rfl
theorem q170 : (Jvm.Cond.static ({ cls := "FormatWordLaw", name := "askedDue", desc := "(II)I" } : Jvm.MethodName)) ∈ lw_all := lw_g (lw_at lw_m0 169 rfl) rfl
theorem q171 : (Jvm.Cond.code ({ cls := "FormatWordLaw", name := "askedDue", desc := "(II)I" } : Jvm.MethodName) method_12_code (3 : Nat) (Option.some Jvm.ClassFile.FieldType.int)) ∈ lw_all := lw_g (lw_at lw_m0 170 rfl) rfl
theorem q172 : (Jvm.Cond.methodLink "FormatWordLaw" (43 : Nat) ({ cls := "FormatWordLaw", name := "askedNear", desc := "(II)I" } : Jvm.MethodName)) ∈ lw_all := lw_g (lw_at lw_m0 171 rfl) rfl
theorem q173 : (Jvm.Cond.static ({ cls := "FormatWordLaw", name := "askedNear", desc := "(II)I" } : Jvm.MethodName)) ∈ lw_all := lw_g (lw_at lw_m0 172 rfl) rfl
theorem q174 : (Jvm.Cond.code ({ cls := "FormatWordLaw", name := "askedNear", desc := "(II)I" } : Jvm.MethodName) method_13_code (6 : Nat) (Option.some Jvm.ClassFile.FieldType.int)) ∈ lw_all := lw_g (lw_at lw_m0 173 rfl) rfl
theorem q175 : (Jvm.Cond.methodLink "FormatWordLaw" (46 : Nat) ({ cls := "FormatWordLaw", name := "askedWord", desc := "(I)I" } : Jvm.MethodName)) ∈ lw_all := lw_g (lw_at lw_m0 174 rfl) rfl
theorem q176 : (Jvm.Cond.static ({ cls := "FormatWordLaw", name := "askedWord", desc := "(I)I" } : Jvm.MethodName)) ∈ lw_all := lw_g (lw_at lw_m0 175 rfl) rfl
theorem q177 : (Jvm.Cond.code ({ cls := "FormatWordLaw", name := "askedWord", desc := "(I)I" } : Jvm.MethodName) method_7_code (3 : Nat) (Option.some Jvm.ClassFile.FieldType.int)) ∈ lw_all := lw_g (lw_at lw_m0 176 rfl) rfl
theorem q178 : (Jvm.Cond.methodLink "FormatWordLaw" (49 : Nat) ({ cls := "java/lang/Math", name := "min", desc := "(II)I" } : Jvm.MethodName)) ∈ lw_all := lw_g (lw_at lw_m0 177 rfl) rfl
theorem q181 : (Jvm.Cond.methodLink "FormatWordLaw" (69 : Nat) ({ cls := "FormatWordLaw", name := "askedCopies", desc := "([I)Z" } : Jvm.MethodName)) ∈ lw_all := lw_g (lw_at lw_m0 180 rfl) rfl
theorem q182 : (Jvm.Cond.static ({ cls := "FormatWordLaw", name := "askedCopies", desc := "([I)Z" } : Jvm.MethodName)) ∈ lw_all := lw_g (lw_at lw_m0 181 rfl) rfl
theorem q183 : (Jvm.Cond.code ({ cls := "FormatWordLaw", name := "askedCopies", desc := "([I)Z" } : Jvm.MethodName) method_14_code (8 : Nat) (Option.some Jvm.ClassFile.FieldType.boolean)) ∈ lw_all := lw_g (lw_at lw_m0 182 rfl) rfl
theorem q184 : (Jvm.Cond.constant "FormatWordLaw" (54 : Nat) (491520 : Int32)) ∈ lw_all := lw_g (lw_at lw_m0 183 rfl) rfl
/-! the law's own entry -/
set_option maxRecDepth 100000
abbrev cL_law : ByteArray := code
def dkwL_law_1 : List UInt8 := [153, 0, 14, 42, 184, 0, 69, 153, 0, 7, 4, 167, 0, 4, 3, 172]
abbrev dktL_law_1 : List UInt8 := dkwL_law_1 ++ []
def dkwL_law_0 : List UInt8 := [42, 184, 0, 55, 153, 0, 34, 42, 184, 0, 59, 153, 0, 27, 184, 0, 62, 153, 0, 21, 42, 184, 0, 66]
abbrev dktL_law_0 : List UInt8 := dkwL_law_0 ++ dktL_law_1
theorem dksL_law_0 : cL_law.data.toList.drop 0 = dktL_law_0 := by decide +kernel
theorem dksL_law_1 : cL_law.data.toList.drop 24 = dktL_law_1 := dk_seg dksL_law_0 24 rfl rfl
theorem dL_law_0 : decode cL_law 0 = .ok (.aload_n 0, 1) := dk_42 (dk_at dksL_law_0 0 rfl rfl)
theorem dL_law_1 : decode cL_law 1 = .ok (.invokestatic 55, 3) := dk_184 0 55 (dk_at dksL_law_0 1 rfl rfl)
theorem dL_law_4 : decode cL_law 4 = .ok (.ifCond .eq 34, 3) := dk_153 0 34 (dk_at dksL_law_0 4 rfl rfl)
theorem dL_law_7 : decode cL_law 7 = .ok (.aload_n 0, 1) := dk_42 (dk_at dksL_law_0 7 rfl rfl)
theorem dL_law_8 : decode cL_law 8 = .ok (.invokestatic 59, 3) := dk_184 0 59 (dk_at dksL_law_0 8 rfl rfl)
theorem dL_law_11 : decode cL_law 11 = .ok (.ifCond .eq 27, 3) := dk_153 0 27 (dk_at dksL_law_0 11 rfl rfl)
theorem dL_law_14 : decode cL_law 14 = .ok (.invokestatic 62, 3) := dk_184 0 62 (dk_at dksL_law_0 14 rfl rfl)
theorem dL_law_17 : decode cL_law 17 = .ok (.ifCond .eq 21, 3) := dk_153 0 21 (dk_at dksL_law_0 17 rfl rfl)
theorem dL_law_20 : decode cL_law 20 = .ok (.aload_n 0, 1) := dk_42 (dk_at dksL_law_0 20 rfl rfl)
theorem dL_law_21 : decode cL_law 21 = .ok (.invokestatic 66, 3) := dk_184 0 66 (dk_at dksL_law_0 21 rfl rfl)
theorem dL_law_24 : decode cL_law 24 = .ok (.ifCond .eq 14, 3) := dk_153 0 14 (dk_at dksL_law_1 0 rfl rfl)
theorem dL_law_27 : decode cL_law 27 = .ok (.aload_n 0, 1) := dk_42 (dk_at dksL_law_1 3 rfl rfl)
theorem dL_law_28 : decode cL_law 28 = .ok (.invokestatic 69, 3) := dk_184 0 69 (dk_at dksL_law_1 4 rfl rfl)
theorem dL_law_31 : decode cL_law 31 = .ok (.ifCond .eq 7, 3) := dk_153 0 7 (dk_at dksL_law_1 7 rfl rfl)
theorem dL_law_34 : decode cL_law 34 = .ok (.iconst 1, 1) := dk_4 (dk_at dksL_law_1 10 rfl rfl)
theorem dL_law_35 : decode cL_law 35 = .ok (.goto 4, 3) := dk_167 0 4 (dk_at dksL_law_1 11 rfl rfl)
theorem dL_law_38 : decode cL_law 38 = .ok (.iconst 0, 1) := dk_3 (dk_at dksL_law_1 14 rfl rfl)
theorem dL_law_39 : decode cL_law 39 = .ok (.ireturn, 1) := dk_172 (dk_at dksL_law_1 15 rfl rfl)
theorem q165 : (Jvm.Cond.arrayClass Jvm.ClassFile.FieldType.int) ∈ lw_all := lw_g (lw_at lw_m0 164 rfl) rfl
set_option maxRecDepth 100000
theorem q187 : (Jvm.Cond.arrayOver (Jvm.ClassFile.FieldType.array Jvm.ClassFile.FieldType.int)) ∈ lw_tbl := lw_at lw_m0 186 rfl
end
section
/-! PURE: bits of a 32-bit number counted; Integer.bitCount's five steps count them; the published words -/
theorem nx_and (a b : Nat) : nI a &&& nI b = nI (a &&& b) := by
  apply Int32.toBitVec_inj.1
  show BitVec.ofNat 32 a &&& BitVec.ofNat 32 b = BitVec.ofNat 32 (a &&& b)
  apply BitVec.eq_of_getLsbD_eq
  intro i hi
  simp [hi]
theorem nx_xor (a b : Nat) : nI a ^^^ nI b = nI (a ^^^ b) := by
  apply Int32.toBitVec_inj.1
  show BitVec.ofNat 32 a ^^^ BitVec.ofNat 32 b = BitVec.ofNat 32 (a ^^^ b)
  apply BitVec.eq_of_getLsbD_eq
  intro i hi
  simp [hi]
theorem s_u : ∀ n, n < 32 → (((nI n).toUInt32 &&& Int32.toUInt32 31).toBitVec % 32).toNat = n := by decide +kernel
theorem wb_of32 (x : Int32) : ∃ n, n < 2 ^ 32 ∧ x = nI n := ⟨x.toBitVec.toNat, x.toBitVec.isLt, Int32.toBitVec_inj.mp (by show _ = BitVec.ofNat 32 _; simp)⟩
/-- the ones among the last k bits of n -/
def fw_pn : Nat → Nat → Nat
  | 0, _ => 0
  | k + 1, n => n % 2 + fw_pn k (n / 2)
/-- the ones of a 32-bit number -/
def fw_pc (x : Int32) : Nat := fw_pn 32 x.toBitVec.toNat
theorem fw_pn_s (k n : Nat) : fw_pn (k + 1) n = n % 2 + fw_pn k (n / 2) := rfl
theorem fw_pn_add (j k : Nat) : ∀ n, fw_pn (j + k) n = fw_pn j n + fw_pn k (n / 2 ^ j) := by
  induction j with
  | zero => intro n; simp [fw_pn]
  | succ j ih =>
    intro n
    have e : j + 1 + k = (j + k) + 1 := by omega
    rw [e, fw_pn_s, fw_pn_s, ih, Nat.div_div_eq_div_mul, ← Nat.pow_succ', Nat.add_assoc]
theorem fw_pn_mod (j : Nat) : ∀ n, fw_pn j (n % 2 ^ j) = fw_pn j n := by
  induction j with
  | zero => intro n; rfl
  | succ j ih =>
    intro n
    rw [fw_pn_s, fw_pn_s, ← ih (n / 2)]
    have e1 : n % 2 ^ (j + 1) % 2 = n % 2 := Nat.mod_mod_of_dvd n ⟨2 ^ j, Nat.pow_succ'⟩
    have e2 : n % 2 ^ (j + 1) / 2 = n / 2 % 2 ^ j := by
      rw [Nat.pow_succ', Nat.mod_mul_right_div_self]
    rw [e1, e2]
theorem fw_pn_le (k : Nat) : ∀ n, fw_pn k n ≤ k := by
  induction k with
  | zero => intro n; exact Nat.le_refl 0
  | succ k ih =>
    intro n
    rw [fw_pn_s]
    have := ih (n / 2)
    omega
theorem fw_pn_0 (k : Nat) : fw_pn k 0 = 0 := by
  induction k with
  | zero => rfl
  | succ k ih => rw [fw_pn_s, Nat.zero_div, ih]
theorem fw_pn_z (k : Nat) : ∀ n, n < 2 ^ k → fw_pn k n = 0 → n = 0 := by
  induction k with
  | zero => intro n h _; simpa using h
  | succ k ih =>
    intro n h h0
    rw [fw_pn_s] at h0
    have h1 : n / 2 < 2 ^ k := by
      rw [Nat.pow_succ] at h
      omega
    have := ih (n / 2) h1 (by omega)
    omega
theorem fw_pn_xor (k : Nat) : ∀ x y, fw_pn k (x ^^^ y) ≤ fw_pn k x + fw_pn k y := by
  induction k with
  | zero => intro x y; exact Nat.le_refl 0
  | succ k ih =>
    intro x y
    rw [fw_pn_s, fw_pn_s, fw_pn_s, Nat.xor_div_two]
    have h := ih (x / 2) (y / 2)
    have h2 : (x ^^^ y) % 2 ≤ x % 2 + y % 2 := by
      have := (Nat.xor_mod_two_eq_one (a := x) (b := y))
      omega
    omega
theorem fw_pc_n {n : Nat} (h : n < 2 ^ 32) : fw_pc (nI n) = fw_pn 32 n := by
  unfold fw_pc
  rw [pk_tn h]
theorem fw_pc_le (x : Int32) : fw_pc x ≤ 32 := fw_pn_le 32 _
theorem fw_pc_xor (x y : Int32) : fw_pc (x ^^^ y) ≤ fw_pc x + fw_pc y := by
  unfold fw_pc
  rw [Int32.toBitVec_xor, BitVec.toNat_xor]
  exact fw_pn_xor 32 _ _
theorem fw_pc_0 : fw_pc 0 = 0 := fw_pn_0 32
theorem fw_pc_z {x : Int32} (h : fw_pc x = 0) : x = 0 := by
  have h0 := fw_pn_z 32 _ x.toBitVec.isLt h
  apply Int32.toBitVec_inj.1
  apply BitVec.eq_of_toNat_eq
  rw [h0]
  rfl
theorem fw_x_z {x y : Int32} (h : x ^^^ y = 0) : x = y := by
  have e : (x ^^^ y) ^^^ y = 0 ^^^ y := by rw [h]
  rw [Int32.xor_assoc, Int32.xor_self, Int32.xor_zero, Int32.zero_xor] at e
  exact e
theorem fw_x_c (x y : Int32) : (x ^^^ y) ^^^ y = x := by
  rw [Int32.xor_assoc, Int32.xor_self, Int32.xor_zero]
/-- by way of a third number -/
theorem fw_tri (x y z : Int32) : fw_pc (x ^^^ y) ≤ fw_pc (x ^^^ z) + fw_pc (z ^^^ y) := by
  have e : x ^^^ y = (x ^^^ z) ^^^ (z ^^^ y) := by
    rw [Int32.xor_assoc, ← Int32.xor_assoc z z y, Int32.xor_self, Int32.zero_xor]
  rw [e]
  exact fw_pc_xor _ _
theorem fw_sym (x y : Int32) : fw_pc (x ^^^ y) = fw_pc (y ^^^ x) := by rw [Int32.xor_comm]
theorem fw_pc_ne {x y : Int32} (h : ¬ x = y) : 0 < fw_pc (x ^^^ y) := by
  rcases Nat.eq_zero_or_pos (fw_pc (x ^^^ y)) with e | e
  · exact absurd (fw_x_z (fw_pc_z e)) h
  · exact e
/-! the five steps -/
theorem fw_and_split {p q r t : Nat} (hp : p < 256) (hr : r < 256) : (256 * q + p) &&& (256 * t + r) = 256 * (q &&& t) + (p &&& r) := by
  have hpr : p &&& r < 2 ^ 8 := Nat.lt_of_le_of_lt Nat.and_le_left hp
  apply Nat.eq_of_testBit_eq
  intro j
  have e1 := Nat.testBit_two_pow_mul_add q (i := 8) (b := p) hp j
  have e2 := Nat.testBit_two_pow_mul_add t (i := 8) (b := r) hr j
  have e3 := Nat.testBit_two_pow_mul_add (q &&& t) (i := 8) (b := p &&& r) hpr j
  rw [Nat.testBit_and]
  rw [show (256 : Nat) = 2 ^ 8 from rfl, e1, e2, e3]
  by_cases hj : j < 8
  · simp [hj]
  · simp [hj]
theorem fw_b1 : ∀ a, a < 256 → ∀ e, e < 2 → (128 * e + a / 2) &&& 85 = (a / 2) &&& 85 := by decide +kernel
theorem fw_b2 : ∀ a, a < 256 → ∀ e, e < 4 → (64 * e + a / 4) &&& 51 = (a / 4) &&& 51 := by decide +kernel
theorem fw_b3 : ∀ a, a < 137 → ∀ e, e < 5 → (16 * e + a) &&& 15 = a &&& 15 := by decide +kernel
theorem fw_m1 {a b t : Nat} (ha : a < 256) : ((256 * b + a) / 2) &&& (256 * t + 85) = 256 * ((b / 2) &&& t) + ((a / 2) &&& 85) := by
  have e : (256 * b + a) / 2 = 256 * (b / 2) + (128 * (b % 2) + a / 2) := by omega
  rw [e, fw_and_split (by omega) (by omega), fw_b1 a ha (b % 2) (by omega)]
theorem fw_m2 {a b t : Nat} (ha : a < 256) : ((256 * b + a) / 4) &&& (256 * t + 51) = 256 * ((b / 4) &&& t) + ((a / 4) &&& 51) := by
  have e : (256 * b + a) / 4 = 256 * (b / 4) + (64 * (b % 4) + a / 4) := by omega
  rw [e, fw_and_split (by omega) (by omega), fw_b2 a ha (b % 4) (by omega)]
def fw_F1 (a : Nat) : Nat := a - ((a / 2) &&& 85)
def fw_F2 (y : Nat) : Nat := (y &&& 51) + ((y / 4) &&& 51)
def fw_F3 (z : Nat) : Nat := (z + z / 16) &&& 15
theorem fw_byte : ∀ a, a < 256 → fw_F1 a < 256 ∧ fw_F2 (fw_F1 a) ≤ 68 ∧ fw_F2 (fw_F1 a) % 16 ≤ 4 ∧ fw_F3 (fw_F2 (fw_F1 a)) = fw_pn 8 a := by decide +kernel
theorem fw_m3 {z w t : Nat} (hz : z ≤ 68) (hw : w % 16 ≤ 4) : ((256 * w + z) + (256 * w + z) / 16) &&& (256 * t + 15) = 256 * ((w + w / 16) &&& t) + fw_F3 z := by
  have e : (256 * w + z) + (256 * w + z) / 16 = 256 * (w + w / 16) + (16 * (w % 16) + (z + z / 16)) := by omega
  rw [e, fw_and_split (by omega) (by omega), fw_b3 (z + z / 16) (by omega) (w % 16) (by omega)]
  rfl
/-- four bytes -/
def fw_4 (a b c d : Nat) : Nat := 256 * (256 * (256 * d + c) + b) + a
theorem fw_s1 {a b c d : Nat} (ha : a < 256) (hb : b < 256) (hc : c < 256) (hd : d < 256) : fw_4 a b c d - (fw_4 a b c d / 2 &&& 1431655765) = fw_4 (fw_F1 a) (fw_F1 b) (fw_F1 c) (fw_F1 d) := by
  have e : fw_4 a b c d / 2 &&& 1431655765 = fw_4 (a / 2 &&& 85) (b / 2 &&& 85) (c / 2 &&& 85) (d / 2 &&& 85) := by
    have em : 1431655765 = 256 * (256 * (256 * 85 + 85) + 85) + 85 := by decide
    rw [em]
    unfold fw_4
    rw [fw_m1 ha, fw_m1 hb, fw_m1 hc]
  have l1 : a / 2 &&& 85 ≤ a / 2 := Nat.and_le_left
  have l2 : b / 2 &&& 85 ≤ b / 2 := Nat.and_le_left
  have l3 : c / 2 &&& 85 ≤ c / 2 := Nat.and_le_left
  have l4 : d / 2 &&& 85 ≤ d / 2 := Nat.and_le_left
  rw [e]
  unfold fw_4 fw_F1
  omega
theorem fw_s2 {a b c d : Nat} (ha : a < 256) (hb : b < 256) (hc : c < 256) (hd : d < 256) : (fw_4 a b c d &&& 858993459) + (fw_4 a b c d / 4 &&& 858993459) = fw_4 (fw_F2 a) (fw_F2 b) (fw_F2 c) (fw_F2 d) := by
  have em : 858993459 = 256 * (256 * (256 * 51 + 51) + 51) + 51 := by decide
  have e1 : fw_4 a b c d &&& 858993459 = fw_4 (a &&& 51) (b &&& 51) (c &&& 51) (d &&& 51) := by
    rw [em]
    unfold fw_4
    rw [fw_and_split ha (by decide), fw_and_split hb (by decide), fw_and_split hc (by decide)]
  have e2 : fw_4 a b c d / 4 &&& 858993459 = fw_4 (a / 4 &&& 51) (b / 4 &&& 51) (c / 4 &&& 51) (d / 4 &&& 51) := by
    rw [em]
    unfold fw_4
    rw [fw_m2 ha, fw_m2 hb, fw_m2 hc]
  rw [e1, e2]
  unfold fw_4 fw_F2
  omega
theorem fw_s3 {a b c d : Nat} (ha : a ≤ 68) (hb : b ≤ 68) (hc : c ≤ 68) (hd : d ≤ 68) (kb : b % 16 ≤ 4) (kc : c % 16 ≤ 4) (kd : d % 16 ≤ 4) : (fw_4 a b c d + fw_4 a b c d / 16) &&& 252645135 = fw_4 (fw_F3 a) (fw_F3 b) (fw_F3 c) (fw_F3 d) := by
  have em : 252645135 = 256 * (256 * (256 * 15 + 15) + 15) + 15 := by decide
  rw [em]
  unfold fw_4
  rw [fw_m3 ha (by omega), fw_m3 hb (by omega), fw_m3 hc (by omega)]
  rfl
theorem fw_s4 {a b c d : Nat} (ha : a ≤ 8) (hb : b ≤ 8) (hc : c ≤ 8) (hd : d ≤ 8) : (fw_4 a b c d + fw_4 a b c d / 256 + (fw_4 a b c d + fw_4 a b c d / 256) / 65536) % 64 = a + b + c + d := by
  have d1 : fw_4 a b c d / 256 = 256 * (256 * d + c) + b := by unfold fw_4; omega
  have d2 : (fw_4 a b c d + fw_4 a b c d / 256) / 65536 = 256 * d + (c + d) := by
    rw [d1]
    unfold fw_4
    omega
  rw [d2, d1]
  unfold fw_4
  omega
theorem fw_4_of {n : Nat} (h : n < 2 ^ 32) : n = fw_4 (n % 256) (n / 256 % 256) (n / 65536 % 256) (n / 16777216) := by
  unfold fw_4
  omega
theorem fw_4_pn {a b c d : Nat} (ha : a < 256) (hb : b < 256) (hc : c < 256) : fw_pn 32 (fw_4 a b c d) = fw_pn 8 a + fw_pn 8 b + fw_pn 8 c + fw_pn 8 d := by
  have e0 : fw_pn 32 (fw_4 a b c d) = fw_pn 8 (fw_4 a b c d) + fw_pn 24 (fw_4 a b c d / 256) := fw_pn_add 8 24 _
  have e1 : fw_pn 24 (fw_4 a b c d / 256) = fw_pn 8 (fw_4 a b c d / 256) + fw_pn 16 (fw_4 a b c d / 256 / 256) := fw_pn_add 8 16 _
  have e2 : fw_pn 16 (fw_4 a b c d / 256 / 256) = fw_pn 8 (fw_4 a b c d / 256 / 256) + fw_pn 8 (fw_4 a b c d / 256 / 256 / 256) := fw_pn_add 8 8 _
  have d1 : fw_4 a b c d / 256 = 256 * (256 * d + c) + b := by unfold fw_4; omega
  have d2 : fw_4 a b c d / 256 / 256 = 256 * d + c := by rw [d1]; omega
  have d3 : fw_4 a b c d / 256 / 256 / 256 = d := by rw [d2]; omega
  have m0 : fw_4 a b c d % 256 = a := by unfold fw_4; omega
  have m1 : (256 * (256 * d + c) + b) % 256 = b := by omega
  have m2 : (256 * d + c) % 256 = c := by omega
  have p0 : fw_pn 8 (fw_4 a b c d) = fw_pn 8 a := by rw [← fw_pn_mod 8 (fw_4 a b c d)]; show fw_pn 8 (fw_4 a b c d % 256) = _; rw [m0]
  have p1 : fw_pn 8 (256 * (256 * d + c) + b) = fw_pn 8 b := by rw [← fw_pn_mod 8 (256 * (256 * d + c) + b)]; show fw_pn 8 ((256 * (256 * d + c) + b) % 256) = _; rw [m1]
  have p2 : fw_pn 8 (256 * d + c) = fw_pn 8 c := by rw [← fw_pn_mod 8 (256 * d + c)]; show fw_pn 8 ((256 * d + c) % 256) = _; rw [m2]
  rw [e0, e1, e2, d3, d2, d1, p0, p1, p2]
  omega
theorem fw_4_lt {a b c d : Nat} (ha : a < 256) (hb : b < 256) (hc : c < 256) (hd : d < 256) : fw_4 a b c d < 2 ^ 32 := by
  unfold fw_4
  omega
/-- Integer.bitCount, as its bytecode computes it -/
theorem fw_bitCount (x : Int32) (x1 x2 x3 x4 x5 : Int32)
    (h1 : x1 = x - ((x.toUInt32 >>> ((1 : Int32).toUInt32 &&& Int32.toUInt32 31)).toInt32 &&& 1431655765))
    (h2 : x2 = (x1 &&& 858993459) + ((x1.toUInt32 >>> ((2 : Int32).toUInt32 &&& Int32.toUInt32 31)).toInt32 &&& 858993459))
    (h3 : x3 = (x2 + (x2.toUInt32 >>> ((4 : Int32).toUInt32 &&& Int32.toUInt32 31)).toInt32) &&& 252645135)
    (h4 : x4 = x3 + (x3.toUInt32 >>> ((8 : Int32).toUInt32 &&& Int32.toUInt32 31)).toInt32)
    (h5 : x5 = x4 + (x4.toUInt32 >>> ((16 : Int32).toUInt32 &&& Int32.toUInt32 31)).toInt32) : x5 &&& 63 = nI (fw_pc x) := by
  obtain ⟨n, hn, rfl⟩ := wb_of32 x
  have hn4 := fw_4_of hn
  have ha : n % 256 < 256 := by omega
  have hb : n / 256 % 256 < 256 := by omega
  have hc : n / 65536 % 256 < 256 := by omega
  have hd : n / 16777216 < 256 := by omega
  rw [fw_pc_n hn]
  generalize n % 256 = a at hn4 ha
  generalize n / 256 % 256 = b at hn4 hb
  generalize n / 65536 % 256 = c at hn4 hc
  generalize n / 16777216 = d at hn4 hd
  subst hn4
  obtain ⟨a1, a2, a3, a4⟩ := fw_byte a ha
  obtain ⟨b1, b2, b3, b4⟩ := fw_byte b hb
  obtain ⟨c1, c2, c3, c4⟩ := fw_byte c hc
  obtain ⟨d1, d2, d3, d4⟩ := fw_byte d hd
  have M1 : (1431655765 : Int32) = nI 1431655765 := rfl
  have M2 : (858993459 : Int32) = nI 858993459 := rfl
  have M3 : (252645135 : Int32) = nI 252645135 := rfl
  have g1 : x1 = nI (fw_4 (fw_F1 a) (fw_F1 b) (fw_F1 c) (fw_F1 d)) := by
    rw [h1, pk_ushrN hn 1 1 (by decide), M1, nx_and, pk_sub (Nat.le_trans Nat.and_le_left (Nat.div_le_self _ _)), ← fw_s1 ha hb hc hd]
  have q1 := fw_4_lt a1 b1 c1 d1
  have g2 : x2 = nI (fw_4 (fw_F2 (fw_F1 a)) (fw_F2 (fw_F1 b)) (fw_F2 (fw_F1 c)) (fw_F2 (fw_F1 d))) := by
    rw [h2, g1, pk_ushrN q1 2 2 (by decide), M2, nx_and, nx_and, nI_add, ← fw_s2 a1 b1 c1 d1]
  have q2 : fw_4 (fw_F2 (fw_F1 a)) (fw_F2 (fw_F1 b)) (fw_F2 (fw_F1 c)) (fw_F2 (fw_F1 d)) < 2 ^ 32 := fw_4_lt (by omega) (by omega) (by omega) (by omega)
  have g3 : x3 = nI (fw_4 (fw_pn 8 a) (fw_pn 8 b) (fw_pn 8 c) (fw_pn 8 d)) := by
    rw [h3, g2, pk_ushrN q2 4 4 (by decide), M3, nI_add, nx_and, ← a4, ← b4, ← c4, ← d4, ← fw_s3 a2 b2 c2 d2 b3 c3 d3]
  have la := fw_pn_le 8 a
  have lb := fw_pn_le 8 b
  have lc := fw_pn_le 8 c
  have ld := fw_pn_le 8 d
  have q3 : fw_4 (fw_pn 8 a) (fw_pn 8 b) (fw_pn 8 c) (fw_pn 8 d) ≤ 134744072 := by unfold fw_4; omega
  have g4 : x4 = nI (fw_4 (fw_pn 8 a) (fw_pn 8 b) (fw_pn 8 c) (fw_pn 8 d) + fw_4 (fw_pn 8 a) (fw_pn 8 b) (fw_pn 8 c) (fw_pn 8 d) / 256) := by
    rw [h4, g3, pk_ushrN (by omega) 8 8 (by decide), nI_add]
  have g5 : x5 = nI (fw_4 (fw_pn 8 a) (fw_pn 8 b) (fw_pn 8 c) (fw_pn 8 d) + fw_4 (fw_pn 8 a) (fw_pn 8 b) (fw_pn 8 c) (fw_pn 8 d) / 256 + (fw_4 (fw_pn 8 a) (fw_pn 8 b) (fw_pn 8 c) (fw_pn 8 d) + fw_4 (fw_pn 8 a) (fw_pn 8 b) (fw_pn 8 c) (fw_pn 8 d) / 256) / 65536) := by
    rw [h5, g4, pk_ushrN (by omega) 16 16 (by decide), nI_add]
  rw [g5, pk_andN (by omega) 6 (by decide)]
  show nI (_ % 64) = _
  rw [fw_s4 la lb lc ld, fw_4_pn ha hb hc]
/-- the law's own counter: one bit more -/
theorem fw_bit {n i : Nat} (hn : n < 2 ^ 32) (hi : i < 32) : nI (fw_pn i n) + ((((nI n).toUInt32 >>> ((nI i).toUInt32 &&& Int32.toUInt32 31)).toInt32) &&& 1) = nI (fw_pn (i + 1) n) := by
  have hl : n / 2 ^ i < 2 ^ 32 := Nat.lt_of_le_of_lt (Nat.div_le_self _ _) hn
  rw [pk_ushrN hn (nI i) i (s_u i hi), pk_andN hl 1 (by decide), nI_add, fw_pn_add i 1 n]
  rfl
end
section
/-! PURE: the 32 words, the nearest of them to two copies, and what the law's checks ask of that -/
def fw_tl : List Int32 := [21522, 20773, 24188, 23371, 17913, 16590, 20375, 19104, 30660, 29427, 32170, 30877, 26159, 25368, 27713, 26998, 5769, 5054, 7399, 6608, 1890, 597, 3340, 2107, 13663, 12392, 16177, 14854, 9396, 8579, 11994, 11245]
/-- the k-th published word -/
def fw_t (k : Nat) : Int32 := fw_tl.getD k 0
/-- how far the k-th word is from the nearer copy -/
def fw_far (a b : Int32) (k : Nat) : Nat := min (fw_pc (a ^^^ fw_t k)) (fw_pc (b ^^^ fw_t k))
/-- the first of the nearest words, if it is near enough -/
def fw_D (a b : Int32) (o : Option Nat) : Prop := match o with
  | some k => k < 32 ∧ fw_far a b k ≤ 3 ∧ (∀ j, j < 32 → fw_far a b k ≤ fw_far a b j) ∧ ∀ j, j < k → fw_far a b k < fw_far a b j
  | none => ∀ j, j < 32 → 4 ≤ fw_far a b j
/-- as it stands, or with the mask taken away -/
def fw_DD (a b : Int32) (o : Option Nat) : Prop := (∃ k, o = some k ∧ fw_D a b (some k)) ∨ (fw_D a b none ∧ fw_D (a ^^^ 21522) (b ^^^ 21522) o)
def fw_enc (o : Option Nat) : Int32 := match o with
  | some k => nI k
  | none => -1
def fw_R (a b r : Int32) : Prop := ∃ o, fw_DD a b o ∧ r = fw_enc o
theorem fw_D_one {a b : Int32} {o o2 : Option Nat} (h : fw_D a b o) (h2 : fw_D a b o2) : o = o2 := by
  cases o with
  | none =>
    cases o2 with
    | none => rfl
    | some k =>
      obtain ⟨k1, k2, -⟩ := h2
      have := h k k1
      omega
  | some k =>
    obtain ⟨k1, k2, k3, k4⟩ := h
    cases o2 with
    | none =>
      have := h2 k k1
      omega
    | some j =>
      obtain ⟨j1, j2, j3, j4⟩ := h2
      rcases Nat.lt_trichotomy k j with q | q | q
      · have := j4 k q
        have := k3 j j1
        omega
      · rw [q]
      · have := k4 j q
        have := j3 k k1
        omega
theorem fw_DD_one {a b : Int32} {o o2 : Option Nat} (h : fw_DD a b o) (h2 : fw_DD a b o2) : o = o2 := by
  rcases h with ⟨k, rfl, h⟩ | ⟨h, g⟩
  · rcases h2 with ⟨k2, rfl, h2⟩ | ⟨h2, g2⟩
    · exact fw_D_one h h2
    · cases fw_D_one h h2
  · rcases h2 with ⟨k2, rfl, h2⟩ | ⟨h2, g2⟩
    · cases fw_D_one h h2
    · exact fw_D_one g g2
theorem fw_R_one {a b r r2 : Int32} (h : fw_R a b r) (h2 : fw_R a b r2) : r = r2 := by
  obtain ⟨o, h, rfl⟩ := h
  obtain ⟨o2, h2, rfl⟩ := h2
  rw [fw_DD_one h h2]
theorem fw_enc_in {a b : Int32} {o : Option Nat} (h : fw_D a b o) : (o = none ∧ fw_enc o = -1) ∨ ∃ k, k < 32 ∧ o = some k ∧ fw_enc o = nI k := by
  cases o with
  | none => exact Or.inl ⟨rfl, rfl⟩
  | some k => exact Or.inr ⟨k, h.1, rfl, rfl⟩
/-! the loop of the component: i rows seen -/
def fw_I (a b : Int32) (i : Nat) (best fmt : Int32) : Prop := (∀ j, j < i → 0 < fw_far a b j) ∧ ((i = 0 ∧ best = 2147483647) ∨ ∃ k, k < i ∧ best = nI (fw_far a b k) ∧ fmt = nI k ∧ (∀ j, j < i → fw_far a b k ≤ fw_far a b j) ∧ ∀ j, j < k → fw_far a b k < fw_far a b j)
theorem fw_far_le (a b : Int32) (k : Nat) : fw_far a b k ≤ 32 := Nat.le_trans (Nat.min_le_left _ _) (fw_pc_le _)
theorem fw_I_0 (a b fmt : Int32) : fw_I a b 0 2147483647 fmt := ⟨fun j h => absurd h (Nat.not_lt_zero j), Or.inl ⟨rfl, rfl⟩⟩
theorem fw_far_pos {a b : Int32} {i : Nat} (h1 : ¬ fw_t i = a) (h2 : ¬ fw_t i = b) : 0 < fw_far a b i := by
  have p1 := fw_pc_ne (x := a) (y := fw_t i) (fun e => h1 e.symm)
  have p2 := fw_pc_ne (x := b) (y := fw_t i) (fun e => h2 e.symm)
  unfold fw_far
  omega
theorem fw_I_new {a b best fmt : Int32} {i : Nat} (h : fw_I a b i best fmt) (h0 : 0 < fw_far a b i) (hlt : nI (fw_far a b i) < best) : fw_I a b (i + 1) (nI (fw_far a b i)) (nI i) := by
  obtain ⟨g, h⟩ := h
  refine ⟨fun j hj => ?_, Or.inr ⟨i, Nat.lt_succ_self i, rfl, rfl, ?_⟩⟩
  · rcases Nat.lt_or_eq_of_le (Nat.le_of_lt_succ hj) with q | q
    · exact g j q
    · rw [q]; exact h0
  · rcases h with ⟨rfl, -⟩ | ⟨k, k1, k2, k3, k4, k5⟩
    · refine ⟨fun j hj => ?_, fun j hj => absurd hj (Nat.not_lt_zero j)⟩
      have : j = 0 := by omega
      rw [this]
      exact Nat.le_refl _
    · have hl := fw_far_le a b i
      have hk := fw_far_le a b k
      have hlt : fw_far a b i < fw_far a b k := by
        rw [k2] at hlt
        exact (nI_ltI (by omega) (by omega)).mp hlt
      refine ⟨fun j hj => ?_, fun j hj => ?_⟩
      · rcases Nat.lt_or_eq_of_le (Nat.le_of_lt_succ hj) with q | q
        · have := k4 j q
          omega
        · rw [q]; exact Nat.le_refl _
      · have := k4 j hj
        omega
theorem fw_I_old {a b best fmt : Int32} {i : Nat} (h : fw_I a b i best fmt) (h0 : 0 < fw_far a b i) (hge : ¬ nI (fw_far a b i) < best) : fw_I a b (i + 1) best fmt := by
  obtain ⟨g, h⟩ := h
  refine ⟨fun j hj => ?_, ?_⟩
  · rcases Nat.lt_or_eq_of_le (Nat.le_of_lt_succ hj) with q | q
    · exact g j q
    · rw [q]; exact h0
  · rcases h with ⟨rfl, e⟩ | ⟨k, k1, k2, k3, k4, k5⟩
    · have hl := fw_far_le a b 0
      rw [e, show (2147483647 : Int32) = nI 2147483647 from rfl] at hge
      exact absurd ((nI_ltI (by omega) (by omega)).mpr (by omega)) hge
    · have hl := fw_far_le a b i
      have hk := fw_far_le a b k
      have hge : ¬ fw_far a b i < fw_far a b k := by
        intro q
        rw [k2] at hge
        exact hge ((nI_ltI (by omega) (by omega)).mpr q)
      refine Or.inr ⟨k, Nat.lt_succ_of_lt k1, k2, k3, fun j hj => ?_, k5⟩
      rcases Nat.lt_or_eq_of_le (Nat.le_of_lt_succ hj) with q | q
      · exact k4 j q
      · rw [q]; omega
theorem fw_far_1 {a b : Int32} {i : Nat} (h : ¬ nI (fw_pc (b ^^^ fw_t i)) < nI (fw_pc (a ^^^ fw_t i))) : fw_far a b i = fw_pc (a ^^^ fw_t i) := by
  have l1 := fw_pc_le (a ^^^ fw_t i)
  have l2 := fw_pc_le (b ^^^ fw_t i)
  have : ¬ fw_pc (b ^^^ fw_t i) < fw_pc (a ^^^ fw_t i) := fun q => h ((nI_ltI (by omega) (by omega)).mpr q)
  unfold fw_far
  omega
theorem fw_far_2 {a b : Int32} {i : Nat} (h : nI (fw_pc (b ^^^ fw_t i)) < nI (fw_pc (a ^^^ fw_t i))) : fw_far a b i = fw_pc (b ^^^ fw_t i) := by
  have l1 := fw_pc_le (a ^^^ fw_t i)
  have l2 := fw_pc_le (b ^^^ fw_t i)
  have := (nI_ltI (by omega) (by omega)).mp h
  unfold fw_far
  omega
theorem fw_I_lt {a b best fmt : Int32} {i : Nat} (h : fw_I a b i best fmt) : best = nI 2147483647 ∨ ∃ n, n ≤ 32 ∧ best = nI n := by
  rcases h.2 with ⟨-, e⟩ | ⟨k, -, e, -⟩
  · exact Or.inl e
  · exact Or.inr ⟨_, fw_far_le a b k, e⟩
/-- the first copy is nearer than the best, the second isn't nearer than the first -/
theorem fw_I_10 {a b best fmt : Int32} {i : Nat} (h : fw_I a b i best fmt) (h1 : ¬ fw_t i = a) (h2 : ¬ fw_t i = b) (c1 : nI (fw_pc (a ^^^ fw_t i)) < best) (c2 : ¬ nI (fw_pc (b ^^^ fw_t i)) < nI (fw_pc (a ^^^ fw_t i))) : fw_I a b (i + 1) (nI (fw_pc (a ^^^ fw_t i))) (nI i) := by
  have e := fw_far_1 c2
  rw [← e] at c1 ⊢
  exact fw_I_new h (fw_far_pos h1 h2) c1
theorem fw_I_11 {a b best fmt : Int32} {i : Nat} (h : fw_I a b i best fmt) (h1 : ¬ fw_t i = a) (h2 : ¬ fw_t i = b) (c1 : nI (fw_pc (a ^^^ fw_t i)) < best) (c2 : nI (fw_pc (b ^^^ fw_t i)) < nI (fw_pc (a ^^^ fw_t i))) : fw_I a b (i + 1) (nI (fw_pc (b ^^^ fw_t i))) (nI i) := by
  have e := fw_far_2 c2
  have c3 : nI (fw_pc (b ^^^ fw_t i)) < best := Int32.lt_trans c2 c1
  rw [← e] at c3 ⊢
  exact fw_I_new h (fw_far_pos h1 h2) c3
theorem fw_I_01 {a b best fmt : Int32} {i : Nat} (h : fw_I a b i best fmt) (h1 : ¬ fw_t i = a) (h2 : ¬ fw_t i = b) (c1 : ¬ nI (fw_pc (a ^^^ fw_t i)) < best) (c2 : nI (fw_pc (b ^^^ fw_t i)) < best) : fw_I a b (i + 1) (nI (fw_pc (b ^^^ fw_t i))) (nI i) := by
  have c3 : nI (fw_pc (b ^^^ fw_t i)) < nI (fw_pc (a ^^^ fw_t i)) := Int32.lt_of_lt_of_le c2 (Int32.not_lt.mp c1)
  have e := fw_far_2 c3
  rw [← e] at c2 ⊢
  exact fw_I_new h (fw_far_pos h1 h2) c2
theorem fw_I_00 {a b best fmt : Int32} {i : Nat} (h : fw_I a b i best fmt) (h1 : ¬ fw_t i = a) (h2 : ¬ fw_t i = b) (c1 : ¬ nI (fw_pc (a ^^^ fw_t i)) < best) (c2 : ¬ nI (fw_pc (b ^^^ fw_t i)) < best) : fw_I a b (i + 1) best fmt := by
  refine fw_I_old h (fw_far_pos h1 h2) ?_
  by_cases c3 : nI (fw_pc (b ^^^ fw_t i)) < nI (fw_pc (a ^^^ fw_t i))
  · rw [fw_far_2 c3]; exact c2
  · rw [fw_far_1 c3]; exact c1
/-- a word that is one of the copies -/
theorem fw_I_hit {a b best fmt : Int32} {i : Nat} (hi : i < 32) (h : fw_I a b i best fmt) (h1 : fw_t i = a ∨ fw_t i = b) : fw_D a b (some i) := by
  have e : fw_far a b i = 0 := by
    unfold fw_far
    rcases h1 with h1 | h1
    · rw [h1, Int32.xor_self, fw_pc_0, Nat.zero_min]
    · rw [h1, Int32.xor_self, fw_pc_0, Nat.min_zero]
  refine ⟨hi, by rw [e]; exact Nat.zero_le _, fun j _ => by rw [e]; exact Nat.zero_le _, fun j hj => by rw [e]; exact h.1 j hj⟩
theorem fw_I_near {a b best fmt : Int32} (h : fw_I a b 32 best fmt) (c : ¬ (3 : Int32) < best) : ∃ k, k < 32 ∧ fmt = nI k ∧ fw_D a b (some k) := by
  rcases h.2 with ⟨e, -⟩ | ⟨k, k1, k2, k3, k4, k5⟩
  · cases e
  · have hk := fw_far_le a b k
    refine ⟨k, k1, k3, k1, ?_, k4, k5⟩
    rcases Nat.lt_or_ge 3 (fw_far a b k) with q | q
    · rw [k2] at c
      exact absurd ((nI_ltI (a := 3) (by omega) (by omega)).mpr q) c
    · exact q
theorem fw_I_far {a b best fmt : Int32} (h : fw_I a b 32 best fmt) (c : (3 : Int32) < best) : fw_D a b none := by
  rcases h.2 with ⟨e, -⟩ | ⟨k, k1, k2, k3, k4, k5⟩
  · cases e
  · have hk := fw_far_le a b k
    rw [k2] at c
    have := (nI_ltI (a := 3) (by omega) (by omega)).mp c
    intro j hj
    have := k4 j hj
    omega
/-! the loop of the law's own search -/
def fw_N (a b : Int32) (i : Nat) (best made : Int32) : Prop := (best = 4 ∧ made = -1 ∧ ∀ j, j < i → 4 ≤ fw_far a b j) ∨ ∃ k, k < i ∧ best = nI (fw_far a b k) ∧ made = nI k ∧ fw_far a b k ≤ 3 ∧ (∀ j, j < i → fw_far a b k ≤ fw_far a b j) ∧ ∀ j, j < k → fw_far a b k < fw_far a b j
theorem fw_N_0 (a b : Int32) : fw_N a b 0 4 (-1) := Or.inl ⟨rfl, rfl, fun j h => absurd h (Nat.not_lt_zero j)⟩
theorem fw_N_min (a b : Int32) (i : Nat) : (if nI (fw_pc (b ^^^ fw_t i)) < nI (fw_pc (a ^^^ fw_t i)) then nI (fw_pc (b ^^^ fw_t i)) else nI (fw_pc (a ^^^ fw_t i))) = nI (fw_far a b i) := by
  by_cases c : nI (fw_pc (b ^^^ fw_t i)) < nI (fw_pc (a ^^^ fw_t i))
  · rw [if_pos c, fw_far_2 c]
  · rw [if_neg c, fw_far_1 c]
theorem fw_N_new {a b best made : Int32} {i : Nat} (h : fw_N a b i best made) (hlt : nI (fw_far a b i) < best) : fw_N a b (i + 1) (nI (fw_far a b i)) (nI i) := by
  have hl := fw_far_le a b i
  refine Or.inr ⟨i, Nat.lt_succ_self i, rfl, rfl, ?_⟩
  rcases h with ⟨rfl, -, h⟩ | ⟨k, k1, rfl, -, k3, k4, k5⟩
  · have hlt := (nI_ltI (b := 4) (by omega) (by omega)).mp hlt
    refine ⟨by omega, fun j hj => ?_, fun j hj => ?_⟩
    · rcases Nat.lt_or_eq_of_le (Nat.le_of_lt_succ hj) with q | q
      · have := h j q
        omega
      · rw [q]; exact Nat.le_refl _
    · have := h j hj
      omega
  · have hlt := (nI_ltI (by omega) (by omega)).mp hlt
    refine ⟨by omega, fun j hj => ?_, fun j hj => ?_⟩
    · rcases Nat.lt_or_eq_of_le (Nat.le_of_lt_succ hj) with q | q
      · have := k4 j q
        omega
      · rw [q]; exact Nat.le_refl _
    · have := k4 j hj
      omega
theorem fw_N_old {a b best made : Int32} {i : Nat} (h : fw_N a b i best made) (hge : ¬ nI (fw_far a b i) < best) : fw_N a b (i + 1) best made := by
  have hl := fw_far_le a b i
  rcases h with ⟨rfl, e, h⟩ | ⟨k, k1, rfl, e, k3, k4, k5⟩
  · have hge : ¬ fw_far a b i < 4 := fun q => hge ((nI_ltI (b := 4) (by omega) (by omega)).mpr q)
    refine Or.inl ⟨rfl, e, fun j hj => ?_⟩
    rcases Nat.lt_or_eq_of_le (Nat.le_of_lt_succ hj) with q | q
    · exact h j q
    · rw [q]; omega
  · have hge : ¬ fw_far a b i < fw_far a b k := fun q => hge ((nI_ltI (by omega) (by omega)).mpr q)
    refine Or.inr ⟨k, Nat.lt_succ_of_lt k1, rfl, e, k3, fun j hj => ?_, k5⟩
    rcases Nat.lt_or_eq_of_le (Nat.le_of_lt_succ hj) with q | q
    · exact k4 j q
    · rw [q]; omega
theorem fw_N_end {a b best made : Int32} (h : fw_N a b 32 best made) : ∃ o, fw_D a b o ∧ made = fw_enc o := by
  rcases h with ⟨-, e, h⟩ | ⟨k, k1, -, e, k3, k4, k5⟩
  · exact ⟨none, h, e⟩
  · exact ⟨some k, ⟨k1, k3, k4, k5⟩, e⟩
/-! what the words are to each other -/
theorem fw_apart7 : ∀ i, i < 32 → ∀ j, j < 32 → i ≠ j → 7 ≤ fw_pc (fw_t i ^^^ fw_t j) := by decide +kernel
theorem fw_mask4 : ∀ i, i < 32 → ∀ j, j < 32 → 4 ≤ fw_pc ((fw_t i ^^^ 21522) ^^^ fw_t j) := by decide +kernel
theorem fw_high4 : ∀ i, i < 32 → ∀ j, j < 32 → 4 ≤ fw_pc ((fw_t i ^^^ 491520) ^^^ fw_t j) ∧ 4 ≤ fw_pc (((fw_t i ^^^ 491520) ^^^ 21522) ^^^ fw_t j) := by decide +kernel
/-- a word spoilt in at most n places is still that far from the others -/
theorem fw_off {i j : Nat} (hi : i < 32) (hj : j < 32) (hij : i ≠ j) (e : Int32) : 7 ≤ fw_pc ((fw_t i ^^^ e) ^^^ fw_t j) + fw_pc e := by
  have h7 := fw_apart7 i hi j hj hij
  have ht := fw_tri (fw_t i) (fw_t j) (fw_t i ^^^ e)
  have e1 : fw_t i ^^^ (fw_t i ^^^ e) = e := by rw [← Int32.xor_assoc, Int32.xor_self, Int32.zero_xor]
  rw [e1] at ht
  omega
theorem fw_self (i : Nat) (e : Int32) : fw_pc ((fw_t i ^^^ e) ^^^ fw_t i) = fw_pc e := by
  rw [Int32.xor_comm (fw_t i) e, fw_x_c]
theorem fw_R_of {a b : Int32} {k : Nat} {r : Int32} (hk : k < 32) (h3 : fw_far a b k ≤ 3) (hmin : ∀ j, j < 32 → j ≠ k → fw_far a b k < fw_far a b j) (hr : fw_R a b r) : r = nI k := by
  have h : fw_D a b (some k) := by
    refine ⟨hk, h3, fun j hj => ?_, fun j hj => hmin j (by omega) (by omega)⟩
    by_cases q : j = k
    · rw [q]; exact Nat.le_refl _
    · exact Nat.le_of_lt (hmin j hj q)
  exact fw_R_one hr ⟨some k, Or.inl ⟨k, rfl, h⟩, rfl⟩
/-- both copies of one word, each spoilt in at most three places -/
theorem fw_R_spoilt {k : Nat} {e1 e2 r : Int32} (hk : k < 32) (h1 : fw_pc e1 ≤ 3) (h2 : fw_pc e2 ≤ 3) (hr : fw_R (fw_t k ^^^ e1) (fw_t k ^^^ e2) r) : r = nI k := by
  have s1 := fw_self k e1
  have s2 := fw_self k e2
  have hf : fw_far (fw_t k ^^^ e1) (fw_t k ^^^ e2) k ≤ 3 := by
    unfold fw_far
    omega
  refine fw_R_of hk hf (fun j hj hjk => ?_) hr
  have o1 := fw_off hk hj (fun q => hjk q.symm) e1
  have o2 := fw_off hk hj (fun q => hjk q.symm) e2
  have : 4 ≤ fw_far (fw_t k ^^^ e1) (fw_t k ^^^ e2) j := by
    unfold fw_far
    omega
  omega
theorem fw_R_word {k : Nat} {r : Int32} (hk : k < 32) (hr : fw_R (fw_t k) (fw_t k) r) : r = nI k := by
  refine fw_R_spoilt (e1 := 0) (e2 := 0) hk (by rw [fw_pc_0]; decide) (by rw [fw_pc_0]; decide) ?_
  rw [Int32.xor_zero]
  exact hr
/-- the other copy is no word at all -/
theorem fw_R_left {k : Nat} {z r : Int32} (hk : k < 32) (hz : ∀ j, j < 32 → ¬ fw_t j = z) (hr : fw_R (fw_t k) z r) : r = nI k := by
  have hf : fw_far (fw_t k) z k = 0 := by
    unfold fw_far
    rw [Int32.xor_self, fw_pc_0, Nat.zero_min]
  refine fw_R_of hk (by rw [hf]; decide) (fun j hj hjk => ?_) hr
  have h7 := fw_apart7 k hk j hj (fun q => hjk q.symm)
  have p2 := fw_pc_ne (x := z) (y := fw_t j) (fun e => hz j hj e.symm)
  rw [hf]
  unfold fw_far
  omega
theorem fw_far_comm (a b : Int32) (k : Nat) : fw_far a b k = fw_far b a k := Nat.min_comm _ _
theorem fw_R_right {k : Nat} {z r : Int32} (hk : k < 32) (hz : ∀ j, j < 32 → ¬ fw_t j = z) (hr : fw_R z (fw_t k) r) : r = nI k := by
  have hf : fw_far z (fw_t k) k = 0 := by
    unfold fw_far
    rw [Int32.xor_self, fw_pc_0, Nat.min_zero]
  refine fw_R_of hk (by rw [hf]; decide) (fun j hj hjk => ?_) hr
  have h7 := fw_apart7 k hk j hj (fun q => hjk q.symm)
  have p2 := fw_pc_ne (x := z) (y := fw_t j) (fun e => hz j hj e.symm)
  rw [hf]
  unfold fw_far
  omega
theorem fw_pc7 : fw_pc 7 = 3 := by decide +kernel
/-- one place in the first copy, three in the other word's -/
theorem fw_R_13 {f g : Nat} {e r : Int32} (hf : f < 32) (hg : g < 32) (he : fw_pc e = 1) (hr : fw_R (fw_t f ^^^ e) (fw_t g ^^^ 7) r) : r = nI f := by
  have s1 := fw_self f e
  have p7 := fw_pc7
  have h1 : fw_far (fw_t f ^^^ e) (fw_t g ^^^ 7) f ≤ 1 := by
    unfold fw_far
    omega
  refine fw_R_of hf (by omega) (fun j hj hjk => ?_) hr
  have o1 := fw_off hf hj (fun q => hjk q.symm) e
  have h2 : 3 ≤ fw_pc ((fw_t g ^^^ 7) ^^^ fw_t j) := by
    by_cases q : g = j
    · rw [q, fw_self, p7]; exact Nat.le_refl _
    · have o2 := fw_off hg hj q 7
      omega
  have : 3 ≤ fw_far (fw_t f ^^^ e) (fw_t g ^^^ 7) j := by
    unfold fw_far
    omega
  omega
/-- one place in each word's copy: the first of the two -/
theorem fw_R_11 {f g : Nat} {e r : Int32} (hf : f < 32) (hg : g < 32) (he : fw_pc e = 1) (hr : fw_R (fw_t f ^^^ e) (fw_t g ^^^ e) r) : r = nI (min f g) := by
  have key : ∀ i j, i < 32 → j < 32 → 1 ≤ fw_pc ((fw_t i ^^^ e) ^^^ fw_t j) ∧ (i ≠ j → 6 ≤ fw_pc ((fw_t i ^^^ e) ^^^ fw_t j)) := by
    intro i j hi hj
    by_cases q : i = j
    · rw [q, fw_self, he]
      exact ⟨Nat.le_refl _, fun h => absurd rfl h⟩
    · have o := fw_off hi hj q e
      exact ⟨by omega, fun _ => by omega⟩
  have sf := fw_self f e
  have sg := fw_self g e
  have D : fw_D (fw_t f ^^^ e) (fw_t g ^^^ e) (some (min f g)) := by
    have hm : min f g < 32 := by omega
    have e1 : fw_far (fw_t f ^^^ e) (fw_t g ^^^ e) (min f g) = 1 := by
      unfold fw_far
      have k1 := (key f (min f g) hf hm).1
      have k2 := (key g (min f g) hg hm).1
      rcases Nat.le_total f g with q | q
      · rw [Nat.min_eq_left q] at k1 k2 ⊢
        omega
      · rw [Nat.min_eq_right q] at k1 k2 ⊢
        omega
    refine ⟨hm, by omega, fun j hj => ?_, fun j hj => ?_⟩
    · have k1 := (key f j hf hj).1
      have k2 := (key g j hg hj).1
      rw [e1]
      unfold fw_far
      omega
    · have k1 := (key f j hf (by omega)).2 (by omega)
      have k2 := (key g j hg (by omega)).2 (by omega)
      rw [e1]
      unfold fw_far
      omega
  exact fw_R_one hr ⟨_, Or.inl ⟨_, rfl, D⟩, rfl⟩
/-- four places too high for any word -/
theorem fw_R_high {f g : Nat} {r : Int32} (hf : f < 32) (hg : g < 32) (hr : fw_R (fw_t f ^^^ 491520) (fw_t g ^^^ 491520) r) : r = -1 := by
  have D1 : fw_D (fw_t f ^^^ 491520) (fw_t g ^^^ 491520) none := by
    intro j hj
    have h1 := (fw_high4 f hf j hj).1
    have h2 := (fw_high4 g hg j hj).1
    unfold fw_far
    omega
  have D2 : fw_D ((fw_t f ^^^ 491520) ^^^ 21522) ((fw_t g ^^^ 491520) ^^^ 21522) none := by
    intro j hj
    have h1 := (fw_high4 f hf j hj).2
    have h2 := (fw_high4 g hg j hj).2
    unfold fw_far
    omega
  exact fw_R_one hr ⟨none, Or.inr ⟨D1, D2⟩, rfl⟩
/-- both copies without the mask -/
theorem fw_R_bare {f : Nat} {r : Int32} (hf : f < 32) (hr : fw_R (fw_t f ^^^ 21522) (fw_t f ^^^ 21522) r) : r = nI f := by
  have D1 : fw_D (fw_t f ^^^ 21522) (fw_t f ^^^ 21522) none := by
    intro j hj
    have h1 := fw_mask4 f hf j hj
    unfold fw_far
    omega
  have D2 : fw_D ((fw_t f ^^^ 21522) ^^^ 21522) ((fw_t f ^^^ 21522) ^^^ 21522) (some f) := by
    rw [fw_x_c]
    have e : fw_far (fw_t f) (fw_t f) f = 0 := by
      unfold fw_far
      rw [Int32.xor_self, fw_pc_0, Nat.min_zero]
    refine ⟨hf, by omega, fun j _ => by omega, fun j hj => ?_⟩
    have h7 := fw_apart7 f hf j (by omega) (by omega)
    unfold fw_far at e ⊢
    omega
  exact fw_R_one hr ⟨some f, Or.inr ⟨D1, D2⟩, rfl⟩
/-! one place: 1 << ((c & MAX) % 15) -/
theorem fw_one15 : ∀ p, p < 15 → fw_pc ((1 : Int32) <<< (nI p &&& 31)) = 1 := by decide +kernel
theorem fw_one (c : Int32) : fw_pc ((1 : Int32) <<< (((c &&& 2147483647) - (c &&& 2147483647) / 15 * 15) &&& 31)) = 1 := by
  have hn : c.toBitVec.toNat % 2 ^ 31 < 2 ^ 31 := Nat.mod_lt _ (by decide)
  rw [pk_and c (m := 2147483647) 31 (by decide), show (15 : Int32) = nI 15 from rfl, pk_rem hn (by decide) (by decide)]
  exact fw_one15 _ (Nat.mod_lt _ (by decide))
/-! the law's own making of a word -/
def fw_it : Nat → Int32 → Int32
  | 0, x => x
  | n + 1, x => fw_it n (if (x >>> (nI (n + 10) &&& 31)) &&& 1 = 1 then x ^^^ ((1335 : Int32) <<< ((nI (n + 10) - 10) &&& 31)) else x)
theorem fw_word : ∀ k, k < 32 → (((nI k <<< ((10 : Int32) &&& 31)) ||| fw_it 5 (nI k <<< ((10 : Int32) &&& 31))) ^^^ 21522) = fw_t k := by decide +kernel
/-- a cell of the script -/
def fw_cell (L : Nat) (xs : Nat → Int32) (k : Nat) : Int32 := if k < L then xs k else 0
/-- what the level's and the mask's parts make together -/
theorem fw_parts : ∀ k, k < 32 → (nI k >>> ((3 : Int32) &&& 31)) &&& 3 = nI (k / 8) ∧ (nI k &&& 7).toInt8.toInt32 = nI (k % 8) ∧ (nI (k / 8) <<< ((3 : Int32) &&& 31)) ||| nI (k % 8) = nI k := by decide +kernel
theorem fw_byte8 : ∀ k, k < 8 → narrow .byte (.int (nI k)) = .int (nI k) ∧ fits .byte (.int (nI k)) = true := by decide +kernel
theorem fw_f31 (c : Int32) : ∃ f, f < 32 ∧ c &&& 31 = nI f := pk_andE c (m := 31) 5 (by decide)
/-- the law's comparisons of counts -/
theorem fw_le_add {x y z : Nat} (hx : x ≤ 32) (hy : y ≤ 32) (hz : z ≤ 32) (h : x ≤ y + z) : ¬ nI y + nI z < nI x := by
  rw [nI_add]
  intro q
  have := (nI_ltI (by omega) (by omega)).mp q
  omega
theorem fw_le3 {x : Nat} (h : x ≤ 3) : ¬ (3 : Int32) < nI x := by
  intro q
  have := (nI_ltI (a := 3) (by omega) (by omega)).mp q
  omega
theorem fw_eq0 (a b : Int32) : nI (fw_pc (a ^^^ b)) = 0 ↔ a = b := by
  have l := fw_pc_le (a ^^^ b)
  constructor
  · intro h
    have := (nI_eq (b := 0) (by omega) (by omega)).mp h
    exact fw_x_z (fw_pc_z this)
  · intro h
    rw [h, Int32.xor_self, fw_pc_0]
    rfl
theorem fw_not32 (a : Int32) : fw_pc (a ^^^ (a ^^^ (-1))) = 32 := by
  rw [← Int32.xor_assoc, Int32.xor_self, Int32.zero_xor]
  decide +kernel
theorem fw_m1_32 : fw_pc ((0 : Int32) ^^^ (-1)) = 32 := by decide +kernel
theorem fw_min_1 : fw_pc ((0 : Int32) ^^^ (-2147483648)) = 1 := by decide +kernel
theorem fw_minI {f g : Nat} (hf : f < 32) (hg : g < 32) : (if nI g < nI f then nI g else nI f) = nI (min f g) := by
  by_cases q : g < f
  · rw [if_pos ((nI_ltI (by omega) (by omega)).mpr q), Nat.min_eq_right (by omega)]
  · rw [if_neg (fun z => q ((nI_ltI (by omega) (by omega)).mp z)), Nat.min_eq_left (by omega)]
end
section
/-! THE CONSTANT WORLD: the table of words, its rows, the levels by their bits, as the class files' own initialisers left them; nobody writes them -/
def TX1 : u_T := fun _ => ("FormatWord", "", "I", false)
def tyX1 : Nat → FieldType := fun _ => .int
abbrev wsX10 : List Cond := u_ws RX1 TX1 0
theorem tyX1_ok : ∀ k, k < 0 → parseFieldDescriptor (TX1 k).2.2.1 = some (tyX1 k) := fun k h => absurd h (Nat.not_lt_zero k)
theorem in_X1 : ∀ w ∈ wsX10, w ∈ lw_all := fun w h => absurd (show w ∈ ([] : List Cond) from h) List.not_mem_nil
/-- the classes whose objects the worlds hold: 0 FormatWord, 1 FormatInformation -/
abbrev fw_cl : List vw_C := [(RX1, TX1, 0), (RX2, TX2, 2)]
abbrev fw_nm : List String := ["M", "L", "H", "Q"]
abbrev fw_F : List (String × String × String × List Int32) := [("ErrorCorrectionLevel", "bits", "I", [0, 1, 2, 3])]
theorem fw_bits : ∀ i, i < 4 → ([0, 1, 2, 3] : List Int32).getD i 0 = nI i := by decide +kernel
/-- the constants' addresses: the levels by their bits, the table's rows, the table, FOR_BITS -/
abbrev fw_K : Type := (Nat → Nat) × (Nat → Nat) × Nat × Nat
/-- the constants as they stand -/
def fw_C (K : fw_K) (A : Nat → Prop) (U : State) (H : Heap) : Prop :=
  va_Z "FormatInformation" "FORMAT_INFO_DECODE_LOOKUP" "[[I" (.ref K.2.2.1) A U H ∧
  va_T (.array .int) K.2.2.1 32 (fun j => .ref (K.2.1 j)) A U H ∧
  (∀ j, j < 32 → va_T .int (K.2.1 j) 2 (fun i => .int (if i = 0 then fw_t j else nI j)) A U H) ∧
  va_Z "ErrorCorrectionLevel" "FOR_BITS" "[LErrorCorrectionLevel;" (.ref K.2.2.2) A U H ∧
  va_T (.object "ErrorCorrectionLevel") K.2.2.2 4 (fun j => .ref (K.1 j)) A U H ∧
  va_En "ErrorCorrectionLevel" "LErrorCorrectionLevel;" fw_nm fw_F K.1 A U H
theorem fw_C.moved {K : fw_K} {A : Nat → Prop} {u U : State} {H : Heap} (hvm : u.vm.Alike U.vm) (h : fw_C K A u H) : fw_C K A U H := by
  obtain ⟨h1, h2, h3, h4, h5, h6⟩ := h
  exact ⟨va_Z.moved hvm h1, va_T.moved hvm h2, fun j hj => va_T.moved hvm (h3 j hj), va_Z.moved hvm h4, va_T.moved hvm h5, va_En.moved hvm h6⟩
theorem fw_C.kept {K : fw_K} {A : Nat → Prop} {U : State} {H H1 : Heap} (h : fw_C K A U H) (hq : ∀ a : Nat, a < H.size → ¬ A a → H1[a]? = H[a]?) : fw_C K A U H1 := by
  obtain ⟨h1, h2, h3, h4, h5, h6⟩ := h
  exact ⟨h1.kept hq, h2.kept hq, fun j hj => (h3 j hj).kept hq, h4.kept hq, h5.kept hq, h6.kept hq⟩
theorem fw_C.narrow {K : fw_K} {A B : Nat → Prop} {U : State} {H : Heap} (h : fw_C K A U H) (hAB : ∀ q, B q → A q) : fw_C K B U H := by
  obtain ⟨h1, h2, h3, h4, h5, h6⟩ := h
  exact ⟨h1.narrow hAB, h2.narrow hAB, fun j hj => (h3 j hj).narrow hAB, h4.narrow hAB, h5.narrow hAB, h6.narrow hAB⟩
/-- a method's start, where it may make cells: the heap's size, the classes, the constants -/
def fw_Pre (D : va_G) (K : fw_K) (sz : Nat) (U : State) : Prop := U.heap.size = sz ∧ va_K D fw_cl [] U ∧ fw_C K (fun q => sz ≤ q) U U.heap
theorem fw_Pre.blind {D : va_G} {K : fw_K} {sz : Nat} {v : List Value} : FrameBlind (va_Pc v (fw_Pre D K sz)) := fun a U g mk q => ⟨q.1, q.2.1, va_K.moved (u := U) (U := U.calling g mk a) (Vm.Alike.refl U.vm) q.2.2.1, fw_C.moved (u := U) (U := U.calling g mk a) (Vm.Alike.refl U.vm) q.2.2.2⟩
theorem fw_Pre.make {D : va_G} {K : fw_K} {A : Nat → Prop} {s U : State} {H : Heap} {locs : List Loc} (hK : va_K D fw_cl [] s) (hC : fw_C K A s s.heap) (hS : va_S A s.heap H locs) (hA : ∀ q, s.heap.size ≤ q → A q) (hU : U.heap = H) (hvm : s.vm.Alike U.vm) : fw_Pre D K H.size U :=
  ⟨by rw [hU], va_K.moved hvm hK, by rw [hU]; exact ((hC.kept hS.2.1).moved hvm).narrow (fun q h => hA q (Nat.le_trans hS.1 h))⟩
/-- and the law's script beside it -/
def fw_PreX (D : va_G) (K : fw_K) (b L : Nat) (xs : Nat → Int32) (sz : Nat) (U : State) : Prop := fw_Pre D K sz U ∧ va_X b L xs U U.heap ∧ b < sz
theorem fw_PreX.blind {D : va_G} {K : fw_K} {b L : Nat} {xs : Nat → Int32} {sz : Nat} {v : List Value} : FrameBlind (va_Pc v (fw_PreX D K b L xs sz)) := fun a U g mk q => ⟨q.1, (fw_Pre.blind (v := v) a U g mk ⟨q.1, q.2.1⟩).2, va_X.moved (u := U) (U := U.calling g mk a) (Vm.Alike.refl U.vm) q.2.2.1, q.2.2.2⟩
theorem fw_PreX.make {D : va_G} {K : fw_K} {b L : Nat} {xs : Nat → Int32} {A : Nat → Prop} {s U : State} {H : Heap} {locs : List Loc} (hK : va_K D fw_cl [] s) (hC : fw_C K A s s.heap) (hX : va_X b L xs s s.heap) (hbl : b < s.heap.size) (hbA : ¬ A b) (hS : va_S A s.heap H locs) (hA : ∀ q, s.heap.size ≤ q → A q) (hU : U.heap = H) (hvm : s.vm.Alike U.vm) : fw_PreX D K b L xs H.size U :=
  ⟨fw_Pre.make hK hC hS hA hU hvm, by rw [hU]; exact (hX.kept (hS.2.1 b hbl hbA)).moved hvm, Nat.lt_of_lt_of_le hbl hS.1⟩
/-- the script alone, for a method that only reads it -/
theorem fw_X.blind {b L : Nat} {xs : Nat → Int32} {v : List Value} : FrameBlind (va_Pc v (fun U => va_X b L xs U U.heap)) := fun a U g mk q => ⟨q.1, va_X.moved (u := U) (U := U.calling g mk a) (Vm.Alike.refl U.vm) q.2⟩
theorem fw_X.make {b L : Nat} {xs : Nat → Int32} {A : Nat → Prop} {s U : State} {H : Heap} {locs : List Loc} (hX : va_X b L xs s s.heap) (hbl : b < s.heap.size) (hbA : ¬ A b) (hS : va_S A s.heap H locs) (hU : U.heap = H) (hvm : s.vm.Alike U.vm) : va_X b L xs U U.heap := by
  rw [hU]
  exact (hX.kept (hS.2.1 b hbl hbA)).moved hvm
/-- the constants alone, for a method that only reads them -/
theorem fw_C.blind {K : fw_K} {A : Nat → Prop} {v : List Value} : FrameBlind (va_Pc v (fun U => fw_C K A U U.heap)) := fun a U g mk q => ⟨q.1, fw_C.moved (u := U) (U := U.calling g mk a) (Vm.Alike.refl U.vm) q.2⟩
theorem fw_C.make {K : fw_K} {A : Nat → Prop} {s U : State} {H : Heap} {locs : List Loc} (hC : fw_C K A s s.heap) (hS : va_S A s.heap H locs) (hU : U.heap = H) (hvm : s.vm.Alike U.vm) : fw_C K A U U.heap := by
  rw [hU]
  exact (hC.kept hS.2.1).moved hvm
/-- one object alone, for a method that only reads it -/
theorem fw_O.blind {D : va_G} {ws : va_W} {v : List Value} : FrameBlind (va_Pc v (fun U => va_P D fw_cl ws U.heap ∧ va_K D fw_cl [] U)) := fun a U g mk q => ⟨q.1, q.2.1, va_K.moved (u := U) (U := U.calling g mk a) (Vm.Alike.refl U.vm) q.2.2⟩
/-- behind a call that makes cells alone, the caller's cells are as they were -/
theorem fw_keep {D : va_G} {cl : List vw_C} {ws : va_W} {H H1 : Heap} (hP : va_P D cl ws H) (hk : ∀ q : Nat, q < H.size → ¬ (H.size ≤ q) → H1[q]? = H[q]?) : va_P D cl ws H1 := hP.kept (fun k q hq => hk q.1 (hP k q hq).lt (Nat.not_le.mpr (hP k q hq).lt))
/-- the number on top, in other words -/
theorem fw_top {p : Program} {l : Launch} {e : Env} {R : Room} {s : State} {m : MethodId} {args : Array Value} {below : List Frame} {meth : Method} {c : Code} {H : Heap} {locs : List Loc} {cells slots : Nat} {Q : State → Prop} {pc : Nat} {ls : Array Slot} {rest : List Value} {x : Int32} (y : Int32) (h : x = y) (k : W p l e R s m args below meth c H locs cells slots Q (F0 m pc ls (.int y :: rest))) : W p l e R s m args below meth c H locs cells slots Q (F0 m pc ls (.int x :: rest)) := by
  rw [h]
  exact k
/-- a table of arrays -/
theorem fw_tq {p : Program} {l : Launch} {e : Env} {R : Room} {s : State} {m : MethodId} {args : Array Value} {below : List Frame} {meth : Method} {c : Code} {H : Heap} {locs : List Loc} {cells slots : Nat} {Q : State → Prop} {cc : ByteArray} {pc : Nat} {ls : Array Slot} {rest : List Value} {A : Nat → Prop} {t N : Nat} {f : Nat → Value} (hexec : p.tables.exec = Jvm.exec) (hb : c.code = cc) {ty : FieldType} (hT : va_T (.array ty) t N f A s s.heap) (hS : va_S A s.heap H locs) {i : Int32} (hin : vp_in i N) {v : Value} (hv : f i.toNatClampNeg = v) (hdg : decode cc pc = .ok (.aaload, 1))
    (kk : W p l e R s m args below meth c H locs cells slots Q (F0 m (pc + 1) ls (v :: rest))) : W p l e R s m args below meth c H locs cells slots Q (F0 m pc ls (.int i :: .ref t :: rest)) := by
  obtain ⟨cell, h1, h2, h3, h4, h5, h6, h7⟩ := hT
  have hlt : i.toNatClampNeg < N := Nat.not_le.mp fun q => hin (Or.inr q)
  have hin' : ¬ (i < 0 ∨ cell.slots.size ≤ i.toNatClampNeg) := by
    intro q
    rcases q with q | q
    · exact hin (Or.inl q)
    · omega
  exact W.aald (v := v) (ty := .array ty) hexec hb (by rw [hS.2.1 t (Array.getElem?_eq_some_iff.mp h1).1 h7]; exact h1) h2 rfl h3 hin' (by rw [h6 _ hlt, hv]) rfl rfl hdg kk
/-- the i-th word's row: its word, its number -/
theorem fw_row0 {j : Nat} {v : Int32} (h : fw_t j = v) : (fun i => Value.int (if i = 0 then fw_t j else nI j)) (0 : Int32).toNatClampNeg = .int v := by
  rw [← h]
  rfl
theorem fw_row1 {j : Nat} : (fun i => Value.int (if i = 0 then fw_t j else nI j)) (1 : Int32).toNatClampNeg = .int (nI j) := rfl
end
section
/-! THE CONSTANT WORLD AT THE START: out of what the Statement gives, by places in its list -/
def fw_fl : List Cond := flatC (Jvm.Cond.and given_1 narrow_1)
abbrev fw_LT : Term := .static "FormatInformation" "FORMAT_INFO_DECODE_LOOKUP" "[[I"
abbrev fw_FB : Term := .static "ErrorCorrectionLevel" "FOR_BITS" "[LErrorCorrectionLevel;"
abbrev fw_lv (i : Nat) : Term := .static "ErrorCorrectionLevel" (fw_nm.getD i "") "LErrorCorrectionLevel;"
theorem fw_m_L : fw_fl[5]? = some (Cond.arrayOf fw_LT (.array .int)) ∧ fw_fl[6]? = some (Cond.eq (.length fw_LT) (.int 32)) := by decide +kernel
theorem fw_m_F : fw_fl[665]? = some (Cond.arrayOf fw_FB (.object "ErrorCorrectionLevel")) ∧ fw_fl[666]? = some (Cond.eq (.length fw_FB) (.int 4)) := by decide +kernel
theorem fw_m_r : ∀ j, j < 32 → fw_fl[8 + 5 * j + j * (j - 1) / 2]? = some (Cond.arrayOf (.elem fw_LT (.int (Int32.ofNat j))) .int) ∧ fw_fl[9 + 5 * j + j * (j - 1) / 2]? = some (Cond.eq (.length (.elem fw_LT (.int (Int32.ofNat j)))) (.int 2)) := by decide +kernel
theorem fw_m_c : ∀ j, j < 32 → fw_fl[10 + 5 * j + j * (j - 1) / 2]? = some (Cond.eq (.elem (.elem fw_LT (.int (Int32.ofNat j))) (.int 0)) (.int (fw_t j))) ∧ fw_fl[11 + 5 * j + j * (j - 1) / 2]? = some (Cond.eq (.elem (.elem fw_LT (.int (Int32.ofNat j))) (.int 1)) (.int (nI j))) := by decide +kernel
theorem fw_m_e : ∀ i, i < 4 → fw_fl[668 + i]? = some (Cond.eq (.elem fw_FB (.int (Int32.ofNat i))) (fw_lv i)) := by decide +kernel
theorem fw_m_x : ∀ i, i < 4 → Cond.exactly (fw_lv i) "ErrorCorrectionLevel" ∈ [fw_fl[674]?, fw_fl[677]?, fw_fl[681]?, fw_fl[686]?].filterMap id := by decide +kernel
theorem fw_m_b : ∀ i, i < 4 → Cond.eq (.field (fw_lv i) "ErrorCorrectionLevel" "bits" "I") (.int (([0, 1, 2, 3] : List Int32).getD i 0)) ∈ [fw_fl[676]?, fw_fl[679]?, fw_fl[683]?, fw_fl[688]?].filterMap id := by decide +kernel
theorem fw_m_d : ∀ i, i < 4 → ∀ j, j < 4 → i < j → Cond.not (.eq (fw_lv i) (fw_lv j)) ∈ [fw_fl[680]?, fw_fl[684]?, fw_fl[685]?, fw_fl[689]?, fw_fl[690]?, fw_fl[691]?].filterMap id := by decide +kernel
theorem fw_in {l : List (Option Cond)} {c : Cond} (hl : ∀ q ∈ l, ∃ i : Nat, q = fw_fl[i]?) (h : c ∈ l.filterMap id) : c ∈ fw_fl := by
  obtain ⟨q, hq, e⟩ := List.mem_filterMap.mp h
  obtain ⟨i, rfl⟩ := hl q hq
  exact List.mem_of_getElem? e
set_option maxHeartbeats 4000000 in
theorem fw_start {args : Array Value} {s : State} {A : Nat → Prop} (hts : ∀ w ∈ lw_tbl, w.before args s = true) (hgv : (Jvm.Cond.and given_1 narrow_1).before args s = true) (hA : ∀ a : Nat, a < s.heap.size → ¬ A a) : ∃ K : fw_K, fw_C K A s s.heap := by
  have hs : ∀ c ∈ fw_fl, c.before args s = true := flat_of_before _ hgv
  have hi : ∀ {i : Nat} {c : Cond}, fw_fl[i]? = some c → c.before args s = true := fun h => hs _ (List.mem_of_getElem? h)
  have hini : (Cond.initialized "ErrorCorrectionLevel").before args s = true := hts _ (lw_all_tbl q5)
  have hini2 : (Cond.initialized "FormatInformation").before args s = true := hts _ (lw_all_tbl q3)
  have hx : ∀ i, i < fw_nm.length → (Cond.exactly (.static "ErrorCorrectionLevel" (fw_nm.getD i "") "LErrorCorrectionLevel;") "ErrorCorrectionLevel").before args s = true := fun i h => hs _ (fw_in (by simp only [List.mem_cons, List.not_mem_nil, or_false]; rintro q (h | h | h | h) <;> exact ⟨_, h⟩) (fw_m_x i h))
  have hb : ∀ q ∈ fw_F, ∀ i, i < fw_nm.length → (Cond.eq (.field (.static "ErrorCorrectionLevel" (fw_nm.getD i "") "LErrorCorrectionLevel;") q.1 q.2.1 q.2.2.1) (.int (q.2.2.2.getD i 0))).before args s = true := by
    intro q hq i h
    rw [List.mem_singleton] at hq
    rw [hq]
    exact hs _ (fw_in (by simp only [List.mem_cons, List.not_mem_nil, or_false]; rintro q (h | h | h | h) <;> exact ⟨_, h⟩) (fw_m_b i h))
  have hd : ∀ i j, i < fw_nm.length → j < fw_nm.length → i < j → (Cond.not (.eq (.static "ErrorCorrectionLevel" (fw_nm.getD i "") "LErrorCorrectionLevel;") (.static "ErrorCorrectionLevel" (fw_nm.getD j "") "LErrorCorrectionLevel;"))).before args s = true := fun i j h1 h2 h3 => hs _ (fw_in (by simp only [List.mem_cons, List.not_mem_nil, or_false]; rintro q (h | h | h | h | h | h) <;> exact ⟨_, h⟩) (fw_m_d i h1 j h2 h3))
  have hl : ∀ i, i < fw_nm.length → (Cond.laysStatic "ErrorCorrectionLevel" (fw_nm.getD i "") "LErrorCorrectionLevel;").before args s = true := by
    intro i h
    have h : i < 4 := h
    rcases (show i = 0 ∨ i = 1 ∨ i = 2 ∨ i = 3 by omega) with rfl | rfl | rfl | rfl
    · exact hts _ q188
    · exact hts _ q189
    · exact hts _ q190
    · exact hts _ q191
  obtain ⟨ad, hE, hev⟩ := va_Enof2 (E := "ErrorCorrectionLevel") (d := "LErrorCorrectionLevel;") (nm := fw_nm) (F := fw_F) (A := A) hl hini hx hb (fun i j h1 h2 h3 => by
    rcases Nat.lt_or_gt_of_ne h3 with q | q
    · exact Or.inl (hd i j h1 h2 q)
    · exact Or.inr (hd j i h2 h1 q)) hA
  obtain ⟨tf, htf, hTf⟩ := va_Tof (tm := fw_FB) (ty := .object "ErrorCorrectionLevel") (N := 4) (f := fun j => .ref (ad j)) (A := A) (by decide) (hi fw_m_F.1) (va_eqt (hi fw_m_F.2)) (fun j hj => va_eqv (hi (fw_m_e j hj)) (hev j hj)) hA
  have hrow : ∀ j : Nat, ∃ t : Nat, j < 32 → (Term.elem fw_LT (.int (Int32.ofNat j))).eval args s none [] s = some (.ref t) ∧ va_T .int t 2 (fun i => .int (if i = 0 then fw_t j else nI j)) A s s.heap := by
    intro j
    by_cases hj : j < 32
    · obtain ⟨t, h1, h2⟩ := va_Tof (tm := .elem fw_LT (.int (Int32.ofNat j))) (ty := .int) (N := 2) (f := fun i => .int (if i = 0 then fw_t j else nI j)) (A := A) (by decide) (hi (fw_m_r j hj).1) (va_eqt (hi (fw_m_r j hj).2)) (fun i h => by
        rcases (show i = 0 ∨ i = 1 by omega) with rfl | rfl
        · exact va_eqt (hi (fw_m_c j hj).1)
        · exact va_eqt (hi (fw_m_c j hj).2)) hA
      exact ⟨t, fun _ => ⟨h1, h2⟩⟩
    · exact ⟨0, fun h => absurd h hj⟩
  obtain ⟨tr, htr⟩ := Classical.axiomOfChoice hrow
  obtain ⟨tl, htl, hTl⟩ := va_Tof (tm := fw_LT) (ty := .array .int) (N := 32) (f := fun j => .ref (tr j)) (A := A) (by decide) (hi fw_m_L.1) (va_eqt (hi fw_m_L.2)) (fun j hj => (htr j hj).1) hA
  exact ⟨(ad, tr, tl, tf), va_Zref (hts _ q46) hini2 htl hA, hTl, fun j hj => (htr j hj).2, va_Zref (hts _ q57) hini htf hA, hTf, hE⟩
end
section
/-! THE LEAVES: bitCount, numBitsDiffering, apart, forBits, the getters, FormatInformation's constructor, FormatWord's -/
set_option maxHeartbeats 4000000 in
set_option maxRecDepth 100000 in
/-- Integer.bitCount: how many ones -/
theorem metJ4_bitCount (l : Launch) (x : Int32) : Met l yJ4_bitCount (ws_ yJ4_bitCount cJ4_bitCount 1 (some .int)) ({ frames := 0, cells := 0, slots := 0, locals := 0 }) (va_Pc [.int x] (fun _ => True)) (vp_Si (fun r : Int32 => r = nI (fw_pc x))) 0 0 (fun _ => False) := by
  refine Met.ofW (cc := cJ4_bitCount) (maxL := 1) (ret := (some .int)) (by decide) rfl ?_
  intro p e s m args below meth c s₁ B hml hv
  obtain ⟨rfl, -⟩ := hv
  have hx := B.exec
  have hb := B.bytes
  have hr := B.returns
  have hts := atoms_spec (ws := (ws_ yJ4_bitCount cJ4_bitCount 1 (some .int))) B.pre
  have hts : ∀ w ∈ lw_all, w.before _ s = true := fun w h => hts w (List.mem_cons_of_mem _ h)
  have hown : s.vm.findClass RJ4 = some m.cls := findClass_of_methodNamed B.named
  have hlocks := B.notSynchronized
  have hl := lv_entry ([.int x]) (n := 1) (Nat.le_of_ble_eq_true rfl)
  rw [lg_entry_eq]
  generalize (lg_sl ([.int x]) ++ List.replicate (1 - (lg_sl ([.int x])).length) Slot.unset).toArray = ls at hl ⊢
  have hl : lv_has ls 1 [(0, .int x)] := hl
  refine lv_iload_n hx hb dJ4_bitCount_0 rfl (lv_at hl 0 rfl) ?_
  refine lv_iload_n hx hb dJ4_bitCount_1 rfl (lv_at hl 0 rfl) ?_
  refine lv_iconst (v := 1) hx hb dJ4_bitCount_2 (by decide) ?_
  refine lv_iushr (v := (x.toUInt32 >>> ((1 : Int32).toUInt32 &&& Int32.toUInt32 31)).toInt32) hx hb dJ4_bitCount_3 rfl ?_
  refine lv_ldcw hx hb hown (hts _ q132) dJ4_bitCount_4 ?_
  refine lv_iand hx hb dJ4_bitCount_7 ?_
  refine lv_isub hx hb dJ4_bitCount_8 ?_
  refine lv_topi (fun x1 ex1 => ?_)
  refine lv_istore_n (lv' := [(0, .int x1)]) hx hb dJ4_bitCount_9 rfl hl (by decide) rfl (fun ls hl => ?_)
  refine lv_iload_n hx hb dJ4_bitCount_10 rfl (lv_at hl 0 rfl) ?_
  refine lv_ldcw hx hb hown (hts _ q133) dJ4_bitCount_11 ?_
  refine lv_iand hx hb dJ4_bitCount_14 ?_
  refine lv_iload_n hx hb dJ4_bitCount_15 rfl (lv_at hl 0 rfl) ?_
  refine lv_iconst (v := 2) hx hb dJ4_bitCount_16 (by decide) ?_
  refine lv_iushr (v := (x1.toUInt32 >>> ((2 : Int32).toUInt32 &&& Int32.toUInt32 31)).toInt32) hx hb dJ4_bitCount_17 rfl ?_
  refine lv_ldcw hx hb hown (hts _ q133) dJ4_bitCount_18 ?_
  refine lv_iand hx hb dJ4_bitCount_21 ?_
  refine lv_iadd hx hb dJ4_bitCount_22 ?_
  refine lv_topi (fun x2 ex2 => ?_)
  refine lv_istore_n (lv' := [(0, .int x2)]) hx hb dJ4_bitCount_23 rfl hl (by decide) rfl (fun ls hl => ?_)
  refine lv_iload_n hx hb dJ4_bitCount_24 rfl (lv_at hl 0 rfl) ?_
  refine lv_iload_n hx hb dJ4_bitCount_25 rfl (lv_at hl 0 rfl) ?_
  refine lv_iconst (v := 4) hx hb dJ4_bitCount_26 (by decide) ?_
  refine lv_iushr (v := (x2.toUInt32 >>> ((4 : Int32).toUInt32 &&& Int32.toUInt32 31)).toInt32) hx hb dJ4_bitCount_27 rfl ?_
  refine lv_iadd hx hb dJ4_bitCount_28 ?_
  refine lv_ldcw hx hb hown (hts _ q134) dJ4_bitCount_29 ?_
  refine lv_iand hx hb dJ4_bitCount_32 ?_
  refine lv_topi (fun x3 ex3 => ?_)
  refine lv_istore_n (lv' := [(0, .int x3)]) hx hb dJ4_bitCount_33 rfl hl (by decide) rfl (fun ls hl => ?_)
  refine lv_iload_n hx hb dJ4_bitCount_34 rfl (lv_at hl 0 rfl) ?_
  refine lv_iload_n hx hb dJ4_bitCount_35 rfl (lv_at hl 0 rfl) ?_
  refine lv_bipush (v := 8) hx hb dJ4_bitCount_36 (by decide) ?_
  refine lv_iushr (v := (x3.toUInt32 >>> ((8 : Int32).toUInt32 &&& Int32.toUInt32 31)).toInt32) hx hb dJ4_bitCount_38 rfl ?_
  refine lv_iadd hx hb dJ4_bitCount_39 ?_
  refine lv_topi (fun x4 ex4 => ?_)
  refine lv_istore_n (lv' := [(0, .int x4)]) hx hb dJ4_bitCount_40 rfl hl (by decide) rfl (fun ls hl => ?_)
  refine lv_iload_n hx hb dJ4_bitCount_41 rfl (lv_at hl 0 rfl) ?_
  refine lv_iload_n hx hb dJ4_bitCount_42 rfl (lv_at hl 0 rfl) ?_
  refine lv_bipush (v := 16) hx hb dJ4_bitCount_43 (by decide) ?_
  refine lv_iushr (v := (x4.toUInt32 >>> ((16 : Int32).toUInt32 &&& Int32.toUInt32 31)).toInt32) hx hb dJ4_bitCount_45 rfl ?_
  refine lv_iadd hx hb dJ4_bitCount_46 ?_
  refine lv_topi (fun x5 ex5 => ?_)
  refine lv_istore_n (lv' := [(0, .int x5)]) hx hb dJ4_bitCount_47 rfl hl (by decide) rfl (fun ls hl => ?_)
  refine lv_iload_n hx hb dJ4_bitCount_48 rfl (lv_at hl 0 rfl) ?_
  refine lv_bipush (v := 63) hx hb dJ4_bitCount_49 (by decide) ?_
  refine lv_iand hx hb dJ4_bitCount_51 ?_
  exact W.iret (v := (x5 &&& (63 : Int32))) hx hb hr (fun t ht hW => ⟨_, rfl, fw_bitCount x x1 x2 x3 x4 x5 ex1 ex2 ex3 ex4 ex5, ht⟩) (fun q h => by cases h) dJ4_bitCount_52
set_option maxHeartbeats 4000000 in
set_option maxRecDepth 100000 in
/-- numBitsDiffering: in how many places -/
theorem metX2_numBitsDiffering (l : Launch) (a b : Int32) : Met l yX2_numBitsDiffering (ws_ yX2_numBitsDiffering cX2_numBitsDiffering 2 (some .int)) ({ frames := 1, cells := 0, slots := 0, locals := 20 }) (va_Pc [.int a, .int b] (fun _ => True)) (vp_Si (fun r : Int32 => r = nI (fw_pc (a ^^^ b)))) 0 0 (fun _ => False) := by
  refine Met.ofW (cc := cX2_numBitsDiffering) (maxL := 2) (ret := (some .int)) (by decide) rfl ?_
  intro p e s m args below meth c s₁ B hml hv
  obtain ⟨rfl, -⟩ := hv
  have hx := B.exec
  have hb := B.bytes
  have hr := B.returns
  have hts := atoms_spec (ws := (ws_ yX2_numBitsDiffering cX2_numBitsDiffering 2 (some .int))) B.pre
  have hts : ∀ w ∈ lw_all, w.before _ s = true := fun w h => hts w (List.mem_cons_of_mem _ h)
  have hown : s.vm.findClass RX2 = some m.cls := findClass_of_methodNamed B.named
  have hlocks := B.notSynchronized
  have hl := lv_entry ([.int a, .int b]) (n := 2) (Nat.le_of_ble_eq_true rfl)
  rw [lg_entry_eq]
  generalize (lg_sl ([.int a, .int b]) ++ List.replicate (2 - (lg_sl ([.int a, .int b])).length) Slot.unset).toArray = ls at hl ⊢
  have hl : lv_has ls 2 [(0, .int a), (1, .int b)] := hl
  refine lv_iload_n hx hb dX2_numBitsDiffering_0 rfl (lv_at hl 0 rfl) ?_
  refine lv_iload_n hx hb dX2_numBitsDiffering_1 rfl (lv_at hl 1 rfl) ?_
  refine lv_ixor hx hb dX2_numBitsDiffering_2 ?_
  refine vp_callSi (va_Run.run (va_runS (As := [.int (a ^^^ b)]) (rest := []) ⟨hx, hb, hml, hown, hts⟩ (metJ4_bitCount l (a ^^^ b)) (va_cwS 1 hts (lw_S q129 q130 q10 q131) rfl rfl rfl (by decide +kernel) ⟨Nat.le_of_ble_eq_true rfl, Nat.le_of_ble_eq_true rfl⟩) ⟨fun _ _ _ _ q => q, fun U hU hW => ⟨rfl, trivial⟩⟩ rfl rfl hl.1 rfl (lv_room (Nat.le_of_ble_eq_true rfl)) dX2_numBitsDiffering_3 ⟨Nat.le_of_ble_eq_true rfl, Nat.le_of_ble_eq_true rfl⟩)) (fun r hrv => ?_)
  exact W.iret (v := r) hx hb hr (fun t ht hW => ⟨_, rfl, hrv, ht⟩) (fun q h => by cases h) dX2_numBitsDiffering_6
set_option maxHeartbeats 4000000 in
set_option maxRecDepth 100000 in
/-- FormatWord.apart: the same -/
theorem metX1_apart (l : Launch) (h0 : Nat) (a b : Int32) : Met l yX1_apart (ws_ yX1_apart cX1_apart 3 (some .int)) ({ frames := 2, cells := 0, slots := 0, locals := 41 }) (va_Pc [.ref h0, .int a, .int b] (fun _ => True)) (vp_Si (fun r : Int32 => r = nI (fw_pc (a ^^^ b)))) 0 0 (fun _ => False) := by
  refine Met.ofW (cc := cX1_apart) (maxL := 3) (ret := (some .int)) (by decide) rfl ?_
  intro p e s m args below meth c s₁ B hml hv
  obtain ⟨rfl, -⟩ := hv
  have hx := B.exec
  have hb := B.bytes
  have hr := B.returns
  have hts := atoms_spec (ws := (ws_ yX1_apart cX1_apart 3 (some .int))) B.pre
  have hts : ∀ w ∈ lw_all, w.before _ s = true := fun w h => hts w (List.mem_cons_of_mem _ h)
  have hown : s.vm.findClass RX1 = some m.cls := findClass_of_methodNamed B.named
  have hlocks := B.notSynchronized
  have hl := lv_entry ([.ref h0, .int a, .int b]) (n := 3) (Nat.le_of_ble_eq_true rfl)
  rw [lg_entry_eq]
  generalize (lg_sl ([.ref h0, .int a, .int b]) ++ List.replicate (3 - (lg_sl ([.ref h0, .int a, .int b])).length) Slot.unset).toArray = ls at hl ⊢
  have hl : lv_has ls 3 [(0, .ref h0), (1, .int a), (2, .int b)] := hl
  refine lv_iload_n hx hb dX1_apart_0 rfl (lv_at hl 1 rfl) ?_
  refine lv_iload_n hx hb dX1_apart_1 rfl (lv_at hl 2 rfl) ?_
  refine vp_callSi (va_Run.run (va_runS (As := [.int a, .int b]) (rest := []) ⟨hx, hb, hml, hown, hts⟩ (metX2_numBitsDiffering l a b) (va_cwS 2 hts (lw_S q151 q127 q3 q128) rfl rfl rfl (by decide +kernel) ⟨Nat.le_of_ble_eq_true rfl, Nat.le_of_ble_eq_true rfl⟩) ⟨fun _ _ _ _ q => q, fun U hU hW => ⟨rfl, trivial⟩⟩ rfl rfl hl.1 rfl (lv_room (Nat.le_of_ble_eq_true rfl)) dX1_apart_2 ⟨Nat.le_of_ble_eq_true rfl, Nat.le_of_ble_eq_true rfl⟩)) (fun r hrv => ?_)
  exact W.iret (v := r) hx hb hr (fun t ht hW => ⟨_, rfl, hrv, ht⟩) (fun q h => by cases h) dX1_apart_5
set_option maxHeartbeats 4000000 in
set_option maxRecDepth 100000 in
/-- forBits: the level of these bits -/
theorem metX3_forBits (l : Launch) (K : fw_K) (A : Nat → Prop) (i : Nat) (hi : i < 4) : Met l yX3_forBits (ws_ yX3_forBits cX3_forBits 1 (some (.object "ErrorCorrectionLevel"))) ({ frames := 0, cells := 0, slots := 0, locals := 0 }) (va_Pc [.int (nI i)] (fun U => fw_C K A U U.heap)) (va_Sr (fun k => k = i) (fun k => .ref (K.1 k))) 0 0 (fun _ => False) := by
  refine Met.ofW (cc := cX3_forBits) (maxL := 1) (ret := (some (.object "ErrorCorrectionLevel"))) (by decide) rfl ?_
  intro p e s m args below meth c s₁ B hml hv
  obtain ⟨rfl, hC⟩ := hv
  have hx := B.exec
  have hb := B.bytes
  have hr := B.returns
  have hts := atoms_spec (ws := (ws_ yX3_forBits cX3_forBits 1 (some (.object "ErrorCorrectionLevel")))) B.pre
  have hts : ∀ w ∈ lw_all, w.before _ s = true := fun w h => hts w (List.mem_cons_of_mem _ h)
  have hown : s.vm.findClass RX3 = some m.cls := findClass_of_methodNamed B.named
  have hlocks := B.notSynchronized
  have hS : va_S A s.heap s.heap [] := va_S.rf
  have hl := lv_entry ([.int (nI i)]) (n := 1) (Nat.le_of_ble_eq_true rfl)
  rw [lg_entry_eq]
  generalize (lg_sl ([.int (nI i)]) ++ List.replicate (1 - (lg_sl ([.int (nI i)])).length) Slot.unset).toArray = ls at hl ⊢
  have hl : lv_has ls 1 [(0, .int (nI i))] := hl
  refine lv_iload_n hx hb dX3_forBits_0 rfl (lv_at hl 0 rfl) ?_
  refine lv_if_lt (tgt := 12) hx hb dX3_forBits_1 (by decide) (fun c_1 => ?_) (fun c_1 => ?_)
  · exact absurd c_1 (nI_pos (by omega))
  · refine lv_iload_n hx hb dX3_forBits_4 rfl (lv_at hl 0 rfl) ?_
    refine va_gets hx hb hC.2.2.2.1 hS hown (hts _ q56) (fun _ h9 => h9) dX3_forBits_5 ?_
    refine va_tlen hx hb hC.2.2.2.2.1 hS (v := 4) rfl dX3_forBits_8 ?_
    refine lv_icmp_lt (tgt := 20) hx hb dX3_forBits_9 (by decide) (fun c_2 => ?_) (fun c_2 => ?_)
    · refine va_gets hx hb hC.2.2.2.1 hS hown (hts _ q56) (fun _ h9 => h9) dX3_forBits_20 ?_
      refine lv_iload_n hx hb dX3_forBits_23 rfl (lv_at hl 0 rfl) ?_
      refine vb_tq hx hb hC.2.2.2.2.1 hS (v := .ref (K.1 i)) (vp_in_nI hi (by decide)) (by rw [nI_clamp (by omega)]) dX3_forBits_24 ?_
      exact W.aret (v := .ref (K.1 i)) hx hb hr (Or.inl ⟨_, rfl⟩) (Or.inr ⟨_, rfl⟩) (fun t ht hW => ⟨i, rfl, rfl, ht⟩) (fun q h => by cases h) dX3_forBits_25
    · exact absurd ((nI_ltI (b := 4) (by omega) (by omega)).mpr hi) c_2
set_option maxHeartbeats 4000000 in
set_option maxRecDepth 100000 in
/-- getBits: the bits of this level -/
theorem metX3_getBits (l : Launch) (K : fw_K) (A : Nat → Prop) (i : Nat) (hi : i < 4) : Met l yX3_getBits (ws_ yX3_getBits cX3_getBits 1 (some .int)) ({ frames := 0, cells := 0, slots := 0, locals := 0 }) (va_Pc [.ref (K.1 i)] (fun U => fw_C K A U U.heap)) (vp_Si (fun r : Int32 => r = nI i)) 0 0 (fun _ => False) := by
  refine Met.ofW (cc := cX3_getBits) (maxL := 1) (ret := (some .int)) (by decide) rfl ?_
  intro p e s m args below meth c s₁ B hml hv
  obtain ⟨rfl, hC⟩ := hv
  have hx := B.exec
  have hb := B.bytes
  have hr := B.returns
  have hts := atoms_spec (ws := (ws_ yX3_getBits cX3_getBits 1 (some .int))) B.pre
  have hts : ∀ w ∈ lw_all, w.before _ s = true := fun w h => hts w (List.mem_cons_of_mem _ h)
  have hown : s.vm.findClass RX3 = some m.cls := findClass_of_methodNamed B.named
  have hlocks := B.notSynchronized
  have hS : va_S A s.heap s.heap [] := va_S.rf
  have hl := lv_entry ([.ref (K.1 i)]) (n := 1) (Nat.le_of_ble_eq_true rfl)
  rw [lg_entry_eq]
  generalize (lg_sl ([.ref (K.1 i)]) ++ List.replicate (1 - (lg_sl ([.ref (K.1 i)])).length) Slot.unset).toArray = ls at hl ⊢
  have hl : lv_has ls 1 [(0, .ref (K.1 i))] := hl
  refine lv_aload_n hx hb dX3_getBits_0 rfl (lv_at hl 0 rfl) ?_
  refine va_getE (q := ("ErrorCorrectionLevel", "bits", "I", [0, 1, 2, 3])) (i := i) hx hb hC.2.2.2.2.2 hi hS hown (List.mem_singleton.mpr rfl) (hts _ q186) (fun _ h9 => h9) dX3_getBits_1 ?_
  exact W.iret (v := (([0, 1, 2, 3] : List Int32).getD i 0)) hx hb hr (fun t ht hW => ⟨_, rfl, fw_bits i hi, ht⟩) (fun q h => by cases h) dX3_getBits_4
set_option maxHeartbeats 4000000 in
set_option maxRecDepth 100000 in
/-- getErrorCorrectionLevel: the field -/
theorem metX2_getErrorCorrectionLevel (l : Launch) (D : va_G) (h0 q1 : Nat) (d : Int32) : Met l yX2_getErrorCorrectionLevel (ws_ yX2_getErrorCorrectionLevel cX2_getErrorCorrectionLevel 1 (some (.object "ErrorCorrectionLevel"))) ({ frames := 0, cells := 0, slots := 0, locals := 0 }) (va_Pc [.ref h0] (fun U => va_P D fw_cl [(h0, .inr (1, [.ref q1, .int d]))] U.heap ∧ va_K D fw_cl [] U)) (va_Sr (fun _ => True) (fun _ => .ref q1)) 0 0 (fun _ => False) := by
  refine Met.ofW (cc := cX2_getErrorCorrectionLevel) (maxL := 1) (ret := (some (.object "ErrorCorrectionLevel"))) (by decide) rfl ?_
  intro p e s m args below meth c s₁ B hml hv
  obtain ⟨rfl, hP, hK⟩ := hv
  have hx := B.exec
  have hb := B.bytes
  have hr := B.returns
  have hts := atoms_spec (ws := (ws_ yX2_getErrorCorrectionLevel cX2_getErrorCorrectionLevel 1 (some (.object "ErrorCorrectionLevel")))) B.pre
  have hts : ∀ w ∈ lw_all, w.before _ s = true := fun w h => hts w (List.mem_cons_of_mem _ h)
  have hown : s.vm.findClass RX2 = some m.cls := findClass_of_methodNamed B.named
  have hlocks := B.notSynchronized
  have hP : va_P D fw_cl [(h0, .inr (1, [.ref q1, .int d]))] s.heap := hP
  have hl := lv_entry ([.ref h0]) (n := 1) (Nat.le_of_ble_eq_true rfl)
  rw [lg_entry_eq]
  generalize (lg_sl ([.ref h0]) ++ List.replicate (1 - (lg_sl ([.ref h0])).length) Slot.unset).toArray = ls at hl ⊢
  have hl : lv_has ls 1 [(0, .ref h0)] := hl
  refine lv_aload_n hx hb dX2_getErrorCorrectionLevel_0 rfl (lv_at hl 0 rfl) ?_
  refine va_get (D := D) (ci := 1) (v := .ref q1) (C := RX2) (T := TX2) (N := 2) hx hb hts in_X2 hown hK hP 0 rfl rfl 0 (by decide) (hts _ q119) (fun _ h9 => h9) rfl dX2_getErrorCorrectionLevel_1 ?_
  exact W.aret (v := .ref q1) hx hb hr (Or.inl ⟨_, rfl⟩) (Or.inr ⟨_, rfl⟩) (fun t ht hW => ⟨0, rfl, trivial, ht⟩) (fun q h => by cases h) dX2_getErrorCorrectionLevel_4
set_option maxHeartbeats 4000000 in
set_option maxRecDepth 100000 in
/-- getDataMask: the field -/
theorem metX2_getDataMask (l : Launch) (D : va_G) (h0 q1 : Nat) (d : Int32) (hd : narrow .byte (.int d) = .int d) : Met l yX2_getDataMask (ws_ yX2_getDataMask cX2_getDataMask 1 (some .byte)) ({ frames := 0, cells := 0, slots := 0, locals := 0 }) (va_Pc [.ref h0] (fun U => va_P D fw_cl [(h0, .inr (1, [.ref q1, .int d]))] U.heap ∧ va_K D fw_cl [] U)) (vp_Si (fun r : Int32 => r = d)) 0 0 (fun _ => False) := by
  refine Met.ofW (cc := cX2_getDataMask) (maxL := 1) (ret := (some .byte)) (by decide) rfl ?_
  intro p e s m args below meth c s₁ B hml hv
  obtain ⟨rfl, hP, hK⟩ := hv
  have hx := B.exec
  have hb := B.bytes
  have hr := B.returns
  have hts := atoms_spec (ws := (ws_ yX2_getDataMask cX2_getDataMask 1 (some .byte))) B.pre
  have hts : ∀ w ∈ lw_all, w.before _ s = true := fun w h => hts w (List.mem_cons_of_mem _ h)
  have hown : s.vm.findClass RX2 = some m.cls := findClass_of_methodNamed B.named
  have hlocks := B.notSynchronized
  have hP : va_P D fw_cl [(h0, .inr (1, [.ref q1, .int d]))] s.heap := hP
  have hl := lv_entry ([.ref h0]) (n := 1) (Nat.le_of_ble_eq_true rfl)
  rw [lg_entry_eq]
  generalize (lg_sl ([.ref h0]) ++ List.replicate (1 - (lg_sl ([.ref h0])).length) Slot.unset).toArray = ls at hl ⊢
  have hl : lv_has ls 1 [(0, .ref h0)] := hl
  refine lv_aload_n hx hb dX2_getDataMask_0 rfl (lv_at hl 0 rfl) ?_
  refine va_get (D := D) (ci := 1) (v := .int d) (C := RX2) (T := TX2) (N := 2) hx hb hts in_X2 hown hK hP 0 rfl rfl 1 (by decide) (hts _ q120) (fun _ h9 => h9) rfl dX2_getDataMask_1 ?_
  exact W.zret (v := d) hx hb hr hd (fun t ht hW => ⟨_, rfl, rfl, ht⟩) (fun q h => by cases h) dX2_getDataMask_4
set_option maxHeartbeats 4000000 in
set_option maxRecDepth 100000 in
/-- FormatWord(): nothing -/
theorem metX1_init (l : Launch) (h0 : Nat) : Met l yX1_init (ws_ yX1_init cX1_init 1 (none)) ({ frames := 1, cells := 0, slots := 0, locals := 12 }) (va_Pc [.ref h0] (fun _ => True)) (va_Sv (fun _ => True)) 0 0 (fun _ => False) := by
  refine Met.ofW (cc := cX1_init) (maxL := 1) (ret := (none)) (by decide) rfl ?_
  intro p e s m args below meth c s₁ B hml hv
  obtain ⟨rfl, -⟩ := hv
  have hx := B.exec
  have hb := B.bytes
  have hr := B.returns
  have hts := atoms_spec (ws := (ws_ yX1_init cX1_init 1 (none))) B.pre
  have hts : ∀ w ∈ lw_all, w.before _ s = true := fun w h => hts w (List.mem_cons_of_mem _ h)
  have hown : s.vm.findClass RX1 = some m.cls := findClass_of_methodNamed B.named
  have hlocks := B.notSynchronized
  have hl := lv_entry ([.ref h0]) (n := 1) (Nat.le_of_ble_eq_true rfl)
  rw [lg_entry_eq]
  generalize (lg_sl ([.ref h0]) ++ List.replicate (1 - (lg_sl ([.ref h0])).length) Slot.unset).toArray = ls at hl ⊢
  have hl : lv_has ls 1 [(0, .ref h0)] := hl
  refine lv_aload_n hx hb dX1_init_0 rfl (lv_at hl 0 rfl) ?_
  refine W.objInit hx hb hown (hts _ q20) (hts _ q21) (hts _ q22) rfl (by rw [hml]; exact hl.1) rfl dX1_init_1 (Nat.le_of_ble_eq_true rfl) (Nat.le_of_ble_eq_true rfl) ?_
  refine W.eq (g2 := F0 m 4 ls []) rfl ?_
  exact W.vret hx hb hr (fun t ht hW => ⟨rfl, trivial, ht⟩) (fun q h => by cases h) dX1_init_4
set_option maxHeartbeats 4000000 in
set_option maxRecDepth 100000 in
/-- FormatInformation(k): the level by its bits, the mask -/
theorem metX2_init (l : Launch) (D : va_G) (K : fw_K) (h0 sz k : Nat) (hk : k < 32) : Met l yX2_init (ws_ yX2_init cX2_init 2 (none)) ({ frames := 1, cells := 0, slots := 0, locals := 20 }) (va_Pc [.ref h0, .int (nI k)] (fun U => U.heap.size = sz ∧ va_P D fw_cl [(h0, .inr (1, [.null, .int 0]))] U.heap ∧ va_K D fw_cl [] U ∧ va_D (fun _ => True) [(h0, .inr (1, [.null, .int 0]))] ∧ fw_C K (va_A [(h0, .inr (1, [.null, .int 0]))] sz) U U.heap)) (va_Qv (fun _ : Unit => True) (fun _ t => va_P D fw_cl [(h0, .inr (1, [.ref (K.1 (k / 8)), .int (nI (k % 8))]))] t.heap ∧ va_K D fw_cl [] t ∧ va_D (va_A [(h0, .inr (1, [.null, .int 0]))] sz) [(h0, .inr (1, [.ref (K.1 (k / 8)), .int (nI (k % 8))]))]) (va_A [(h0, .inr (1, [.null, .int 0]))] sz)) 0 0 (va_A [(h0, .inr (1, [.null, .int 0]))] sz) := by
  refine Met.ofW (cc := cX2_init) (maxL := 2) (ret := (none)) (by decide) rfl ?_
  intro p e s m args below meth c s₁ B hml hv
  obtain ⟨rfl, hsz, hP, hK, hD0, hC⟩ := hv
  have hx := B.exec
  have hb := B.bytes
  have hr := B.returns
  have hts := atoms_spec (ws := (ws_ yX2_init cX2_init 2 (none))) B.pre
  have hts : ∀ w ∈ lw_all, w.before _ s = true := fun w h => hts w (List.mem_cons_of_mem _ h)
  have hown : s.vm.findClass RX2 = some m.cls := findClass_of_methodNamed B.named
  have hlocks := B.notSynchronized
  have hin : meth.name = "<init>" := (name_of_methodNamed B.named B.method).1
  subst hsz
  have hD := hD0.self (sz := s.heap.size)
  generalize hAe : va_A [(h0, .inr (1, [.null, .int 0]))] s.heap.size = A at hD hC ⊢
  have hA : ∀ q : Nat, s.heap.size ≤ q → A q := fun q h => by rw [← hAe]; exact Or.inr h
  have hS : va_S A s.heap s.heap [] := va_S.rf
  have hP : va_P D fw_cl [(h0, .inr (1, [.null, .int 0]))] s.heap := hP
  have hl := lv_entry ([.ref h0, .int (nI k)]) (n := 2) (Nat.le_of_ble_eq_true rfl)
  rw [lg_entry_eq]
  generalize (lg_sl ([.ref h0, .int (nI k)]) ++ List.replicate (2 - (lg_sl ([.ref h0, .int (nI k)])).length) Slot.unset).toArray = ls at hl ⊢
  have hl : lv_has ls 2 [(0, .ref h0), (1, .int (nI k))] := hl
  refine lv_aload_n hx hb dX2_init_0 rfl (lv_at hl 0 rfl) ?_
  refine W.objInit hx hb hown (hts _ q52) (hts _ q21) (hts _ q22) rfl (by rw [hml]; exact hl.1) rfl dX2_init_1 (Nat.le_of_ble_eq_true rfl) (Nat.le_of_ble_eq_true rfl) ?_
  refine W.eq (g2 := F0 m 4 ls []) rfl ?_
  refine lv_aload_n hx hb dX2_init_4 rfl (lv_at hl 0 rfl) ?_
  refine lv_iload_n hx hb dX2_init_5 rfl (lv_at hl 1 rfl) ?_
  refine lv_iconst (v := 3) hx hb dX2_init_6 (by decide) ?_
  refine lv_ishr hx hb dX2_init_7 ?_
  refine lv_iconst (v := 3) hx hb dX2_init_8 (by decide) ?_
  refine lv_iand hx hb dX2_init_9 ?_
  refine fw_top (nI (k / 8)) ((fw_parts k hk).1) ?_
  refine va_csr (va_Run.run (va_runS (As := [.int (nI (k / 8))]) (rest := [.ref h0]) ⟨hx, hb, hml, hown, hts⟩ (metX3_forBits l K A (k / 8) (by omega)) (va_cwS 1 hts (lw_S q53 q54 q5 q55) rfl rfl rfl (by decide +kernel) ⟨Nat.le_of_ble_eq_true rfl, Nat.le_of_ble_eq_true rfl⟩) ⟨fw_C.blind, fun U hU hW => ⟨rfl, fw_C.make hC hS hU hW.alike⟩⟩ rfl rfl hl.1 rfl (lv_room (Nat.le_of_ble_eq_true rfl)) dX2_init_10 ⟨Nat.le_of_ble_eq_true rfl, Nat.le_of_ble_eq_true rfl⟩)) (fun j hj => ?_)
  subst hj
  refine va_putF (D := D) (ci := 1) (v := .ref (K.1 (k / 8))) (ty := .object "ErrorCorrectionLevel") (C := RX2) (T := TX2) (N := 2) hx hb hts in_X2 tyX2 tyX2_ok nmX2 hown hK hP hD hS 0 rfl rfl 0 (by decide) (hts _ q119) (fun _ h9 => h9) rfl hin rfl (by decide +kernel) rfl rfl (Nat.le_of_ble_eq_true rfl) dX2_init_13 (fun H locs hP hD hS => ?_)
  have hP : va_P D fw_cl [(h0, .inr (1, [.ref (K.1 (k / 8)), .int 0]))] H := hP
  have hD : va_D A [(h0, .inr (1, [.ref (K.1 (k / 8)), .int 0]))] := hD
  refine lv_aload_n hx hb dX2_init_16 rfl (lv_at hl 0 rfl) ?_
  refine lv_iload_n hx hb dX2_init_17 rfl (lv_at hl 1 rfl) ?_
  refine lv_bipush (v := 7) hx hb dX2_init_18 (by decide) ?_
  refine lv_iand hx hb dX2_init_20 ?_
  refine lv_i2b (v := nI (k % 8)) hx hb dX2_init_21 (fw_parts k hk).2.1 ?_
  have hb8 := fw_byte8 (k % 8) (Nat.mod_lt _ (by decide))
  refine va_putF (D := D) (ci := 1) (v := .int (nI (k % 8))) (ty := .byte) (C := RX2) (T := TX2) (N := 2) hx hb hts in_X2 tyX2 tyX2_ok nmX2 hown hK hP hD hS 0 rfl rfl 1 (by decide) (hts _ q120) (fun _ h9 => h9) rfl hin rfl (by decide +kernel) hb8.1 hb8.2 (Nat.le_of_ble_eq_true rfl) dX2_init_22 (fun H locs hP hD hS => ?_)
  have hP : va_P D fw_cl [(h0, .inr (1, [.ref (K.1 (k / 8)), .int (nI (k % 8))]))] H := hP
  have hD : va_D A [(h0, .inr (1, [.ref (K.1 (k / 8)), .int (nI (k % 8))]))] := hD
  exact W.vret hx hb hr (fun t ht hW => ⟨⟨(), rfl, trivial, by rw [ht]; exact hP, va_K.moved hW.alike hK, hD⟩, hS.F ht⟩) hS.2.2 dX2_init_25
end
section
/-! THE COMPONENT'S SEARCH: doDecodeFormatInformation, decodeFormatInformation, FormatWord.read -/
/-- the object that was made for the k-th word, if one was: (its cell, k) -/
def fw_made (D : va_G) (K : fw_K) (A : Nat → Prop) (u : Option (Nat × Nat)) (H : Heap) : Prop := match u with
  | none => True
  | some q => q.2 < 32 ∧ va_P D fw_cl [(q.1, .inr (1, [.ref (K.1 (q.2 / 8)), .int (nI (q.2 % 8))]))] H ∧ va_D A [(q.1, .inr (1, [.ref (K.1 (q.2 / 8)), .int (nI (q.2 % 8))]))]
theorem fw_made.weaken {D : va_G} {K : fw_K} {A B : Nat → Prop} {u : Option (Nat × Nat)} {H : Heap} (h : fw_made D K A u H) (hAB : ∀ q, A q → B q) : fw_made D K B u H := by
  cases u with
  | none => trivial
  | some q => exact ⟨h.1, h.2.1, h.2.2.weaken (fun k q _ g => hAB q.1 g)⟩
/-- the answer is that object, or null -/
def fw_found (a b : Int32) (r : Option Nat) (u : Option (Nat × Nat)) : Prop := r = u.map Prod.fst ∧ fw_D a b (u.map Prod.snd)
def fw_found2 (a b : Int32) (r : Option Nat) (u : Option (Nat × Nat)) : Prop := r = u.map Prod.fst ∧ fw_DD a b (u.map Prod.snd)
set_option maxHeartbeats 4000000 in
set_option maxRecDepth 100000 in
/-- doDecodeFormatInformation: the first of the nearest words, if near enough -/
theorem metX2_doDecodeFormatInformation (l : Launch) (D : va_G) (K : fw_K) (sz : Nat) (a b : Int32) : Met l yX2_doDecodeFormatInformation (ws_ yX2_doDecodeFormatInformation cX2_doDecodeFormatInformation 10 (some (.object "FormatInformation"))) ({ frames := 2, cells := 1, slots := 2, locals := 41 }) (va_Pc [.int a, .int b] (fw_Pre D K sz)) (va_Qq (fw_found a b) (fun u t => fw_made D K (fun q => sz ≤ q) u t.heap) (fun q => sz ≤ q)) 1 2 (fun q => sz ≤ q) := by
  refine Met.ofW (cc := cX2_doDecodeFormatInformation) (maxL := 10) (ret := (some (.object "FormatInformation"))) (by decide) rfl ?_
  intro p e s m args below meth c s₁ B hml hv
  obtain ⟨rfl, hsz, hK, hC⟩ := hv
  have hx := B.exec
  have hb := B.bytes
  have hr := B.returns
  have hts := atoms_spec (ws := (ws_ yX2_doDecodeFormatInformation cX2_doDecodeFormatInformation 10 (some (.object "FormatInformation")))) B.pre
  have hts : ∀ w ∈ lw_all, w.before _ s = true := fun w h => hts w (List.mem_cons_of_mem _ h)
  have hown : s.vm.findClass RX2 = some m.cls := findClass_of_methodNamed B.named
  have hlocks := B.notSynchronized
  subst hsz
  have hS : va_S (fun q => s.heap.size ≤ q) s.heap s.heap [] := va_S.rf
  have hA : ∀ q, s.heap.size ≤ q → (fun q => s.heap.size ≤ q) q := fun q h => h
  have hP : va_P D fw_cl [] s.heap := fun k q h => by simp at h
  have hD : va_D (fun q => s.heap.size ≤ q) [] := ⟨fun i j p q h => by simp at h, fun k q h => by simp at h⟩
  have loop : ∀ (n i : Nat) (best fmt : Int32), i + n = 32 → fw_I a b i best fmt → ∀ ls : Array Slot, lv_has ls 10 [(6, .int (nI i)), (5, .int (nI 32)), (4, .ref K.2.2.1), (3, .int fmt), (2, .int best), (0, .int a), (1, .int b)] → W p l e (headSpec (ws_ yX2_doDecodeFormatInformation cX2_doDecodeFormatInformation 10 (some (.object "FormatInformation"))) ({ frames := 2, cells := 1, slots := 2, locals := 41 })).room s m ([.int a, .int b] : List Value).toArray below meth c s.heap [] (0) (0) (MQ below (va_Qq (fw_found a b) (fun u t => fw_made D K (fun q => s.heap.size ≤ q) u t.heap) (fun q => s.heap.size ≤ q)) ([.int a, .int b] : List Value).toArray s 1 2 (fun q => s.heap.size ≤ q)) (F0 m 18 ls []) := by
    intro n
    induction n with
    | zero =>
      intro i best fmt hi hI ls hl
      have hi : i = 32 := by omega
      subst hi
      refine lv_iload hx hb dX2_doDecodeFormatInformation_18 (lv_at hl 0 rfl) ?_
      refine lv_iload hx hb dX2_doDecodeFormatInformation_20 (lv_at hl 1 rfl) ?_
      refine lv_icmp_ge (tgt := 117) hx hb dX2_doDecodeFormatInformation_22 (by decide) (fun c_1 => ?_) (fun c_1 => ?_)
      · refine lv_iload_n hx hb dX2_doDecodeFormatInformation_117 rfl (lv_at hl 4 rfl) ?_
        refine lv_iconst (v := 3) hx hb dX2_doDecodeFormatInformation_118 (by decide) ?_
        refine lv_icmp_gt (tgt := 131) hx hb dX2_doDecodeFormatInformation_119 (by decide) (fun c_2 => ?_) (fun c_2 => ?_)
        · refine lv_null hx hb dX2_doDecodeFormatInformation_131 ?_
          refine W.widen (k := 1) (n := 2) (by decide) (by decide) ?_
          exact W.aret (v := .null) hx hb hr (Or.inl ⟨_, rfl⟩) (Or.inl rfl) (fun t ht hW => ⟨⟨none, none, rfl, ⟨rfl, fw_I_far hI c_2⟩, trivial⟩, hS.F ht⟩) hS.2.2 dX2_doDecodeFormatInformation_132
        · obtain ⟨k, hk, rfl, hDk⟩ := fw_I_near hI c_2
          refine va_new (ci := 1) (fs := [.null, .int 0]) (C := RX2) (T := TX2) (N := 2) hx hb hts in_X2 tyX2 tyX2_ok hown (hts _ q47) (hts _ q48) (hts _ q3) hK hP hD hS hA rfl (fun j hj => by rcases (show j = 0 ∨ j = 1 by omega) with rfl | rfl <;> rfl) (Nat.le_of_ble_eq_true rfl) (Nat.le_of_ble_eq_true rfl) dX2_doDecodeFormatInformation_122 (fun y H hP hD hS => ?_)
          have hP : va_P D fw_cl [(y, .inr (1, [.null, .int 0]))] H := hP
          have hD : va_D (fun q => s.heap.size ≤ q) [(y, .inr (1, [.null, .int 0]))] := hD
          refine lv_dup hx hb dX2_doDecodeFormatInformation_125 rfl ?_
          refine lv_iload_n hx hb dX2_doDecodeFormatInformation_126 rfl (lv_at hl 3 rfl) ?_
          have hFc := va_free (wc := [(y, .inr (1, [.null, .int 0]))]) hD hS hA [0] rfl
          refine va_callv (va_runI (As := [.int (nI k)]) (rest := [.ref y]) ⟨hx, hb, hml, hown, hts⟩ (metX2_init l D K y H.size k hk) (cwI 1 hts (lw_meth q51) rfl rfl rfl (hts _ q3) (hts _ q49) (hts _ q50) rfl (by decide +kernel) ⟨Nat.le_of_ble_eq_true rfl, Nat.le_of_ble_eq_true rfl⟩) ⟨fun a U g mk q => by obtain ⟨q0, q1, qP, qK, qD, qC⟩ := q; exact ⟨q0, q1, qP, va_K.moved (u := U) (U := U.calling g mk a) (Vm.Alike.refl U.vm) qK, qD, fw_C.moved (u := U) (U := U.calling g mk a) (Vm.Alike.refl U.vm) qC⟩, fun U hU hW => ⟨rfl, by rw [hU], by rw [hU]; exact hP, va_K.moved hW.alike hK, hD.weaken (fun _ _ _ _ => trivial), by rw [hU]; exact ((hC.kept hS.2.1).moved hW.alike).narrow hFc⟩⟩ rfl rfl hl.1 rfl (lv_room (Nat.le_of_ble_eq_true rfl)) dX2_doDecodeFormatInformation_127 ⟨Nat.le_of_ble_eq_true rfl, Nat.le_of_ble_eq_true rfl⟩) hS (fun q _ h => hFc q h) hFc (fun u t H1 locs ht hvm hw hB hz hk1 hS => ?_)
          obtain ⟨hP1, hK1, hD1⟩ := hB
          rw [ht] at hP1
          exact W.aret (v := .ref y) hx hb hr (Or.inl ⟨_, rfl⟩) (Or.inr ⟨_, rfl⟩) (fun t ht hW => ⟨⟨some y, some (y, k), rfl, ⟨rfl, hDk⟩, hk, by rw [ht]; exact hP1, hD1.weaken (fun k q _ h => hFc q.1 h)⟩, hS.F ht⟩) hS.2.2 dX2_doDecodeFormatInformation_130
      · exact absurd (nI_le (Nat.le_refl 32) (by decide)) c_1
    | succ n ih =>
      intro i best fmt hi hI ls hl
      have hi32 : i < 32 := by omega
      refine lv_iload hx hb dX2_doDecodeFormatInformation_18 (lv_at hl 0 rfl) ?_
      refine lv_iload hx hb dX2_doDecodeFormatInformation_20 (lv_at hl 1 rfl) ?_
      refine lv_icmp_ge (tgt := 117) hx hb dX2_doDecodeFormatInformation_22 (by decide) (fun c_1 => ?_) (fun c_1 => ?_)
      · exact absurd c_1 (nI_ge hi32 (by decide))
      · refine lv_aload hx hb dX2_doDecodeFormatInformation_25 (lv_at hl 2 rfl) ?_
        refine lv_iload hx hb dX2_doDecodeFormatInformation_27 (lv_at hl 0 rfl) ?_
        refine fw_tq hx hb hC.2.1 hS (v := .ref (K.2.1 i)) (vp_in_nI hi32 (by decide)) (by rw [nI_clamp (by omega)]) dX2_doDecodeFormatInformation_29 ?_
        refine lv_astore (lv' := [(7, .ref (K.2.1 i)), (6, .int (nI i)), (5, .int (nI 32)), (4, .ref K.2.2.1), (3, .int fmt), (2, .int best), (0, .int a), (1, .int b)]) hx hb dX2_doDecodeFormatInformation_30 hl (by decide) rfl (fun ls hl => ?_)
        refine lv_aload hx hb dX2_doDecodeFormatInformation_32 (lv_at hl 0 rfl) ?_
        refine lv_iconst (v := 0) hx hb dX2_doDecodeFormatInformation_34 (by decide) ?_
        refine va_ti hx hb (hC.2.2.1 i hi32) hS (v := .int (fw_t i)) (vp_in_nI (n := 0) (by decide) (by decide)) (fw_row0 rfl) dX2_doDecodeFormatInformation_35 ?_
        refine lv_istore (lv' := [(8, .int (fw_t i)), (7, .ref (K.2.1 i)), (6, .int (nI i)), (5, .int (nI 32)), (4, .ref K.2.2.1), (3, .int fmt), (2, .int best), (0, .int a), (1, .int b)]) hx hb dX2_doDecodeFormatInformation_36 hl (by decide) rfl (fun ls hl => ?_)
        refine lv_iload hx hb dX2_doDecodeFormatInformation_38 (lv_at hl 0 rfl) ?_
        refine lv_iload_n hx hb dX2_doDecodeFormatInformation_40 rfl (lv_at hl 7 rfl) ?_
        refine lv_icmp_eq (tgt := 50) hx hb dX2_doDecodeFormatInformation_41 (by decide) (fun c_2 => ?_) (fun c_2 => ?_)
        · refine va_new (ci := 1) (fs := [.null, .int 0]) (C := RX2) (T := TX2) (N := 2) hx hb hts in_X2 tyX2 tyX2_ok hown (hts _ q47) (hts _ q48) (hts _ q3) hK hP hD hS hA rfl (fun j hj => by rcases (show j = 0 ∨ j = 1 by omega) with rfl | rfl <;> rfl) (Nat.le_of_ble_eq_true rfl) (Nat.le_of_ble_eq_true rfl) dX2_doDecodeFormatInformation_50 (fun y H hP hD hS => ?_)
          have hP : va_P D fw_cl [(y, .inr (1, [.null, .int 0]))] H := hP
          have hD : va_D (fun q => s.heap.size ≤ q) [(y, .inr (1, [.null, .int 0]))] := hD
          refine lv_dup hx hb dX2_doDecodeFormatInformation_53 rfl ?_
          refine lv_aload hx hb dX2_doDecodeFormatInformation_54 (lv_at hl 1 rfl) ?_
          refine lv_iconst (v := 1) hx hb dX2_doDecodeFormatInformation_56 (by decide) ?_
          refine va_ti hx hb (hC.2.2.1 i hi32) hS (v := .int (nI i)) (vp_in_nI (n := 1) (by decide) (by decide)) fw_row1 dX2_doDecodeFormatInformation_57 ?_
          have hFc := va_free (wc := [(y, .inr (1, [.null, .int 0]))]) hD hS hA [0] rfl
          refine va_callv (va_runI (As := [.int (nI i)]) (rest := [.ref y]) ⟨hx, hb, hml, hown, hts⟩ (metX2_init l D K y H.size i hi32) (cwI 1 hts (lw_meth q51) rfl rfl rfl (hts _ q3) (hts _ q49) (hts _ q50) rfl (by decide +kernel) ⟨Nat.le_of_ble_eq_true rfl, Nat.le_of_ble_eq_true rfl⟩) ⟨fun a U g mk q => by obtain ⟨q0, q1, qP, qK, qD, qC⟩ := q; exact ⟨q0, q1, qP, va_K.moved (u := U) (U := U.calling g mk a) (Vm.Alike.refl U.vm) qK, qD, fw_C.moved (u := U) (U := U.calling g mk a) (Vm.Alike.refl U.vm) qC⟩, fun U hU hW => ⟨rfl, by rw [hU], by rw [hU]; exact hP, va_K.moved hW.alike hK, hD.weaken (fun _ _ _ _ => trivial), by rw [hU]; exact ((hC.kept hS.2.1).moved hW.alike).narrow hFc⟩⟩ rfl rfl hl.1 rfl (lv_room (Nat.le_of_ble_eq_true rfl)) dX2_doDecodeFormatInformation_58 ⟨Nat.le_of_ble_eq_true rfl, Nat.le_of_ble_eq_true rfl⟩) hS (fun q _ h => hFc q h) hFc (fun u t H1 locs ht hvm hw hB hz hk1 hS => ?_)
          obtain ⟨hP1, hK1, hD1⟩ := hB
          rw [ht] at hP1
          exact W.aret (v := .ref y) hx hb hr (Or.inl ⟨_, rfl⟩) (Or.inr ⟨_, rfl⟩) (fun t ht hW => ⟨⟨some y, some (y, i), rfl, ⟨rfl, fw_I_hit hi32 hI (Or.inl c_2)⟩, hi32, by rw [ht]; exact hP1, hD1.weaken (fun k q _ h => hFc q.1 h)⟩, hS.F ht⟩) hS.2.2 dX2_doDecodeFormatInformation_61
        · refine lv_iload hx hb dX2_doDecodeFormatInformation_44 (lv_at hl 0 rfl) ?_
          refine lv_iload_n hx hb dX2_doDecodeFormatInformation_46 rfl (lv_at hl 8 rfl) ?_
          refine lv_icmp_ne (tgt := 62) hx hb dX2_doDecodeFormatInformation_47 (by decide) (fun c_3 => ?_) (fun c_3 => ?_)
          · refine lv_iload_n hx hb dX2_doDecodeFormatInformation_62 rfl (lv_at hl 7 rfl) ?_
            refine lv_iload hx hb dX2_doDecodeFormatInformation_63 (lv_at hl 0 rfl) ?_
            refine vp_callSi (va_Run.run (va_runS (As := [.int a, .int (fw_t i)]) (rest := []) ⟨hx, hb, hml, hown, hts⟩ (metX2_numBitsDiffering l a (fw_t i)) (va_cwS 2 hts (lw_S q126 q127 q3 q128) rfl rfl rfl (by decide +kernel) ⟨Nat.le_of_ble_eq_true rfl, Nat.le_of_ble_eq_true rfl⟩) ⟨fun _ _ _ _ q => q, fun U hU hW => ⟨rfl, trivial⟩⟩ rfl rfl hl.1 rfl (lv_room (Nat.le_of_ble_eq_true rfl)) dX2_doDecodeFormatInformation_65 ⟨Nat.le_of_ble_eq_true rfl, Nat.le_of_ble_eq_true rfl⟩)) (fun d1 ed1 => ?_)
            subst ed1
            refine lv_istore (lv' := [(9, .int (nI (fw_pc (a ^^^ fw_t i)))), (8, .int (fw_t i)), (7, .ref (K.2.1 i)), (6, .int (nI i)), (5, .int (nI 32)), (4, .ref K.2.2.1), (3, .int fmt), (2, .int best), (0, .int a), (1, .int b)]) hx hb dX2_doDecodeFormatInformation_68 hl (by decide) rfl (fun ls hl => ?_)
            refine lv_iload hx hb dX2_doDecodeFormatInformation_70 (lv_at hl 0 rfl) ?_
            refine lv_iload_n hx hb dX2_doDecodeFormatInformation_72 rfl (lv_at hl 7 rfl) ?_
            refine lv_icmp_ge (tgt := 84) hx hb dX2_doDecodeFormatInformation_73 (by decide) (fun c_4 => ?_) (fun c_4 => ?_)
            · refine lv_iload_n hx hb dX2_doDecodeFormatInformation_84 rfl (lv_at hl 8 rfl) ?_
              refine lv_iload_n hx hb dX2_doDecodeFormatInformation_85 rfl (lv_at hl 9 rfl) ?_
              refine lv_icmp_eq (tgt := 111) hx hb dX2_doDecodeFormatInformation_86 (by decide) (fun c_5 => ?_) (fun c_5 => ?_)
              · refine lv_iinc (v := nI (i + 1)) (lv' := [(6, .int (nI (i + 1))), (9, .int (nI (fw_pc (a ^^^ fw_t i)))), (8, .int (fw_t i)), (7, .ref (K.2.1 i)), (5, .int (nI 32)), (4, .ref K.2.2.1), (3, .int fmt), (2, .int best), (0, .int a), (1, .int b)]) hx hb dX2_doDecodeFormatInformation_111 hl (k := 3) rfl (nI_1 i) (by decide) rfl (fun ls hl => ?_)
                refine lv_goto (tgt := 18) hx hb dX2_doDecodeFormatInformation_114 (by decide) ?_
                exact ih (i + 1) (best) (fmt) (by omega) (fw_I_00 hI c_2 c_3 (Int32.not_lt.mpr c_4) (by rw [← c_5]; exact Int32.not_lt.mpr c_4)) ls (lv_sub hl [0, 4, 5, 6, 7, 8, 9] rfl)
              · refine lv_iload_n hx hb dX2_doDecodeFormatInformation_89 rfl (lv_at hl 9 rfl) ?_
                refine lv_iload hx hb dX2_doDecodeFormatInformation_90 (lv_at hl 1 rfl) ?_
                refine vp_callSi (va_Run.run (va_runS (As := [.int b, .int (fw_t i)]) (rest := []) ⟨hx, hb, hml, hown, hts⟩ (metX2_numBitsDiffering l b (fw_t i)) (va_cwS 2 hts (lw_S q126 q127 q3 q128) rfl rfl rfl (by decide +kernel) ⟨Nat.le_of_ble_eq_true rfl, Nat.le_of_ble_eq_true rfl⟩) ⟨fun _ _ _ _ q => q, fun U hU hW => ⟨rfl, trivial⟩⟩ rfl rfl hl.1 rfl (lv_room (Nat.le_of_ble_eq_true rfl)) dX2_doDecodeFormatInformation_92 ⟨Nat.le_of_ble_eq_true rfl, Nat.le_of_ble_eq_true rfl⟩)) (fun d2 ed2 => ?_)
                subst ed2
                refine lv_istore (lv' := [(9, .int (nI (fw_pc (b ^^^ fw_t i)))), (8, .int (fw_t i)), (7, .ref (K.2.1 i)), (6, .int (nI i)), (5, .int (nI 32)), (4, .ref K.2.2.1), (3, .int fmt), (2, .int best), (0, .int a), (1, .int b)]) hx hb dX2_doDecodeFormatInformation_95 hl (by decide) rfl (fun ls hl => ?_)
                refine lv_iload hx hb dX2_doDecodeFormatInformation_97 (lv_at hl 0 rfl) ?_
                refine lv_iload_n hx hb dX2_doDecodeFormatInformation_99 rfl (lv_at hl 7 rfl) ?_
                refine lv_icmp_ge (tgt := 111) hx hb dX2_doDecodeFormatInformation_100 (by decide) (fun c_6 => ?_) (fun c_6 => ?_)
                · refine lv_iinc (v := nI (i + 1)) (lv' := [(6, .int (nI (i + 1))), (9, .int (nI (fw_pc (b ^^^ fw_t i)))), (8, .int (fw_t i)), (7, .ref (K.2.1 i)), (5, .int (nI 32)), (4, .ref K.2.2.1), (3, .int fmt), (2, .int best), (0, .int a), (1, .int b)]) hx hb dX2_doDecodeFormatInformation_111 hl (k := 3) rfl (nI_1 i) (by decide) rfl (fun ls hl => ?_)
                  refine lv_goto (tgt := 18) hx hb dX2_doDecodeFormatInformation_114 (by decide) ?_
                  exact ih (i + 1) (best) (fmt) (by omega) (fw_I_00 hI c_2 c_3 (Int32.not_lt.mpr c_4) (Int32.not_lt.mpr c_6)) ls (lv_sub hl [0, 4, 5, 6, 7, 8, 9] rfl)
                · refine lv_aload hx hb dX2_doDecodeFormatInformation_103 (lv_at hl 2 rfl) ?_
                  refine lv_iconst (v := 1) hx hb dX2_doDecodeFormatInformation_105 (by decide) ?_
                  refine va_ti hx hb (hC.2.2.1 i hi32) hS (v := .int (nI i)) (vp_in_nI (n := 1) (by decide) (by decide)) fw_row1 dX2_doDecodeFormatInformation_106 ?_
                  refine lv_istore_n (lv' := [(3, .int (nI i)), (9, .int (nI (fw_pc (b ^^^ fw_t i)))), (8, .int (fw_t i)), (7, .ref (K.2.1 i)), (6, .int (nI i)), (5, .int (nI 32)), (4, .ref K.2.2.1), (2, .int best), (0, .int a), (1, .int b)]) hx hb dX2_doDecodeFormatInformation_107 rfl hl (by decide) rfl (fun ls hl => ?_)
                  refine lv_iload hx hb dX2_doDecodeFormatInformation_108 (lv_at hl 1 rfl) ?_
                  refine lv_istore_n (lv' := [(2, .int (nI (fw_pc (b ^^^ fw_t i)))), (3, .int (nI i)), (9, .int (nI (fw_pc (b ^^^ fw_t i)))), (8, .int (fw_t i)), (7, .ref (K.2.1 i)), (6, .int (nI i)), (5, .int (nI 32)), (4, .ref K.2.2.1), (0, .int a), (1, .int b)]) hx hb dX2_doDecodeFormatInformation_110 rfl hl (by decide) rfl (fun ls hl => ?_)
                  refine lv_iinc (v := nI (i + 1)) (lv' := [(6, .int (nI (i + 1))), (2, .int (nI (fw_pc (b ^^^ fw_t i)))), (3, .int (nI i)), (9, .int (nI (fw_pc (b ^^^ fw_t i)))), (8, .int (fw_t i)), (7, .ref (K.2.1 i)), (5, .int (nI 32)), (4, .ref K.2.2.1), (0, .int a), (1, .int b)]) hx hb dX2_doDecodeFormatInformation_111 hl (k := 5) rfl (nI_1 i) (by decide) rfl (fun ls hl => ?_)
                  refine lv_goto (tgt := 18) hx hb dX2_doDecodeFormatInformation_114 (by decide) ?_
                  exact ih (i + 1) (nI (fw_pc (b ^^^ fw_t i))) (nI i) (by omega) (fw_I_01 hI c_2 c_3 (Int32.not_lt.mpr c_4) (Int32.not_le.mp c_6)) ls (lv_sub hl [0, 6, 7, 2, 1, 8, 9] rfl)
            · refine lv_aload hx hb dX2_doDecodeFormatInformation_76 (lv_at hl 2 rfl) ?_
              refine lv_iconst (v := 1) hx hb dX2_doDecodeFormatInformation_78 (by decide) ?_
              refine va_ti hx hb (hC.2.2.1 i hi32) hS (v := .int (nI i)) (vp_in_nI (n := 1) (by decide) (by decide)) fw_row1 dX2_doDecodeFormatInformation_79 ?_
              refine lv_istore_n (lv' := [(3, .int (nI i)), (9, .int (nI (fw_pc (a ^^^ fw_t i)))), (8, .int (fw_t i)), (7, .ref (K.2.1 i)), (6, .int (nI i)), (5, .int (nI 32)), (4, .ref K.2.2.1), (2, .int best), (0, .int a), (1, .int b)]) hx hb dX2_doDecodeFormatInformation_80 rfl hl (by decide) rfl (fun ls hl => ?_)
              refine lv_iload hx hb dX2_doDecodeFormatInformation_81 (lv_at hl 1 rfl) ?_
              refine lv_istore_n (lv' := [(2, .int (nI (fw_pc (a ^^^ fw_t i)))), (3, .int (nI i)), (9, .int (nI (fw_pc (a ^^^ fw_t i)))), (8, .int (fw_t i)), (7, .ref (K.2.1 i)), (6, .int (nI i)), (5, .int (nI 32)), (4, .ref K.2.2.1), (0, .int a), (1, .int b)]) hx hb dX2_doDecodeFormatInformation_83 rfl hl (by decide) rfl (fun ls hl => ?_)
              refine lv_iload_n hx hb dX2_doDecodeFormatInformation_84 rfl (lv_at hl 8 rfl) ?_
              refine lv_iload_n hx hb dX2_doDecodeFormatInformation_85 rfl (lv_at hl 9 rfl) ?_
              refine lv_icmp_eq (tgt := 111) hx hb dX2_doDecodeFormatInformation_86 (by decide) (fun c_5 => ?_) (fun c_5 => ?_)
              · refine lv_iinc (v := nI (i + 1)) (lv' := [(6, .int (nI (i + 1))), (2, .int (nI (fw_pc (a ^^^ fw_t i)))), (3, .int (nI i)), (9, .int (nI (fw_pc (a ^^^ fw_t i)))), (8, .int (fw_t i)), (7, .ref (K.2.1 i)), (5, .int (nI 32)), (4, .ref K.2.2.1), (0, .int a), (1, .int b)]) hx hb dX2_doDecodeFormatInformation_111 hl (k := 5) rfl (nI_1 i) (by decide) rfl (fun ls hl => ?_)
                refine lv_goto (tgt := 18) hx hb dX2_doDecodeFormatInformation_114 (by decide) ?_
                exact ih (i + 1) (nI (fw_pc (a ^^^ fw_t i))) (nI i) (by omega) (fw_I_10 hI c_2 c_3 (Int32.not_le.mp c_4) (by rw [c_5]; exact Int32.lt_irrefl)) ls (lv_sub hl [0, 6, 7, 2, 1, 8, 9] rfl)
              · refine lv_iload_n hx hb dX2_doDecodeFormatInformation_89 rfl (lv_at hl 9 rfl) ?_
                refine lv_iload hx hb dX2_doDecodeFormatInformation_90 (lv_at hl 3 rfl) ?_
                refine vp_callSi (va_Run.run (va_runS (As := [.int b, .int (fw_t i)]) (rest := []) ⟨hx, hb, hml, hown, hts⟩ (metX2_numBitsDiffering l b (fw_t i)) (va_cwS 2 hts (lw_S q126 q127 q3 q128) rfl rfl rfl (by decide +kernel) ⟨Nat.le_of_ble_eq_true rfl, Nat.le_of_ble_eq_true rfl⟩) ⟨fun _ _ _ _ q => q, fun U hU hW => ⟨rfl, trivial⟩⟩ rfl rfl hl.1 rfl (lv_room (Nat.le_of_ble_eq_true rfl)) dX2_doDecodeFormatInformation_92 ⟨Nat.le_of_ble_eq_true rfl, Nat.le_of_ble_eq_true rfl⟩)) (fun d2 ed2 => ?_)
                subst ed2
                refine lv_istore (lv' := [(9, .int (nI (fw_pc (b ^^^ fw_t i)))), (2, .int (nI (fw_pc (a ^^^ fw_t i)))), (3, .int (nI i)), (8, .int (fw_t i)), (7, .ref (K.2.1 i)), (6, .int (nI i)), (5, .int (nI 32)), (4, .ref K.2.2.1), (0, .int a), (1, .int b)]) hx hb dX2_doDecodeFormatInformation_95 hl (by decide) rfl (fun ls hl => ?_)
                refine lv_iload hx hb dX2_doDecodeFormatInformation_97 (lv_at hl 0 rfl) ?_
                refine lv_iload_n hx hb dX2_doDecodeFormatInformation_99 rfl (lv_at hl 1 rfl) ?_
                refine lv_icmp_ge (tgt := 111) hx hb dX2_doDecodeFormatInformation_100 (by decide) (fun c_6 => ?_) (fun c_6 => ?_)
                · refine lv_iinc (v := nI (i + 1)) (lv' := [(6, .int (nI (i + 1))), (9, .int (nI (fw_pc (b ^^^ fw_t i)))), (2, .int (nI (fw_pc (a ^^^ fw_t i)))), (3, .int (nI i)), (8, .int (fw_t i)), (7, .ref (K.2.1 i)), (5, .int (nI 32)), (4, .ref K.2.2.1), (0, .int a), (1, .int b)]) hx hb dX2_doDecodeFormatInformation_111 hl (k := 5) rfl (nI_1 i) (by decide) rfl (fun ls hl => ?_)
                  refine lv_goto (tgt := 18) hx hb dX2_doDecodeFormatInformation_114 (by decide) ?_
                  exact ih (i + 1) (nI (fw_pc (a ^^^ fw_t i))) (nI i) (by omega) (fw_I_10 hI c_2 c_3 (Int32.not_le.mp c_4) (Int32.not_lt.mpr c_6)) ls (lv_sub hl [0, 6, 7, 3, 2, 8, 9] rfl)
                · refine lv_aload hx hb dX2_doDecodeFormatInformation_103 (lv_at hl 4 rfl) ?_
                  refine lv_iconst (v := 1) hx hb dX2_doDecodeFormatInformation_105 (by decide) ?_
                  refine va_ti hx hb (hC.2.2.1 i hi32) hS (v := .int (nI i)) (vp_in_nI (n := 1) (by decide) (by decide)) fw_row1 dX2_doDecodeFormatInformation_106 ?_
                  refine lv_istore_n (lv' := [(3, .int (nI i)), (9, .int (nI (fw_pc (b ^^^ fw_t i)))), (2, .int (nI (fw_pc (a ^^^ fw_t i)))), (8, .int (fw_t i)), (7, .ref (K.2.1 i)), (6, .int (nI i)), (5, .int (nI 32)), (4, .ref K.2.2.1), (0, .int a), (1, .int b)]) hx hb dX2_doDecodeFormatInformation_107 rfl hl (by decide) rfl (fun ls hl => ?_)
                  refine lv_iload hx hb dX2_doDecodeFormatInformation_108 (lv_at hl 1 rfl) ?_
                  refine lv_istore_n (lv' := [(2, .int (nI (fw_pc (b ^^^ fw_t i)))), (3, .int (nI i)), (9, .int (nI (fw_pc (b ^^^ fw_t i)))), (8, .int (fw_t i)), (7, .ref (K.2.1 i)), (6, .int (nI i)), (5, .int (nI 32)), (4, .ref K.2.2.1), (0, .int a), (1, .int b)]) hx hb dX2_doDecodeFormatInformation_110 rfl hl (by decide) rfl (fun ls hl => ?_)
                  refine lv_iinc (v := nI (i + 1)) (lv' := [(6, .int (nI (i + 1))), (2, .int (nI (fw_pc (b ^^^ fw_t i)))), (3, .int (nI i)), (9, .int (nI (fw_pc (b ^^^ fw_t i)))), (8, .int (fw_t i)), (7, .ref (K.2.1 i)), (5, .int (nI 32)), (4, .ref K.2.2.1), (0, .int a), (1, .int b)]) hx hb dX2_doDecodeFormatInformation_111 hl (k := 5) rfl (nI_1 i) (by decide) rfl (fun ls hl => ?_)
                  refine lv_goto (tgt := 18) hx hb dX2_doDecodeFormatInformation_114 (by decide) ?_
                  exact ih (i + 1) (nI (fw_pc (b ^^^ fw_t i))) (nI i) (by omega) (fw_I_11 hI c_2 c_3 (Int32.not_le.mp c_4) (Int32.not_le.mp c_6)) ls (lv_sub hl [0, 6, 7, 2, 1, 8, 9] rfl)
          · refine va_new (ci := 1) (fs := [.null, .int 0]) (C := RX2) (T := TX2) (N := 2) hx hb hts in_X2 tyX2 tyX2_ok hown (hts _ q47) (hts _ q48) (hts _ q3) hK hP hD hS hA rfl (fun j hj => by rcases (show j = 0 ∨ j = 1 by omega) with rfl | rfl <;> rfl) (Nat.le_of_ble_eq_true rfl) (Nat.le_of_ble_eq_true rfl) dX2_doDecodeFormatInformation_50 (fun y H hP hD hS => ?_)
            have hP : va_P D fw_cl [(y, .inr (1, [.null, .int 0]))] H := hP
            have hD : va_D (fun q => s.heap.size ≤ q) [(y, .inr (1, [.null, .int 0]))] := hD
            refine lv_dup hx hb dX2_doDecodeFormatInformation_53 rfl ?_
            refine lv_aload hx hb dX2_doDecodeFormatInformation_54 (lv_at hl 1 rfl) ?_
            refine lv_iconst (v := 1) hx hb dX2_doDecodeFormatInformation_56 (by decide) ?_
            refine va_ti hx hb (hC.2.2.1 i hi32) hS (v := .int (nI i)) (vp_in_nI (n := 1) (by decide) (by decide)) fw_row1 dX2_doDecodeFormatInformation_57 ?_
            have hFc := va_free (wc := [(y, .inr (1, [.null, .int 0]))]) hD hS hA [0] rfl
            refine va_callv (va_runI (As := [.int (nI i)]) (rest := [.ref y]) ⟨hx, hb, hml, hown, hts⟩ (metX2_init l D K y H.size i hi32) (cwI 1 hts (lw_meth q51) rfl rfl rfl (hts _ q3) (hts _ q49) (hts _ q50) rfl (by decide +kernel) ⟨Nat.le_of_ble_eq_true rfl, Nat.le_of_ble_eq_true rfl⟩) ⟨fun a U g mk q => by obtain ⟨q0, q1, qP, qK, qD, qC⟩ := q; exact ⟨q0, q1, qP, va_K.moved (u := U) (U := U.calling g mk a) (Vm.Alike.refl U.vm) qK, qD, fw_C.moved (u := U) (U := U.calling g mk a) (Vm.Alike.refl U.vm) qC⟩, fun U hU hW => ⟨rfl, by rw [hU], by rw [hU]; exact hP, va_K.moved hW.alike hK, hD.weaken (fun _ _ _ _ => trivial), by rw [hU]; exact ((hC.kept hS.2.1).moved hW.alike).narrow hFc⟩⟩ rfl rfl hl.1 rfl (lv_room (Nat.le_of_ble_eq_true rfl)) dX2_doDecodeFormatInformation_58 ⟨Nat.le_of_ble_eq_true rfl, Nat.le_of_ble_eq_true rfl⟩) hS (fun q _ h => hFc q h) hFc (fun u t H1 locs ht hvm hw hB hz hk1 hS => ?_)
            obtain ⟨hP1, hK1, hD1⟩ := hB
            rw [ht] at hP1
            exact W.aret (v := .ref y) hx hb hr (Or.inl ⟨_, rfl⟩) (Or.inr ⟨_, rfl⟩) (fun t ht hW => ⟨⟨some y, some (y, i), rfl, ⟨rfl, fw_I_hit hi32 hI (Or.inr c_3)⟩, hi32, by rw [ht]; exact hP1, hD1.weaken (fun k q _ h => hFc q.1 h)⟩, hS.F ht⟩) hS.2.2 dX2_doDecodeFormatInformation_61
  have hl := lv_entry ([.int a, .int b]) (n := 10) (Nat.le_of_ble_eq_true rfl)
  rw [lg_entry_eq]
  generalize (lg_sl ([.int a, .int b]) ++ List.replicate (10 - (lg_sl ([.int a, .int b])).length) Slot.unset).toArray = ls at hl ⊢
  have hl : lv_has ls 10 [(0, .int a), (1, .int b)] := hl
  refine lv_ldc hx hb hown (hts _ q44) dX2_doDecodeFormatInformation_0 ?_
  refine lv_istore_n (lv' := [(2, .int 2147483647), (0, .int a), (1, .int b)]) hx hb dX2_doDecodeFormatInformation_2 rfl hl (by decide) rfl (fun ls hl => ?_)
  refine lv_iconst (v := 0) hx hb dX2_doDecodeFormatInformation_3 (by decide) ?_
  refine lv_istore_n (lv' := [(3, .int 0), (2, .int 2147483647), (0, .int a), (1, .int b)]) hx hb dX2_doDecodeFormatInformation_4 rfl hl (by decide) rfl (fun ls hl => ?_)
  refine va_gets hx hb hC.1 hS hown (hts _ q45) (fun _ h9 => h9) dX2_doDecodeFormatInformation_5 ?_
  refine lv_astore (lv' := [(4, .ref K.2.2.1), (3, .int 0), (2, .int 2147483647), (0, .int a), (1, .int b)]) hx hb dX2_doDecodeFormatInformation_8 hl (by decide) rfl (fun ls hl => ?_)
  refine lv_aload hx hb dX2_doDecodeFormatInformation_10 (lv_at hl 0 rfl) ?_
  refine va_tlen hx hb hC.2.1 hS (v := nI 32) rfl dX2_doDecodeFormatInformation_12 ?_
  refine lv_istore (lv' := [(5, .int (nI 32)), (4, .ref K.2.2.1), (3, .int 0), (2, .int 2147483647), (0, .int a), (1, .int b)]) hx hb dX2_doDecodeFormatInformation_13 hl (by decide) rfl (fun ls hl => ?_)
  refine lv_iconst (v := nI 0) hx hb dX2_doDecodeFormatInformation_15 (by decide) ?_
  refine lv_istore (lv' := [(6, .int (nI 0)), (5, .int (nI 32)), (4, .ref K.2.2.1), (3, .int 0), (2, .int 2147483647), (0, .int a), (1, .int b)]) hx hb dX2_doDecodeFormatInformation_16 hl (by decide) rfl (fun ls hl => ?_)
  exact loop 32 0 2147483647 0 rfl (fw_I_0 a b 0) ls hl
set_option maxHeartbeats 4000000 in
set_option maxRecDepth 100000 in
/-- decodeFormatInformation: as it stands, or with the mask taken away -/
theorem metX2_decodeFormatInformation (l : Launch) (D : va_G) (K : fw_K) (sz : Nat) (a b : Int32) : Met l yX2_decodeFormatInformation (ws_ yX2_decodeFormatInformation cX2_decodeFormatInformation 3 (some (.object "FormatInformation"))) ({ frames := 3, cells := 2, slots := 4, locals := 70 }) (va_Pc [.int a, .int b] (fw_Pre D K sz)) (va_Qq (fw_found2 a b) (fun u t => fw_made D K (fun q => sz ≤ q) u t.heap) (fun q => sz ≤ q)) 2 4 (fun q => sz ≤ q) := by
  refine Met.ofW (cc := cX2_decodeFormatInformation) (maxL := 3) (ret := (some (.object "FormatInformation"))) (by decide) rfl ?_
  intro p e s m args below meth c s₁ B hml hv
  obtain ⟨rfl, hsz, hK, hC⟩ := hv
  have hx := B.exec
  have hb := B.bytes
  have hr := B.returns
  have hts := atoms_spec (ws := (ws_ yX2_decodeFormatInformation cX2_decodeFormatInformation 3 (some (.object "FormatInformation")))) B.pre
  have hts : ∀ w ∈ lw_all, w.before _ s = true := fun w h => hts w (List.mem_cons_of_mem _ h)
  have hown : s.vm.findClass RX2 = some m.cls := findClass_of_methodNamed B.named
  have hlocks := B.notSynchronized
  subst hsz
  have hS : va_S (fun q => s.heap.size ≤ q) s.heap s.heap [] := va_S.rf
  have hA : ∀ q, s.heap.size ≤ q → (fun q => s.heap.size ≤ q) q := fun q h => h
  have hl := lv_entry ([.int a, .int b]) (n := 3) (Nat.le_of_ble_eq_true rfl)
  rw [lg_entry_eq]
  generalize (lg_sl ([.int a, .int b]) ++ List.replicate (3 - (lg_sl ([.int a, .int b])).length) Slot.unset).toArray = ls at hl ⊢
  have hl : lv_has ls 3 [(0, .int a), (1, .int b)] := hl
  refine lv_iload_n hx hb dX2_decodeFormatInformation_0 rfl (lv_at hl 0 rfl) ?_
  refine lv_iload_n hx hb dX2_decodeFormatInformation_1 rfl (lv_at hl 1 rfl) ?_
  refine va_callq (va_runS (As := [.int a, .int b]) (rest := []) ⟨hx, hb, hml, hown, hts⟩ (metX2_doDecodeFormatInformation l D K s.heap.size a b) (va_cwS 2 hts (lw_S q41 q42 q3 q43) rfl rfl rfl (by decide +kernel) ⟨Nat.le_of_ble_eq_true rfl, Nat.le_of_ble_eq_true rfl⟩) ⟨fw_Pre.blind, fun U hU hW => ⟨rfl, fw_Pre.make hK hC hS hA hU hW.alike⟩⟩ rfl rfl hl.1 rfl (lv_room (Nat.le_of_ble_eq_true rfl)) dX2_decodeFormatInformation_2 ⟨Nat.le_of_ble_eq_true rfl, Nat.le_of_ble_eq_true rfl⟩) hS (fun q _ h => (fun q h => hA q (Nat.le_trans hS.1 h)) q h) (fun q h => hA q (Nat.le_trans hS.1 h)) (fun r u t H locs ht hvm hw hB hz hk hS => ?_)
  rw [ht] at hB
  cases u with
  | none =>
    have hr0 : r = none := hw.1
    subst hr0
    refine W.eq (g2 := F0 m 5 ls [.null]) rfl ?_
    refine lv_astore_nN (lv' := [(2, .null), (0, .int a), (1, .int b)]) hx hb dX2_decodeFormatInformation_5 rfl hl (by decide) rfl (fun ls hl => ?_)
    refine lv_aload_nN hx hb dX2_decodeFormatInformation_6 rfl (lv_at hl 0 rfl) ?_
    refine lv_ifnullN (tgt := 12) hx hb dX2_decodeFormatInformation_7 (by decide) ?_
    refine lv_iload_n hx hb dX2_decodeFormatInformation_12 rfl (lv_at hl 1 rfl) ?_
    refine lv_sipush (v := 21522) hx hb dX2_decodeFormatInformation_13 (by decide) ?_
    refine lv_ixor hx hb dX2_decodeFormatInformation_16 ?_
    refine lv_iload_n hx hb dX2_decodeFormatInformation_17 rfl (lv_at hl 2 rfl) ?_
    refine lv_sipush (v := 21522) hx hb dX2_decodeFormatInformation_18 (by decide) ?_
    refine lv_ixor hx hb dX2_decodeFormatInformation_21 ?_
    refine va_callq (va_runS (As := [.int (a ^^^ (21522 : Int32)), .int (b ^^^ (21522 : Int32))]) (rest := []) ⟨hx, hb, hml, hown, hts⟩ (metX2_doDecodeFormatInformation l D K H.size (a ^^^ 21522) (b ^^^ 21522)) (va_cwS 2 hts (lw_S q41 q42 q3 q43) rfl rfl rfl (by decide +kernel) ⟨Nat.le_of_ble_eq_true rfl, Nat.le_of_ble_eq_true rfl⟩) ⟨fw_Pre.blind, fun U hU hW => ⟨rfl, fw_Pre.make hK hC hS hA hU hW.alike⟩⟩ rfl rfl hl.1 rfl (lv_room (Nat.le_of_ble_eq_true rfl)) dX2_decodeFormatInformation_22 ⟨Nat.le_of_ble_eq_true rfl, Nat.le_of_ble_eq_true rfl⟩) hS (fun q _ h => (fun q h => hA q (Nat.le_trans hS.1 h)) q h) (fun q h => hA q (Nat.le_trans hS.1 h)) (fun r2 u2 t2 H2 locs2 ht2 hvm2 hw2 hB2 hz2 hk2 hS => ?_)
    rw [ht2] at hB2
    exact W.aret (v := va_rf r2) hx hb hr (Or.inl ⟨_, rfl⟩) (va_rf_or r2) (fun t ht hW => ⟨⟨r2, u2, rfl, ⟨hw2.1, Or.inr ⟨hw.2, hw2.2⟩⟩, by show fw_made D K _ _ t.heap; rw [ht]; exact hB2.weaken (fun q h => Nat.le_trans hz h)⟩, hS.F ht⟩) hS.2.2 dX2_decodeFormatInformation_25
  | some q =>
    obtain ⟨y, k⟩ := q
    have hr0 : r = some y := hw.1
    subst hr0
    refine W.eq (g2 := F0 m 5 ls [.ref y]) rfl ?_
    refine lv_astore_n (lv' := [(2, .ref y), (0, .int a), (1, .int b)]) hx hb dX2_decodeFormatInformation_5 rfl hl (by decide) rfl (fun ls hl => ?_)
    refine lv_aload_n hx hb dX2_decodeFormatInformation_6 rfl (lv_at hl 0 rfl) ?_
    refine lv_ifnull hx hb dX2_decodeFormatInformation_7 ?_
    refine lv_aload_n hx hb dX2_decodeFormatInformation_10 rfl (lv_at hl 0 rfl) ?_
    refine W.widen (k := 2) (n := 4) (by decide) (by decide) ?_
    exact W.aret (v := .ref y) hx hb hr (Or.inl ⟨_, rfl⟩) (Or.inr ⟨_, rfl⟩) (fun t ht hW => ⟨⟨some y, some (y, k), rfl, ⟨rfl, Or.inl ⟨k, rfl, hw.2⟩⟩, by show fw_made D K _ _ t.heap; rw [ht]; exact hB⟩, hS.F ht⟩) hS.2.2 dX2_decodeFormatInformation_11
set_option maxHeartbeats 4000000 in
set_option maxRecDepth 100000 in
/-- FormatWord.read: the number of that word, or -1 -/
theorem metX1_read (l : Launch) (D : va_G) (K : fw_K) (sz h0 : Nat) (a b : Int32) : Met l yX1_read (ws_ yX1_read cX1_read 4 (some .int)) ({ frames := 4, cells := 2, slots := 4, locals := 92 }) (va_Pc [.ref h0, .int a, .int b] (fw_Pre D K sz)) (va_Qi (fun r (_ : Unit) => fw_R a b r) (fun _ _ => True) (fun q => sz ≤ q)) 2 4 (fun q => sz ≤ q) := by
  refine Met.ofW (cc := cX1_read) (maxL := 4) (ret := (some .int)) (by decide) rfl ?_
  intro p e s m args below meth c s₁ B hml hv
  obtain ⟨rfl, hsz, hK, hC⟩ := hv
  have hx := B.exec
  have hb := B.bytes
  have hr := B.returns
  have hts := atoms_spec (ws := (ws_ yX1_read cX1_read 4 (some .int))) B.pre
  have hts : ∀ w ∈ lw_all, w.before _ s = true := fun w h => hts w (List.mem_cons_of_mem _ h)
  have hown : s.vm.findClass RX1 = some m.cls := findClass_of_methodNamed B.named
  have hlocks := B.notSynchronized
  subst hsz
  have hS : va_S (fun q => s.heap.size ≤ q) s.heap s.heap [] := va_S.rf
  have hA : ∀ q, s.heap.size ≤ q → (fun q => s.heap.size ≤ q) q := fun q h => h
  have hl := lv_entry ([.ref h0, .int a, .int b]) (n := 4) (Nat.le_of_ble_eq_true rfl)
  rw [lg_entry_eq]
  generalize (lg_sl ([.ref h0, .int a, .int b]) ++ List.replicate (4 - (lg_sl ([.ref h0, .int a, .int b])).length) Slot.unset).toArray = ls at hl ⊢
  have hl : lv_has ls 4 [(0, .ref h0), (1, .int a), (2, .int b)] := hl
  refine lv_iload_n hx hb dX1_read_0 rfl (lv_at hl 1 rfl) ?_
  refine lv_iload_n hx hb dX1_read_1 rfl (lv_at hl 2 rfl) ?_
  refine va_callq (va_runS (As := [.int a, .int b]) (rest := []) ⟨hx, hb, hml, hown, hts⟩ (metX2_decodeFormatInformation l D K s.heap.size a b) (va_cwS 2 hts (lw_S q38 q39 q3 q40) rfl rfl rfl (by decide +kernel) ⟨Nat.le_of_ble_eq_true rfl, Nat.le_of_ble_eq_true rfl⟩) ⟨fw_Pre.blind, fun U hU hW => ⟨rfl, fw_Pre.make hK hC hS hA hU hW.alike⟩⟩ rfl rfl hl.1 rfl (lv_room (Nat.le_of_ble_eq_true rfl)) dX1_read_2 ⟨Nat.le_of_ble_eq_true rfl, Nat.le_of_ble_eq_true rfl⟩) hS (fun q _ h => (fun q h => hA q (Nat.le_trans hS.1 h)) q h) (fun q h => hA q (Nat.le_trans hS.1 h)) (fun r u t H locs ht hvm hw hB hz hk hS => ?_)
  rw [ht] at hB
  cases u with
  | none =>
    have hr0 : r = none := hw.1
    subst hr0
    refine W.eq (g2 := F0 m 5 ls [.null]) rfl ?_
    refine lv_astore_nN (lv' := [(3, .null), (0, .ref h0), (1, .int a), (2, .int b)]) hx hb dX1_read_5 rfl hl (by decide) rfl (fun ls hl => ?_)
    refine lv_aload_nN hx hb dX1_read_6 rfl (lv_at hl 0 rfl) ?_
    refine lv_ifnonnullN hx hb dX1_read_7 ?_
    refine lv_iconst (v := (-1)) hx hb dX1_read_10 (by decide) ?_
    refine lv_goto (tgt := 28) hx hb dX1_read_11 (by decide) ?_
    exact W.iret (v := (-1)) hx hb hr (fun t ht hW => ⟨⟨_, (), rfl, ⟨none, hw.2, rfl⟩, trivial⟩, hS.F ht⟩) hS.2.2 dX1_read_28
  | some q =>
    obtain ⟨y, k⟩ := q
    have hr0 : r = some y := hw.1
    subst hr0
    refine W.eq (g2 := F0 m 5 ls [.ref y]) rfl ?_
    obtain ⟨hk32, hP, hD⟩ := hB
    have hk32 : k < 32 := hk32
    have hP : va_P D fw_cl [(y, .inr (1, [.ref (K.1 (k / 8)), .int (nI (k % 8))]))] H := hP
    refine lv_astore_n (lv' := [(3, .ref y), (0, .ref h0), (1, .int a), (2, .int b)]) hx hb dX1_read_5 rfl hl (by decide) rfl (fun ls hl => ?_)
    refine lv_aload_n hx hb dX1_read_6 rfl (lv_at hl 0 rfl) ?_
    refine lv_ifnonnull (tgt := 14) hx hb dX1_read_7 (by decide) ?_
    refine lv_aload_n hx hb dX1_read_14 rfl (lv_at hl 0 rfl) ?_
    refine va_csr (va_Run.run (va_runV (As := []) (rest := []) ⟨hx, hb, hml, hown, hts⟩ (metX2_getErrorCorrectionLevel l D y (K.1 (k / 8)) (nI (k % 8))) (cwV 0 hts (lw_V q135 q136 q137 q3 q138) rfl rfl rfl (by decide +kernel) ⟨Nat.le_of_ble_eq_true rfl, Nat.le_of_ble_eq_true rfl⟩) ⟨fw_O.blind, va_recv hK hP (ci := 1) (q0 := 0) rfl rfl, fun U hU hW => ⟨rfl, by rw [hU]; exact hP, va_K.moved hW.alike hK⟩⟩ rfl rfl hl.1 rfl (lv_room (Nat.le_of_ble_eq_true rfl)) dX1_read_15 ⟨Nat.le_of_ble_eq_true rfl, Nat.le_of_ble_eq_true rfl⟩)) (fun j1 hj1 => ?_)
    refine vp_callSi (va_Run.run (va_runV (As := []) (rest := []) ⟨hx, hb, hml, hown, hts⟩ (metX3_getBits l K (fun q => s.heap.size ≤ q) (k / 8) (by omega)) (cwV 0 hts (lw_V q139 q140 q141 q5 q142) rfl rfl rfl (by decide +kernel) ⟨Nat.le_of_ble_eq_true rfl, Nat.le_of_ble_eq_true rfl⟩) ⟨fw_C.blind, va_recvE hC.2.2.2.2.2 (i := k / 8) (show k / 8 < 4 by omega) hS, fun U hU hW => ⟨rfl, fw_C.make hC hS hU hW.alike⟩⟩ rfl rfl hl.1 rfl (lv_room (Nat.le_of_ble_eq_true rfl)) dX1_read_18 ⟨Nat.le_of_ble_eq_true rfl, Nat.le_of_ble_eq_true rfl⟩)) (fun r1 er1 => ?_)
    subst er1
    refine lv_iconst (v := 3) hx hb dX1_read_21 (by decide) ?_
    refine lv_ishl hx hb dX1_read_22 ?_
    refine lv_aload_n hx hb dX1_read_23 rfl (lv_at hl 0 rfl) ?_
    refine vp_callSi (va_Run.run (va_runV (As := []) (rest := [.int (((nI (k / 8))) <<< ((3 : Int32) &&& 31))]) ⟨hx, hb, hml, hown, hts⟩ (metX2_getDataMask l D y (K.1 (k / 8)) (nI (k % 8)) (fw_byte8 (k % 8) (Nat.mod_lt _ (by decide))).1) (cwV 0 hts (lw_V q143 q144 q145 q3 q146) rfl rfl rfl (by decide +kernel) ⟨Nat.le_of_ble_eq_true rfl, Nat.le_of_ble_eq_true rfl⟩) ⟨fw_O.blind, va_recv hK hP (ci := 1) (q0 := 0) rfl rfl, fun U hU hW => ⟨rfl, by rw [hU]; exact hP, va_K.moved hW.alike hK⟩⟩ rfl rfl hl.1 rfl (lv_room (Nat.le_of_ble_eq_true rfl)) dX1_read_24 ⟨Nat.le_of_ble_eq_true rfl, Nat.le_of_ble_eq_true rfl⟩)) (fun r2 er2 => ?_)
    subst er2
    refine lv_ior hx hb dX1_read_27 ?_
    refine fw_top (nI k) ((fw_parts k hk32).2.2) ?_
    exact W.iret (v := nI k) hx hb hr (fun t ht hW => ⟨⟨_, (), rfl, ⟨some k, hw.2, rfl⟩, trivial⟩, hS.F ht⟩) hS.2.2 dX1_read_28
end
section
/-! THE LAW'S OWN HELPERS: cell, word, spoilt and their like, askedBits, askedNear, askedDue -/
set_option maxHeartbeats 4000000 in
set_option maxRecDepth 100000 in
/-- a cell of the script, or 0 -/
theorem metX0_cell (l : Launch) (sb L : Nat) (xs : Nat → Int32) (hL : L ≤ 8) (k : Nat) (hk : k < 2 ^ 30) : Met l yX0_cell (ws_ yX0_cell cX0_cell 2 (some .int)) ({ frames := 0, cells := 0, slots := 0, locals := 0 }) (va_Pc [.ref sb, .int (nI k)] (fun U => va_X sb L xs U U.heap)) (vp_Si (fun r : Int32 => r = fw_cell L xs k)) 0 0 (fun _ => False) := by
  refine Met.ofW (cc := cX0_cell) (maxL := 2) (ret := (some .int)) (by decide) rfl ?_
  intro p e s m args below meth c s₁ B hml hv
  obtain ⟨rfl, hX⟩ := hv
  have hx := B.exec
  have hb := B.bytes
  have hr := B.returns
  have hts := atoms_spec (ws := (ws_ yX0_cell cX0_cell 2 (some .int))) B.pre
  have hts : ∀ w ∈ lw_all, w.before _ s = true := fun w h => hts w (List.mem_cons_of_mem _ h)
  have hown : s.vm.findClass RX0 = some m.cls := findClass_of_methodNamed B.named
  have hlocks := B.notSynchronized
  have hS : va_S (fun _ => False) s.heap s.heap [] := va_S.rf
  have hbl : sb < s.heap.size := by obtain ⟨scr, h1, -⟩ := hX; exact (Array.getElem?_eq_some_iff.mp h1).1
  have hbA : ¬ (fun _ : Nat => False) sb := fun h => h
  have hl := lv_entry ([.ref sb, .int (nI k)]) (n := 2) (Nat.le_of_ble_eq_true rfl)
  rw [lg_entry_eq]
  generalize (lg_sl ([.ref sb, .int (nI k)]) ++ List.replicate (2 - (lg_sl ([.ref sb, .int (nI k)])).length) Slot.unset).toArray = ls at hl ⊢
  have hl : lv_has ls 2 [(0, .ref sb), (1, .int (nI k))] := hl
  refine lv_iload_n hx hb dX0_cell_0 rfl (lv_at hl 1 rfl) ?_
  refine lv_aload_n hx hb dX0_cell_1 rfl (lv_at hl 0 rfl) ?_
  refine va_slen hx hb hX hbl hbA hS dX0_cell_2 ?_
  refine lv_icmp_ge (tgt := 12) hx hb dX0_cell_3 (by decide) (fun c_1 => ?_) (fun c_1 => ?_)
  · have hlt : ¬ k < L := fun q => nI_ge (b := L) q (by omega) c_1
    refine lv_iconst (v := 0) hx hb dX0_cell_12 (by decide) ?_
    exact W.iret (v := 0) hx hb hr (fun t ht hW => ⟨_, rfl, by unfold fw_cell; rw [if_neg hlt], ht⟩) (fun q h => by cases h) dX0_cell_13
  · have hlt : k < L := by
        rcases Nat.lt_or_ge k L with q | q
        · exact q
        · exact absurd (nI_le q (by omega)) c_1
    refine lv_aload_n hx hb dX0_cell_6 rfl (lv_at hl 0 rfl) ?_
    refine lv_iload_n hx hb dX0_cell_7 rfl (lv_at hl 1 rfl) ?_
    refine va_sld hx hb hX hbl hbA hS (vp_in_nI hlt (by omega)) dX0_cell_8 ?_
    refine fw_top (xs k) (by rw [nI_clamp (by omega)]) ?_
    refine lv_goto (tgt := 13) hx hb dX0_cell_9 (by decide) ?_
    exact W.iret (v := (xs k)) hx hb hr (fun t ht hW => ⟨_, rfl, by unfold fw_cell; rw [if_pos hlt], ht⟩) (fun q h => by cases h) dX0_cell_13
set_option maxHeartbeats 4000000 in
set_option maxRecDepth 100000 in
/-- a cell of the script, or 0 -/
theorem metX0_askedCell (l : Launch) (sb L : Nat) (xs : Nat → Int32) (hL : L ≤ 8) (k : Nat) (hk : k < 2 ^ 30) : Met l yX0_askedCell (ws_ yX0_askedCell cX0_askedCell 2 (some .int)) ({ frames := 0, cells := 0, slots := 0, locals := 0 }) (va_Pc [.ref sb, .int (nI k)] (fun U => va_X sb L xs U U.heap)) (vp_Si (fun r : Int32 => r = fw_cell L xs k)) 0 0 (fun _ => False) := by
  refine Met.ofW (cc := cX0_askedCell) (maxL := 2) (ret := (some .int)) (by decide) rfl ?_
  intro p e s m args below meth c s₁ B hml hv
  obtain ⟨rfl, hX⟩ := hv
  have hx := B.exec
  have hb := B.bytes
  have hr := B.returns
  have hts := atoms_spec (ws := (ws_ yX0_askedCell cX0_askedCell 2 (some .int))) B.pre
  have hts : ∀ w ∈ lw_all, w.before _ s = true := fun w h => hts w (List.mem_cons_of_mem _ h)
  have hown : s.vm.findClass RX0 = some m.cls := findClass_of_methodNamed B.named
  have hlocks := B.notSynchronized
  have hS : va_S (fun _ => False) s.heap s.heap [] := va_S.rf
  have hbl : sb < s.heap.size := by obtain ⟨scr, h1, -⟩ := hX; exact (Array.getElem?_eq_some_iff.mp h1).1
  have hbA : ¬ (fun _ : Nat => False) sb := fun h => h
  have hl := lv_entry ([.ref sb, .int (nI k)]) (n := 2) (Nat.le_of_ble_eq_true rfl)
  rw [lg_entry_eq]
  generalize (lg_sl ([.ref sb, .int (nI k)]) ++ List.replicate (2 - (lg_sl ([.ref sb, .int (nI k)])).length) Slot.unset).toArray = ls at hl ⊢
  have hl : lv_has ls 2 [(0, .ref sb), (1, .int (nI k))] := hl
  refine lv_iload_n hx hb dX0_askedCell_0 rfl (lv_at hl 1 rfl) ?_
  refine lv_aload_n hx hb dX0_askedCell_1 rfl (lv_at hl 0 rfl) ?_
  refine va_slen hx hb hX hbl hbA hS dX0_askedCell_2 ?_
  refine lv_icmp_ge (tgt := 12) hx hb dX0_askedCell_3 (by decide) (fun c_1 => ?_) (fun c_1 => ?_)
  · have hlt : ¬ k < L := fun q => nI_ge (b := L) q (by omega) c_1
    refine lv_iconst (v := 0) hx hb dX0_askedCell_12 (by decide) ?_
    exact W.iret (v := 0) hx hb hr (fun t ht hW => ⟨_, rfl, by unfold fw_cell; rw [if_neg hlt], ht⟩) (fun q h => by cases h) dX0_askedCell_13
  · have hlt : k < L := by
        rcases Nat.lt_or_ge k L with q | q
        · exact q
        · exact absurd (nI_le q (by omega)) c_1
    refine lv_aload_n hx hb dX0_askedCell_6 rfl (lv_at hl 0 rfl) ?_
    refine lv_iload_n hx hb dX0_askedCell_7 rfl (lv_at hl 1 rfl) ?_
    refine va_sld hx hb hX hbl hbA hS (vp_in_nI hlt (by omega)) dX0_askedCell_8 ?_
    refine fw_top (xs k) (by rw [nI_clamp (by omega)]) ?_
    refine lv_goto (tgt := 13) hx hb dX0_askedCell_9 (by decide) ?_
    exact W.iret (v := (xs k)) hx hb hr (fun t ht hW => ⟨_, rfl, by unfold fw_cell; rw [if_pos hlt], ht⟩) (fun q h => by cases h) dX0_askedCell_13
set_option maxHeartbeats 4000000 in
set_option maxRecDepth 100000 in
/-- the word of a format -/
theorem metX0_word (l : Launch) (k : Nat) (hk : k < 32) : Met l yX0_word (ws_ yX0_word cX0_word 3 (some .int)) ({ frames := 0, cells := 0, slots := 0, locals := 0 }) (va_Pc [.int (nI k)] (fun _ => True)) (vp_Si (fun r : Int32 => r = fw_t k)) 0 0 (fun _ => False) := by
  refine Met.ofW (cc := cX0_word) (maxL := 3) (ret := (some .int)) (by decide) rfl ?_
  intro p e s m args below meth c s₁ B hml hv
  obtain ⟨rfl, -⟩ := hv
  have hx := B.exec
  have hb := B.bytes
  have hr := B.returns
  have hts := atoms_spec (ws := (ws_ yX0_word cX0_word 3 (some .int))) B.pre
  have hts : ∀ w ∈ lw_all, w.before _ s = true := fun w h => hts w (List.mem_cons_of_mem _ h)
  have hown : s.vm.findClass RX0 = some m.cls := findClass_of_methodNamed B.named
  have hlocks := B.notSynchronized
  have loop : ∀ (n : Nat) (x : Int32), n ≤ 5 → fw_it n x = fw_it 5 (nI k <<< ((10 : Int32) &&& 31)) → ∀ ls : Array Slot, lv_has ls 3 [(2, .int (nI (n + 9))), (1, .int x), (0, .int (nI k))] → W p l e (headSpec (ws_ yX0_word cX0_word 3 (some .int)) ({ frames := 0, cells := 0, slots := 0, locals := 0 })).room s m ([.int (nI k)] : List Value).toArray below meth c s.heap [] (0) (0) (MQ below (vp_Si (fun r : Int32 => r = fw_t k)) ([.int (nI k)] : List Value).toArray s 0 0 (fun _ => False)) (F0 m 8 ls []) := by
    intro n
    induction n with
    | zero =>
      intro x hn hit ls hl
      refine lv_iload_n hx hb dX0_word_8 rfl (lv_at hl 0 rfl) ?_
      refine lv_bipush (v := 9) hx hb dX0_word_9 (by decide) ?_
      refine lv_icmp_le (tgt := 40) hx hb dX0_word_11 (by decide) (fun c_1 => ?_) (fun c_1 => ?_)
      · refine lv_iload_n hx hb dX0_word_40 rfl (lv_at hl 2 rfl) ?_
        refine lv_bipush (v := 10) hx hb dX0_word_41 (by decide) ?_
        refine lv_ishl hx hb dX0_word_43 ?_
        refine lv_iload_n hx hb dX0_word_44 rfl (lv_at hl 1 rfl) ?_
        refine lv_ior hx hb dX0_word_45 ?_
        refine lv_sipush (v := 21522) hx hb dX0_word_46 (by decide) ?_
        refine lv_ixor hx hb dX0_word_49 ?_
        refine fw_top (fw_t k) (by rw [show x = fw_it 5 (nI k <<< ((10 : Int32) &&& 31)) from hit]; exact fw_word k hk) ?_
        exact W.iret (v := (fw_t k)) hx hb hr (fun t ht hW => ⟨_, rfl, rfl, ht⟩) (fun q h => by cases h) dX0_word_50
      · exact absurd (show nI (0 + 9) ≤ 9 from by decide) c_1
    | succ n ih =>
      intro x hn hit ls hl
      have hl : lv_has ls 3 [(2, .int (nI (n + 10))), (1, .int x), (0, .int (nI k))] := hl
      refine lv_iload_n hx hb dX0_word_8 rfl (lv_at hl 0 rfl) ?_
      refine lv_bipush (v := 9) hx hb dX0_word_9 (by decide) ?_
      refine lv_icmp_le (tgt := 40) hx hb dX0_word_11 (by decide) (fun c_1 => ?_) (fun c_1 => ?_)
      · exact absurd c_1 (nI_ge (a := 9) (by omega) (by omega))
      · refine lv_iload_n hx hb dX0_word_14 rfl (lv_at hl 1 rfl) ?_
        refine lv_iload_n hx hb dX0_word_15 rfl (lv_at hl 0 rfl) ?_
        refine lv_ishr hx hb dX0_word_16 ?_
        refine lv_iconst (v := 1) hx hb dX0_word_17 (by decide) ?_
        refine lv_iand hx hb dX0_word_18 ?_
        refine lv_iconst (v := 1) hx hb dX0_word_19 (by decide) ?_
        refine lv_icmp_ne (tgt := 34) hx hb dX0_word_20 (by decide) (fun c_2 => ?_) (fun c_2 => ?_)
        · refine lv_iinc (v := nI (n + 9)) (lv' := [(2, .int (nI (n + 9))), (1, .int x), (0, .int (nI k))]) hx hb dX0_word_34 hl (k := 0) rfl (by rw [show Int32.ofInt (-1) = (-1 : Int32) from by decide]; exact pk_m1 (n + 9)) (by decide) rfl (fun ls hl => ?_)
          refine lv_goto (tgt := 8) hx hb dX0_word_37 (by decide) ?_
          exact ih x (by omega) (by rw [← hit]; show fw_it n _ = fw_it n (if _ then _ else _); rw [if_neg c_2]) ls (lv_sub hl [0, 1, 2] rfl)
        · refine lv_iload_n hx hb dX0_word_23 rfl (lv_at hl 1 rfl) ?_
          refine lv_sipush (v := 1335) hx hb dX0_word_24 (by decide) ?_
          refine lv_iload_n hx hb dX0_word_27 rfl (lv_at hl 0 rfl) ?_
          refine lv_bipush (v := 10) hx hb dX0_word_28 (by decide) ?_
          refine lv_isub hx hb dX0_word_30 ?_
          refine lv_ishl hx hb dX0_word_31 ?_
          refine lv_ixor hx hb dX0_word_32 ?_
          refine lv_istore_n (lv' := [(1, .int (x ^^^ (((1335 : Int32) <<< (((((nI (n + 10))) - (10 : Int32))) &&& 31))))), (2, .int (nI (n + 10))), (0, .int (nI k))]) hx hb dX0_word_33 rfl hl (by decide) rfl (fun ls hl => ?_)
          refine lv_iinc (v := nI (n + 9)) (lv' := [(2, .int (nI (n + 9))), (1, .int (x ^^^ (((1335 : Int32) <<< (((((nI (n + 10))) - (10 : Int32))) &&& 31))))), (0, .int (nI k))]) hx hb dX0_word_34 hl (k := 1) rfl (by rw [show Int32.ofInt (-1) = (-1 : Int32) from by decide]; exact pk_m1 (n + 9)) (by decide) rfl (fun ls hl => ?_)
          refine lv_goto (tgt := 8) hx hb dX0_word_37 (by decide) ?_
          exact ih ((x ^^^ (((1335 : Int32) <<< (((((nI (n + 10))) - (10 : Int32))) &&& 31))))) (by omega) (by rw [← hit]; show fw_it n _ = fw_it n (if _ then _ else _); rw [if_pos c_2]) ls (lv_sub hl [0, 1, 2] rfl)
  have hl := lv_entry ([.int (nI k)]) (n := 3) (Nat.le_of_ble_eq_true rfl)
  rw [lg_entry_eq]
  generalize (lg_sl ([.int (nI k)]) ++ List.replicate (3 - (lg_sl ([.int (nI k)])).length) Slot.unset).toArray = ls at hl ⊢
  have hl : lv_has ls 3 [(0, .int (nI k))] := hl
  refine lv_iload_n hx hb dX0_word_0 rfl (lv_at hl 0 rfl) ?_
  refine lv_bipush (v := 10) hx hb dX0_word_1 (by decide) ?_
  refine lv_ishl hx hb dX0_word_3 ?_
  refine lv_istore_n (lv' := [(1, .int (((nI k)) <<< ((10 : Int32) &&& 31))), (0, .int (nI k))]) hx hb dX0_word_4 rfl hl (by decide) rfl (fun ls hl => ?_)
  refine lv_bipush (v := nI (5 + 9)) hx hb dX0_word_5 (by decide) ?_
  refine lv_istore_n (lv' := [(2, .int (nI (5 + 9))), (1, .int (((nI k)) <<< ((10 : Int32) &&& 31))), (0, .int (nI k))]) hx hb dX0_word_7 rfl hl (by decide) rfl (fun ls hl => ?_)
  exact loop 5 (nI k <<< ((10 : Int32) &&& 31)) (Nat.le_refl 5) rfl ls hl
set_option maxHeartbeats 4000000 in
set_option maxRecDepth 100000 in
/-- the word of a format -/
theorem metX0_askedWord (l : Launch) (k : Nat) (hk : k < 32) : Met l yX0_askedWord (ws_ yX0_askedWord cX0_askedWord 3 (some .int)) ({ frames := 0, cells := 0, slots := 0, locals := 0 }) (va_Pc [.int (nI k)] (fun _ => True)) (vp_Si (fun r : Int32 => r = fw_t k)) 0 0 (fun _ => False) := by
  refine Met.ofW (cc := cX0_askedWord) (maxL := 3) (ret := (some .int)) (by decide) rfl ?_
  intro p e s m args below meth c s₁ B hml hv
  obtain ⟨rfl, -⟩ := hv
  have hx := B.exec
  have hb := B.bytes
  have hr := B.returns
  have hts := atoms_spec (ws := (ws_ yX0_askedWord cX0_askedWord 3 (some .int))) B.pre
  have hts : ∀ w ∈ lw_all, w.before _ s = true := fun w h => hts w (List.mem_cons_of_mem _ h)
  have hown : s.vm.findClass RX0 = some m.cls := findClass_of_methodNamed B.named
  have hlocks := B.notSynchronized
  have loop : ∀ (n : Nat) (x : Int32), n ≤ 5 → fw_it n x = fw_it 5 (nI k <<< ((10 : Int32) &&& 31)) → ∀ ls : Array Slot, lv_has ls 3 [(2, .int (nI (n + 9))), (1, .int x), (0, .int (nI k))] → W p l e (headSpec (ws_ yX0_askedWord cX0_askedWord 3 (some .int)) ({ frames := 0, cells := 0, slots := 0, locals := 0 })).room s m ([.int (nI k)] : List Value).toArray below meth c s.heap [] (0) (0) (MQ below (vp_Si (fun r : Int32 => r = fw_t k)) ([.int (nI k)] : List Value).toArray s 0 0 (fun _ => False)) (F0 m 8 ls []) := by
    intro n
    induction n with
    | zero =>
      intro x hn hit ls hl
      refine lv_iload_n hx hb dX0_askedWord_8 rfl (lv_at hl 0 rfl) ?_
      refine lv_bipush (v := 9) hx hb dX0_askedWord_9 (by decide) ?_
      refine lv_icmp_le (tgt := 40) hx hb dX0_askedWord_11 (by decide) (fun c_1 => ?_) (fun c_1 => ?_)
      · refine lv_iload_n hx hb dX0_askedWord_40 rfl (lv_at hl 2 rfl) ?_
        refine lv_bipush (v := 10) hx hb dX0_askedWord_41 (by decide) ?_
        refine lv_ishl hx hb dX0_askedWord_43 ?_
        refine lv_iload_n hx hb dX0_askedWord_44 rfl (lv_at hl 1 rfl) ?_
        refine lv_ior hx hb dX0_askedWord_45 ?_
        refine lv_sipush (v := 21522) hx hb dX0_askedWord_46 (by decide) ?_
        refine lv_ixor hx hb dX0_askedWord_49 ?_
        refine fw_top (fw_t k) (by rw [show x = fw_it 5 (nI k <<< ((10 : Int32) &&& 31)) from hit]; exact fw_word k hk) ?_
        exact W.iret (v := (fw_t k)) hx hb hr (fun t ht hW => ⟨_, rfl, rfl, ht⟩) (fun q h => by cases h) dX0_askedWord_50
      · exact absurd (show nI (0 + 9) ≤ 9 from by decide) c_1
    | succ n ih =>
      intro x hn hit ls hl
      have hl : lv_has ls 3 [(2, .int (nI (n + 10))), (1, .int x), (0, .int (nI k))] := hl
      refine lv_iload_n hx hb dX0_askedWord_8 rfl (lv_at hl 0 rfl) ?_
      refine lv_bipush (v := 9) hx hb dX0_askedWord_9 (by decide) ?_
      refine lv_icmp_le (tgt := 40) hx hb dX0_askedWord_11 (by decide) (fun c_1 => ?_) (fun c_1 => ?_)
      · exact absurd c_1 (nI_ge (a := 9) (by omega) (by omega))
      · refine lv_iload_n hx hb dX0_askedWord_14 rfl (lv_at hl 1 rfl) ?_
        refine lv_iload_n hx hb dX0_askedWord_15 rfl (lv_at hl 0 rfl) ?_
        refine lv_ishr hx hb dX0_askedWord_16 ?_
        refine lv_iconst (v := 1) hx hb dX0_askedWord_17 (by decide) ?_
        refine lv_iand hx hb dX0_askedWord_18 ?_
        refine lv_iconst (v := 1) hx hb dX0_askedWord_19 (by decide) ?_
        refine lv_icmp_ne (tgt := 34) hx hb dX0_askedWord_20 (by decide) (fun c_2 => ?_) (fun c_2 => ?_)
        · refine lv_iinc (v := nI (n + 9)) (lv' := [(2, .int (nI (n + 9))), (1, .int x), (0, .int (nI k))]) hx hb dX0_askedWord_34 hl (k := 0) rfl (by rw [show Int32.ofInt (-1) = (-1 : Int32) from by decide]; exact pk_m1 (n + 9)) (by decide) rfl (fun ls hl => ?_)
          refine lv_goto (tgt := 8) hx hb dX0_askedWord_37 (by decide) ?_
          exact ih x (by omega) (by rw [← hit]; show fw_it n _ = fw_it n (if _ then _ else _); rw [if_neg c_2]) ls (lv_sub hl [0, 1, 2] rfl)
        · refine lv_iload_n hx hb dX0_askedWord_23 rfl (lv_at hl 1 rfl) ?_
          refine lv_sipush (v := 1335) hx hb dX0_askedWord_24 (by decide) ?_
          refine lv_iload_n hx hb dX0_askedWord_27 rfl (lv_at hl 0 rfl) ?_
          refine lv_bipush (v := 10) hx hb dX0_askedWord_28 (by decide) ?_
          refine lv_isub hx hb dX0_askedWord_30 ?_
          refine lv_ishl hx hb dX0_askedWord_31 ?_
          refine lv_ixor hx hb dX0_askedWord_32 ?_
          refine lv_istore_n (lv' := [(1, .int (x ^^^ (((1335 : Int32) <<< (((((nI (n + 10))) - (10 : Int32))) &&& 31))))), (2, .int (nI (n + 10))), (0, .int (nI k))]) hx hb dX0_askedWord_33 rfl hl (by decide) rfl (fun ls hl => ?_)
          refine lv_iinc (v := nI (n + 9)) (lv' := [(2, .int (nI (n + 9))), (1, .int (x ^^^ (((1335 : Int32) <<< (((((nI (n + 10))) - (10 : Int32))) &&& 31))))), (0, .int (nI k))]) hx hb dX0_askedWord_34 hl (k := 1) rfl (by rw [show Int32.ofInt (-1) = (-1 : Int32) from by decide]; exact pk_m1 (n + 9)) (by decide) rfl (fun ls hl => ?_)
          refine lv_goto (tgt := 8) hx hb dX0_askedWord_37 (by decide) ?_
          exact ih ((x ^^^ (((1335 : Int32) <<< (((((nI (n + 10))) - (10 : Int32))) &&& 31))))) (by omega) (by rw [← hit]; show fw_it n _ = fw_it n (if _ then _ else _); rw [if_pos c_2]) ls (lv_sub hl [0, 1, 2] rfl)
  have hl := lv_entry ([.int (nI k)]) (n := 3) (Nat.le_of_ble_eq_true rfl)
  rw [lg_entry_eq]
  generalize (lg_sl ([.int (nI k)]) ++ List.replicate (3 - (lg_sl ([.int (nI k)])).length) Slot.unset).toArray = ls at hl ⊢
  have hl : lv_has ls 3 [(0, .int (nI k))] := hl
  refine lv_iload_n hx hb dX0_askedWord_0 rfl (lv_at hl 0 rfl) ?_
  refine lv_bipush (v := 10) hx hb dX0_askedWord_1 (by decide) ?_
  refine lv_ishl hx hb dX0_askedWord_3 ?_
  refine lv_istore_n (lv' := [(1, .int (((nI k)) <<< ((10 : Int32) &&& 31))), (0, .int (nI k))]) hx hb dX0_askedWord_4 rfl hl (by decide) rfl (fun ls hl => ?_)
  refine lv_bipush (v := nI (5 + 9)) hx hb dX0_askedWord_5 (by decide) ?_
  refine lv_istore_n (lv' := [(2, .int (nI (5 + 9))), (1, .int (((nI k)) <<< ((10 : Int32) &&& 31))), (0, .int (nI k))]) hx hb dX0_askedWord_7 rfl hl (by decide) rfl (fun ls hl => ?_)
  exact loop 5 (nI k <<< ((10 : Int32) &&& 31)) (Nat.le_refl 5) rfl ls hl
set_option maxHeartbeats 4000000 in
set_option maxRecDepth 100000 in
/-- spoilt: ones in at most three places -/
theorem metX0_spoilt (l : Launch) (sb L : Nat) (xs : Nat → Int32) (hL : L ≤ 8) (q : Nat) (hq : q < 100) : Met l yX0_spoilt (ws_ yX0_spoilt cX0_spoilt 4 (some .int)) ({ frames := 1, cells := 0, slots := 0, locals := 21 }) (va_Pc [.ref sb, .int (nI q)] (fun U => va_X sb L xs U U.heap)) (vp_Si (fun r : Int32 => fw_pc r ≤ 3)) 0 0 (fun _ => False) := by
  refine Met.ofW (cc := cX0_spoilt) (maxL := 4) (ret := (some .int)) (by decide) rfl ?_
  intro p e s m args below meth c s₁ B hml hv
  obtain ⟨rfl, hX⟩ := hv
  have hx := B.exec
  have hb := B.bytes
  have hr := B.returns
  have hts := atoms_spec (ws := (ws_ yX0_spoilt cX0_spoilt 4 (some .int))) B.pre
  have hts : ∀ w ∈ lw_all, w.before _ s = true := fun w h => hts w (List.mem_cons_of_mem _ h)
  have hown : s.vm.findClass RX0 = some m.cls := findClass_of_methodNamed B.named
  have hlocks := B.notSynchronized
  have hS : va_S (fun _ => False) s.heap s.heap [] := va_S.rf
  have hbl : sb < s.heap.size := by obtain ⟨scr, h1, -⟩ := hX; exact (Array.getElem?_eq_some_iff.mp h1).1
  have hbA : ¬ (fun _ : Nat => False) sb := fun h => h
  have loop : ∀ (n i : Nat) (z : Int32), i + n = 3 → fw_pc z ≤ i → ∀ ls : Array Slot, lv_has ls 4 [(3, .int (nI i)), (2, .int z), (0, .ref sb), (1, .int (nI q))] → W p l e (headSpec (ws_ yX0_spoilt cX0_spoilt 4 (some .int)) ({ frames := 1, cells := 0, slots := 0, locals := 21 })).room s m ([.ref sb, .int (nI q)] : List Value).toArray below meth c s.heap [] (0) (0) (MQ below (vp_Si (fun r : Int32 => fw_pc r ≤ 3)) ([.ref sb, .int (nI q)] : List Value).toArray s 0 0 (fun _ => False)) (F0 m 4 ls []) := by
    intro n
    induction n with
    | zero =>
      intro i z hi hz ls hl
      have hi : i = 3 := by omega
      subst hi
      refine lv_iload_n hx hb dX0_spoilt_4 rfl (lv_at hl 0 rfl) ?_
      refine lv_iconst (v := 3) hx hb dX0_spoilt_5 (by decide) ?_
      refine lv_icmp_ge (tgt := 33) hx hb dX0_spoilt_6 (by decide) (fun c_1 => ?_) (fun c_1 => ?_)
      · refine lv_iload_n hx hb dX0_spoilt_33 rfl (lv_at hl 1 rfl) ?_
        exact W.iret (v := z) hx hb hr (fun t ht hW => ⟨_, rfl, hz, ht⟩) (fun q h => by cases h) dX0_spoilt_34
      · exact absurd (show (3 : Int32) ≤ nI 3 from by decide) c_1
    | succ n ih =>
      intro i z hi hz ls hl
      have hi3 : i < 3 := by omega
      refine lv_iload_n hx hb dX0_spoilt_4 rfl (lv_at hl 0 rfl) ?_
      refine lv_iconst (v := 3) hx hb dX0_spoilt_5 (by decide) ?_
      refine lv_icmp_ge (tgt := 33) hx hb dX0_spoilt_6 (by decide) (fun c_1 => ?_) (fun c_1 => ?_)
      · exact absurd c_1 (nI_ge (b := 3) hi3 (by decide))
      · refine lv_iload_n hx hb dX0_spoilt_9 rfl (lv_at hl 1 rfl) ?_
        refine lv_iconst (v := 1) hx hb dX0_spoilt_10 (by decide) ?_
        refine lv_aload_n hx hb dX0_spoilt_11 rfl (lv_at hl 2 rfl) ?_
        refine lv_iload_n hx hb dX0_spoilt_12 rfl (lv_at hl 3 rfl) ?_
        refine lv_iload_n hx hb dX0_spoilt_13 rfl (lv_at hl 0 rfl) ?_
        refine lv_iadd hx hb dX0_spoilt_14 ?_
        refine fw_top (nI (q + i)) (nI_add q i) ?_
        refine vp_callSi (va_Run.run (va_runS (As := [.ref sb, .int (nI (q + i))]) (rest := [.int 1, .int z]) ⟨hx, hb, hml, hown, hts⟩ (metX0_cell l sb L xs hL (q + i) (by omega)) (va_cwS 2 hts (lw_S q24 q25 q1 q26) rfl rfl rfl (by decide +kernel) ⟨Nat.le_of_ble_eq_true rfl, Nat.le_of_ble_eq_true rfl⟩) ⟨fw_X.blind, fun U hU hW => ⟨rfl, fw_X.make hX hbl hbA hS hU hW.alike⟩⟩ rfl rfl hl.1 rfl (lv_room (Nat.le_of_ble_eq_true rfl)) dX0_spoilt_15 ⟨Nat.le_of_ble_eq_true rfl, Nat.le_of_ble_eq_true rfl⟩)) (fun c0 _ => ?_)
        refine lv_ldc hx hb hown (hts _ q33) dX0_spoilt_18 ?_
        refine lv_iand hx hb dX0_spoilt_20 ?_
        refine lv_bipush (v := 15) hx hb dX0_spoilt_21 (by decide) ?_
        refine lv_irem hx hb dX0_spoilt_23 (by decide) ?_
        refine lv_ishl hx hb dX0_spoilt_24 ?_
        refine lv_ixor hx hb dX0_spoilt_25 ?_
        refine lv_istore_n (lv' := [(2, .int (z ^^^ (((1 : Int32) <<< (((((c0 &&& (2147483647 : Int32))) - ((c0 &&& (2147483647 : Int32))) / (15 : Int32) * (15 : Int32))) &&& 31))))), (3, .int (nI i)), (0, .ref sb), (1, .int (nI q))]) hx hb dX0_spoilt_26 rfl hl (by decide) rfl (fun ls hl => ?_)
        refine lv_iinc (v := nI (i + 1)) (lv' := [(3, .int (nI (i + 1))), (2, .int (z ^^^ (((1 : Int32) <<< (((((c0 &&& (2147483647 : Int32))) - ((c0 &&& (2147483647 : Int32))) / (15 : Int32) * (15 : Int32))) &&& 31))))), (0, .ref sb), (1, .int (nI q))]) hx hb dX0_spoilt_27 hl (k := 1) rfl (nI_1 i) (by decide) rfl (fun ls hl => ?_)
        refine lv_goto (tgt := 4) hx hb dX0_spoilt_30 (by decide) ?_
        exact ih (i + 1) ((z ^^^ (((1 : Int32) <<< (((((c0 &&& (2147483647 : Int32))) - ((c0 &&& (2147483647 : Int32))) / (15 : Int32) * (15 : Int32))) &&& 31))))) (by omega) (by have h9 := fw_pc_xor z ((1 : Int32) <<< (((c0 &&& 2147483647) - (c0 &&& 2147483647) / 15 * 15) &&& 31)); rw [fw_one] at h9; omega) ls (lv_sub hl [0, 1, 2, 3] rfl)
  have hl := lv_entry ([.ref sb, .int (nI q)]) (n := 4) (Nat.le_of_ble_eq_true rfl)
  rw [lg_entry_eq]
  generalize (lg_sl ([.ref sb, .int (nI q)]) ++ List.replicate (4 - (lg_sl ([.ref sb, .int (nI q)])).length) Slot.unset).toArray = ls at hl ⊢
  have hl : lv_has ls 4 [(0, .ref sb), (1, .int (nI q))] := hl
  refine lv_iconst (v := 0) hx hb dX0_spoilt_0 (by decide) ?_
  refine lv_istore_n (lv' := [(2, .int 0), (0, .ref sb), (1, .int (nI q))]) hx hb dX0_spoilt_1 rfl hl (by decide) rfl (fun ls hl => ?_)
  refine lv_iconst (v := nI 0) hx hb dX0_spoilt_2 (by decide) ?_
  refine lv_istore_n (lv' := [(3, .int (nI 0)), (2, .int 0), (0, .ref sb), (1, .int (nI q))]) hx hb dX0_spoilt_3 rfl hl (by decide) rfl (fun ls hl => ?_)
  exact loop 3 0 0 rfl (by rw [fw_pc_0]; exact Nat.le_refl 0) ls hl
set_option maxHeartbeats 4000000 in
set_option maxRecDepth 100000 in
/-- askedBits: how many ones, a place at a time -/
theorem metX0_askedBits_n (l : Launch) (n0 : Nat) (hn0 : n0 < 2 ^ 32) : Met l yX0_askedBits (ws_ yX0_askedBits cX0_askedBits 3 (some .int)) ({ frames := 0, cells := 0, slots := 0, locals := 0 }) (va_Pc [.int (nI n0)] (fun _ => True)) (vp_Si (fun r : Int32 => r = nI (fw_pc (nI n0)))) 0 0 (fun _ => False) := by
  refine Met.ofW (cc := cX0_askedBits) (maxL := 3) (ret := (some .int)) (by decide) rfl ?_
  intro p e s m args below meth c s₁ B hml hv
  obtain ⟨rfl, -⟩ := hv
  have hx := B.exec
  have hb := B.bytes
  have hr := B.returns
  have hts := atoms_spec (ws := (ws_ yX0_askedBits cX0_askedBits 3 (some .int))) B.pre
  have hts : ∀ w ∈ lw_all, w.before _ s = true := fun w h => hts w (List.mem_cons_of_mem _ h)
  have hown : s.vm.findClass RX0 = some m.cls := findClass_of_methodNamed B.named
  have hlocks := B.notSynchronized
  have loop : ∀ (n i : Nat), i + n = 32 → ∀ ls : Array Slot, lv_has ls 3 [(2, .int (nI i)), (1, .int (nI (fw_pn i n0))), (0, .int (nI n0))] → W p l e (headSpec (ws_ yX0_askedBits cX0_askedBits 3 (some .int)) ({ frames := 0, cells := 0, slots := 0, locals := 0 })).room s m ([.int (nI n0)] : List Value).toArray below meth c s.heap [] (0) (0) (MQ below (vp_Si (fun r : Int32 => r = nI (fw_pc (nI n0)))) ([.int (nI n0)] : List Value).toArray s 0 0 (fun _ => False)) (F0 m 4 ls []) := by
    intro n
    induction n with
    | zero =>
      intro i hi ls hl
      have hi : i = 32 := by omega
      subst hi
      refine lv_iload_n hx hb dX0_askedBits_4 rfl (lv_at hl 0 rfl) ?_
      refine lv_bipush (v := 32) hx hb dX0_askedBits_5 (by decide) ?_
      refine lv_icmp_ge (tgt := 24) hx hb dX0_askedBits_7 (by decide) (fun c_1 => ?_) (fun c_1 => ?_)
      · refine lv_iload_n hx hb dX0_askedBits_24 rfl (lv_at hl 1 rfl) ?_
        exact W.iret (v := (nI (fw_pn 32 n0))) hx hb hr (fun t ht hW => ⟨_, rfl, by rw [fw_pc_n hn0], ht⟩) (fun q h => by cases h) dX0_askedBits_25
      · exact absurd (show (32 : Int32) ≤ nI 32 from by decide) c_1
    | succ n ih =>
      intro i hi ls hl
      have hi32 : i < 32 := by omega
      refine lv_iload_n hx hb dX0_askedBits_4 rfl (lv_at hl 0 rfl) ?_
      refine lv_bipush (v := 32) hx hb dX0_askedBits_5 (by decide) ?_
      refine lv_icmp_ge (tgt := 24) hx hb dX0_askedBits_7 (by decide) (fun c_1 => ?_) (fun c_1 => ?_)
      · exact absurd c_1 (nI_ge (b := 32) hi32 (by decide))
      · refine lv_iload_n hx hb dX0_askedBits_10 rfl (lv_at hl 1 rfl) ?_
        refine lv_iload_n hx hb dX0_askedBits_11 rfl (lv_at hl 2 rfl) ?_
        refine lv_iload_n hx hb dX0_askedBits_12 rfl (lv_at hl 0 rfl) ?_
        refine lv_iushr (v := (((nI n0)).toUInt32 >>> (((nI i)).toUInt32 &&& Int32.toUInt32 31)).toInt32) hx hb dX0_askedBits_13 rfl ?_
        refine lv_iconst (v := 1) hx hb dX0_askedBits_14 (by decide) ?_
        refine lv_iand hx hb dX0_askedBits_15 ?_
        refine lv_iadd hx hb dX0_askedBits_16 ?_
        refine fw_top (nI (fw_pn (i + 1) n0)) (fw_bit hn0 hi32) ?_
        refine lv_istore_n (lv' := [(1, .int (nI (fw_pn (i + 1) n0))), (2, .int (nI i)), (0, .int (nI n0))]) hx hb dX0_askedBits_17 rfl hl (by decide) rfl (fun ls hl => ?_)
        refine lv_iinc (v := nI (i + 1)) (lv' := [(2, .int (nI (i + 1))), (1, .int (nI (fw_pn (i + 1) n0))), (0, .int (nI n0))]) hx hb dX0_askedBits_18 hl (k := 1) rfl (nI_1 i) (by decide) rfl (fun ls hl => ?_)
        refine lv_goto (tgt := 4) hx hb dX0_askedBits_21 (by decide) ?_
        exact ih (i + 1) (by omega) ls (lv_sub hl [0, 1, 2] rfl)
  have hl := lv_entry ([.int (nI n0)]) (n := 3) (Nat.le_of_ble_eq_true rfl)
  rw [lg_entry_eq]
  generalize (lg_sl ([.int (nI n0)]) ++ List.replicate (3 - (lg_sl ([.int (nI n0)])).length) Slot.unset).toArray = ls at hl ⊢
  have hl : lv_has ls 3 [(0, .int (nI n0))] := hl
  refine lv_iconst (v := nI (fw_pn 0 n0)) hx hb dX0_askedBits_0 rfl ?_
  refine lv_istore_n (lv' := [(1, .int (nI (fw_pn 0 n0))), (0, .int (nI n0))]) hx hb dX0_askedBits_1 rfl hl (by decide) rfl (fun ls hl => ?_)
  refine lv_iconst (v := nI 0) hx hb dX0_askedBits_2 (by decide) ?_
  refine lv_istore_n (lv' := [(2, .int (nI 0)), (1, .int (nI (fw_pn 0 n0))), (0, .int (nI n0))]) hx hb dX0_askedBits_3 rfl hl (by decide) rfl (fun ls hl => ?_)
  exact loop 32 0 rfl ls hl
/-- askedBits: how many ones -/
theorem metX0_askedBits (l : Launch) (x : Int32) : Met l yX0_askedBits (ws_ yX0_askedBits cX0_askedBits 3 (some .int)) ({ frames := 0, cells := 0, slots := 0, locals := 0 }) (va_Pc [.int x] (fun _ => True)) (vp_Si (fun r : Int32 => r = nI (fw_pc x))) 0 0 (fun _ => False) := by
  obtain ⟨n0, hn0, rfl⟩ := wb_of32 x
  exact metX0_askedBits_n l n0 hn0
set_option maxHeartbeats 4000000 in
set_option maxRecDepth 100000 in
/-- askedNear: the first of the nearest words within three places -/
theorem metX0_askedNear (l : Launch) (a b : Int32) : Met l yX0_askedNear (ws_ yX0_askedNear cX0_askedNear 6 (some .int)) ({ frames := 1, cells := 0, slots := 0, locals := 22 }) (va_Pc [.int a, .int b] (fun _ => True)) (vp_Si (fun r : Int32 => ∃ o, fw_D a b o ∧ r = fw_enc o)) 0 0 (fun _ => False) := by
  refine Met.ofW (cc := cX0_askedNear) (maxL := 6) (ret := (some .int)) (by decide) rfl ?_
  intro p e s m args below meth c s₁ B hml hv
  obtain ⟨rfl, -⟩ := hv
  have hx := B.exec
  have hb := B.bytes
  have hr := B.returns
  have hts := atoms_spec (ws := (ws_ yX0_askedNear cX0_askedNear 6 (some .int))) B.pre
  have hts : ∀ w ∈ lw_all, w.before _ s = true := fun w h => hts w (List.mem_cons_of_mem _ h)
  have hown : s.vm.findClass RX0 = some m.cls := findClass_of_methodNamed B.named
  have hlocks := B.notSynchronized
  have loop : ∀ (n i : Nat) (best made : Int32), i + n = 32 → fw_N a b i best made → ∀ ls : Array Slot, lv_has ls 6 [(4, .int (nI i)), (3, .int made), (2, .int best), (0, .int a), (1, .int b)] → W p l e (headSpec (ws_ yX0_askedNear cX0_askedNear 6 (some .int)) ({ frames := 1, cells := 0, slots := 0, locals := 22 })).room s m ([.int a, .int b] : List Value).toArray below meth c s.heap [] (0) (0) (MQ below (vp_Si (fun r : Int32 => ∃ o, fw_D a b o ∧ r = fw_enc o)) ([.int a, .int b] : List Value).toArray s 0 0 (fun _ => False)) (F0 m 7 ls []) := by
    intro n
    induction n with
    | zero =>
      intro i best made hi hN ls hl
      have hi : i = 32 := by omega
      subst hi
      refine lv_iload hx hb dX0_askedNear_7 (lv_at hl 0 rfl) ?_
      refine lv_bipush (v := 32) hx hb dX0_askedNear_9 (by decide) ?_
      refine lv_icmp_ge (tgt := 57) hx hb dX0_askedNear_11 (by decide) (fun c_1 => ?_) (fun c_1 => ?_)
      · refine lv_iload_n hx hb dX0_askedNear_57 rfl (lv_at hl 1 rfl) ?_
        exact W.iret (v := made) hx hb hr (fun t ht hW => ⟨_, rfl, fw_N_end hN, ht⟩) (fun q h => by cases h) dX0_askedNear_58
      · exact absurd (show (32 : Int32) ≤ nI 32 from by decide) c_1
    | succ n ih =>
      intro i best made hi hN ls hl
      have hi32 : i < 32 := by omega
      refine lv_iload hx hb dX0_askedNear_7 (lv_at hl 0 rfl) ?_
      refine lv_bipush (v := 32) hx hb dX0_askedNear_9 (by decide) ?_
      refine lv_icmp_ge (tgt := 57) hx hb dX0_askedNear_11 (by decide) (fun c_1 => ?_) (fun c_1 => ?_)
      · exact absurd c_1 (nI_ge (b := 32) hi32 (by decide))
      · refine lv_iload_n hx hb dX0_askedNear_14 rfl (lv_at hl 3 rfl) ?_
        refine lv_iload hx hb dX0_askedNear_15 (lv_at hl 0 rfl) ?_
        refine vp_callSi (va_Run.run (va_runS (As := [.int (nI i)]) (rest := [.int a]) ⟨hx, hb, hml, hown, hts⟩ (metX0_askedWord l i hi32) (va_cwS 1 hts (lw_S q175 q176 q1 q177) rfl rfl rfl (by decide +kernel) ⟨Nat.le_of_ble_eq_true rfl, Nat.le_of_ble_eq_true rfl⟩) ⟨fun _ _ _ _ q => q, fun U hU hW => ⟨rfl, trivial⟩⟩ rfl rfl hl.1 rfl (lv_room (Nat.le_of_ble_eq_true rfl)) dX0_askedNear_17 ⟨Nat.le_of_ble_eq_true rfl, Nat.le_of_ble_eq_true rfl⟩)) (fun w1 ew1 => ?_)
        subst ew1
        refine lv_ixor hx hb dX0_askedNear_20 ?_
        refine vp_callSi (va_Run.run (va_runS (As := [.int (a ^^^ ((fw_t i)))]) (rest := []) ⟨hx, hb, hml, hown, hts⟩ (metX0_askedBits l (a ^^^ fw_t i)) (va_cwS 1 hts (lw_S q158 q159 q1 q160) rfl rfl rfl (by decide +kernel) ⟨Nat.le_of_ble_eq_true rfl, Nat.le_of_ble_eq_true rfl⟩) ⟨fun _ _ _ _ q => q, fun U hU hW => ⟨rfl, trivial⟩⟩ rfl rfl hl.1 rfl (lv_room (Nat.le_of_ble_eq_true rfl)) dX0_askedNear_21 ⟨Nat.le_of_ble_eq_true rfl, Nat.le_of_ble_eq_true rfl⟩)) (fun d1 ed1 => ?_)
        subst ed1
        refine lv_iload_n hx hb dX0_askedNear_24 rfl (lv_at hl 4 rfl) ?_
        refine lv_iload hx hb dX0_askedNear_25 (lv_at hl 0 rfl) ?_
        refine vp_callSi (va_Run.run (va_runS (As := [.int (nI i)]) (rest := [.int b, .int (nI (fw_pc (a ^^^ fw_t i)))]) ⟨hx, hb, hml, hown, hts⟩ (metX0_askedWord l i hi32) (va_cwS 1 hts (lw_S q175 q176 q1 q177) rfl rfl rfl (by decide +kernel) ⟨Nat.le_of_ble_eq_true rfl, Nat.le_of_ble_eq_true rfl⟩) ⟨fun _ _ _ _ q => q, fun U hU hW => ⟨rfl, trivial⟩⟩ rfl rfl hl.1 rfl (lv_room (Nat.le_of_ble_eq_true rfl)) dX0_askedNear_27 ⟨Nat.le_of_ble_eq_true rfl, Nat.le_of_ble_eq_true rfl⟩)) (fun w2 ew2 => ?_)
        subst ew2
        refine lv_ixor hx hb dX0_askedNear_30 ?_
        refine vp_callSi (va_Run.run (va_runS (As := [.int (b ^^^ ((fw_t i)))]) (rest := [.int (nI (fw_pc (a ^^^ fw_t i)))]) ⟨hx, hb, hml, hown, hts⟩ (metX0_askedBits l (b ^^^ fw_t i)) (va_cwS 1 hts (lw_S q158 q159 q1 q160) rfl rfl rfl (by decide +kernel) ⟨Nat.le_of_ble_eq_true rfl, Nat.le_of_ble_eq_true rfl⟩) ⟨fun _ _ _ _ q => q, fun U hU hW => ⟨rfl, trivial⟩⟩ rfl rfl hl.1 rfl (lv_room (Nat.le_of_ble_eq_true rfl)) dX0_askedNear_31 ⟨Nat.le_of_ble_eq_true rfl, Nat.le_of_ble_eq_true rfl⟩)) (fun d2 ed2 => ?_)
        subst ed2
        refine va_mmin hx hb (hml.trans hl.1.symm) hown (hts _ q178) (hts _ q179) (hts _ q11) (hts _ q180) (Nat.le_of_ble_eq_true rfl) (Nat.le_of_ble_eq_true rfl) (Nat.le_of_ble_eq_true rfl) (Nat.le_of_ble_eq_true rfl) dX0_askedNear_34 ?_
        refine fw_top (nI (fw_far a b i)) (fw_N_min a b i) ?_
        refine lv_istore (lv' := [(5, .int (nI (fw_far a b i))), (4, .int (nI i)), (3, .int made), (2, .int best), (0, .int a), (1, .int b)]) hx hb dX0_askedNear_37 hl (by decide) rfl (fun ls hl => ?_)
        refine lv_iload hx hb dX0_askedNear_39 (lv_at hl 0 rfl) ?_
        refine lv_iload_n hx hb dX0_askedNear_41 rfl (lv_at hl 3 rfl) ?_
        refine lv_icmp_ge (tgt := 51) hx hb dX0_askedNear_42 (by decide) (fun c_2 => ?_) (fun c_2 => ?_)
        · refine lv_iinc (v := nI (i + 1)) (lv' := [(4, .int (nI (i + 1))), (5, .int (nI (fw_far a b i))), (3, .int made), (2, .int best), (0, .int a), (1, .int b)]) hx hb dX0_askedNear_51 hl (k := 1) rfl (nI_1 i) (by decide) rfl (fun ls hl => ?_)
          refine lv_goto (tgt := 7) hx hb dX0_askedNear_54 (by decide) ?_
          exact ih (i + 1) (best) (made) (by omega) (fw_N_old hN (Int32.not_lt.mpr c_2)) ls (lv_sub hl [0, 2, 3, 4, 5] rfl)
        · refine lv_iload hx hb dX0_askedNear_45 (lv_at hl 0 rfl) ?_
          refine lv_istore_n (lv' := [(2, .int (nI (fw_far a b i))), (5, .int (nI (fw_far a b i))), (4, .int (nI i)), (3, .int made), (0, .int a), (1, .int b)]) hx hb dX0_askedNear_47 rfl hl (by decide) rfl (fun ls hl => ?_)
          refine lv_iload hx hb dX0_askedNear_48 (lv_at hl 2 rfl) ?_
          refine lv_istore_n (lv' := [(3, .int (nI i)), (2, .int (nI (fw_far a b i))), (5, .int (nI (fw_far a b i))), (4, .int (nI i)), (0, .int a), (1, .int b)]) hx hb dX0_askedNear_50 rfl hl (by decide) rfl (fun ls hl => ?_)
          refine lv_iinc (v := nI (i + 1)) (lv' := [(4, .int (nI (i + 1))), (3, .int (nI i)), (2, .int (nI (fw_far a b i))), (5, .int (nI (fw_far a b i))), (0, .int a), (1, .int b)]) hx hb dX0_askedNear_51 hl (k := 3) rfl (nI_1 i) (by decide) rfl (fun ls hl => ?_)
          refine lv_goto (tgt := 7) hx hb dX0_askedNear_54 (by decide) ?_
          exact ih (i + 1) (nI (fw_far a b i)) (nI i) (by omega) (fw_N_new hN (Int32.not_le.mp c_2)) ls (lv_sub hl [0, 1, 2, 4, 5] rfl)
  have hl := lv_entry ([.int a, .int b]) (n := 6) (Nat.le_of_ble_eq_true rfl)
  rw [lg_entry_eq]
  generalize (lg_sl ([.int a, .int b]) ++ List.replicate (6 - (lg_sl ([.int a, .int b])).length) Slot.unset).toArray = ls at hl ⊢
  have hl : lv_has ls 6 [(0, .int a), (1, .int b)] := hl
  refine lv_iconst (v := 4) hx hb dX0_askedNear_0 (by decide) ?_
  refine lv_istore_n (lv' := [(2, .int 4), (0, .int a), (1, .int b)]) hx hb dX0_askedNear_1 rfl hl (by decide) rfl (fun ls hl => ?_)
  refine lv_iconst (v := (-1)) hx hb dX0_askedNear_2 (by decide) ?_
  refine lv_istore_n (lv' := [(3, .int (-1)), (2, .int 4), (0, .int a), (1, .int b)]) hx hb dX0_askedNear_3 rfl hl (by decide) rfl (fun ls hl => ?_)
  refine lv_iconst (v := nI 0) hx hb dX0_askedNear_4 (by decide) ?_
  refine lv_istore (lv' := [(4, .int (nI 0)), (3, .int (-1)), (2, .int 4), (0, .int a), (1, .int b)]) hx hb dX0_askedNear_5 hl (by decide) rfl (fun ls hl => ?_)
  exact loop 32 0 4 (-1) rfl (fw_N_0 a b) ls hl
set_option maxHeartbeats 4000000 in
set_option maxRecDepth 100000 in
/-- askedDue: what is due -/
theorem metX0_askedDue (l : Launch) (a b : Int32) : Met l yX0_askedDue (ws_ yX0_askedDue cX0_askedDue 3 (some .int)) ({ frames := 2, cells := 0, slots := 0, locals := 47 }) (va_Pc [.int a, .int b] (fun _ => True)) (vp_Si (fun r : Int32 => fw_R a b r)) 0 0 (fun _ => False) := by
  refine Met.ofW (cc := cX0_askedDue) (maxL := 3) (ret := (some .int)) (by decide) rfl ?_
  intro p e s m args below meth c s₁ B hml hv
  obtain ⟨rfl, -⟩ := hv
  have hx := B.exec
  have hb := B.bytes
  have hr := B.returns
  have hts := atoms_spec (ws := (ws_ yX0_askedDue cX0_askedDue 3 (some .int))) B.pre
  have hts : ∀ w ∈ lw_all, w.before _ s = true := fun w h => hts w (List.mem_cons_of_mem _ h)
  have hown : s.vm.findClass RX0 = some m.cls := findClass_of_methodNamed B.named
  have hlocks := B.notSynchronized
  have hl := lv_entry ([.int a, .int b]) (n := 3) (Nat.le_of_ble_eq_true rfl)
  rw [lg_entry_eq]
  generalize (lg_sl ([.int a, .int b]) ++ List.replicate (3 - (lg_sl ([.int a, .int b])).length) Slot.unset).toArray = ls at hl ⊢
  have hl : lv_has ls 3 [(0, .int a), (1, .int b)] := hl
  refine lv_iload_n hx hb dX0_askedDue_0 rfl (lv_at hl 0 rfl) ?_
  refine lv_iload_n hx hb dX0_askedDue_1 rfl (lv_at hl 1 rfl) ?_
  refine vp_callSi (va_Run.run (va_runS (As := [.int a, .int b]) (rest := []) ⟨hx, hb, hml, hown, hts⟩ (metX0_askedNear l a b) (va_cwS 2 hts (lw_S q172 q173 q1 q174) rfl rfl rfl (by decide +kernel) ⟨Nat.le_of_ble_eq_true rfl, Nat.le_of_ble_eq_true rfl⟩) ⟨fun _ _ _ _ q => q, fun U hU hW => ⟨rfl, trivial⟩⟩ rfl rfl hl.1 rfl (lv_room (Nat.le_of_ble_eq_true rfl)) dX0_askedDue_2 ⟨Nat.le_of_ble_eq_true rfl, Nat.le_of_ble_eq_true rfl⟩)) (fun r1 h1 => ?_)
  refine lv_istore_n (lv' := [(2, .int r1), (0, .int a), (1, .int b)]) hx hb dX0_askedDue_5 rfl hl (by decide) rfl (fun ls hl => ?_)
  refine lv_iload_n hx hb dX0_askedDue_6 rfl (lv_at hl 0 rfl) ?_
  refine lv_if_lt (tgt := 14) hx hb dX0_askedDue_7 (by decide) (fun c_1 => ?_) (fun c_1 => ?_)
  · refine lv_iload_n hx hb dX0_askedDue_14 rfl (lv_at hl 1 rfl) ?_
    refine lv_sipush (v := 21522) hx hb dX0_askedDue_15 (by decide) ?_
    refine lv_ixor hx hb dX0_askedDue_18 ?_
    refine lv_iload_n hx hb dX0_askedDue_19 rfl (lv_at hl 2 rfl) ?_
    refine lv_sipush (v := 21522) hx hb dX0_askedDue_20 (by decide) ?_
    refine lv_ixor hx hb dX0_askedDue_23 ?_
    refine vp_callSi (va_Run.run (va_runS (As := [.int (a ^^^ (21522 : Int32)), .int (b ^^^ (21522 : Int32))]) (rest := []) ⟨hx, hb, hml, hown, hts⟩ (metX0_askedNear l (a ^^^ 21522) (b ^^^ 21522)) (va_cwS 2 hts (lw_S q172 q173 q1 q174) rfl rfl rfl (by decide +kernel) ⟨Nat.le_of_ble_eq_true rfl, Nat.le_of_ble_eq_true rfl⟩) ⟨fun _ _ _ _ q => q, fun U hU hW => ⟨rfl, trivial⟩⟩ rfl rfl hl.1 rfl (lv_room (Nat.le_of_ble_eq_true rfl)) dX0_askedDue_24 ⟨Nat.le_of_ble_eq_true rfl, Nat.le_of_ble_eq_true rfl⟩)) (fun r2 h2 => ?_)
    obtain ⟨o, ho, rfl⟩ := h1
    obtain ⟨o2, ho2, rfl⟩ := h2
    have hn : o = none := by
        rcases fw_enc_in ho with ⟨e1, -⟩ | ⟨k, hk, e1, e2⟩
        · exact e1
        · rw [e2] at c_1
          exact absurd c_1 (nI_pos (by omega))
    subst hn
    exact W.iret (v := (fw_enc o2)) hx hb hr (fun t ht hW => ⟨_, rfl, ⟨o2, Or.inr ⟨ho, ho2⟩, rfl⟩, ht⟩) (fun q h => by cases h) dX0_askedDue_27
  · refine lv_iload_n hx hb dX0_askedDue_10 rfl (lv_at hl 0 rfl) ?_
    refine lv_goto (tgt := 27) hx hb dX0_askedDue_11 (by decide) ?_
    obtain ⟨o, ho, rfl⟩ := h1
    have hn : ∃ k, o = some k := by
        rcases fw_enc_in ho with ⟨-, e1⟩ | ⟨k, hk, e1, e2⟩
        · rw [e1] at c_1
          exact absurd (by decide) c_1
        · exact ⟨k, e1⟩
    obtain ⟨k, rfl⟩ := hn
    exact W.iret (v := (fw_enc (some k))) hx hb hr (fun t ht hW => ⟨_, rfl, ⟨some k, Or.inl ⟨k, rfl, ho⟩, rfl⟩, ht⟩) (fun q h => by cases h) dX0_askedDue_27
end
section
/-! THE LAW'S FIVE CHECKS -/
set_option maxHeartbeats 4000000 in
set_option maxRecDepth 100000 in
/-- elder: copies spoilt in one or three places are read as they were; the count of places is a distance -/
theorem metX0_elder (l : Launch) (D : va_G) (K : fw_K) (sz sb L : Nat) (xs : Nat → Int32) (hL : L ≤ 8) : Met l yX0_elder (ws_ yX0_elder cX0_elder 7 (some .boolean)) ({ frames := 5, cells := 3, slots := 4, locals := 115 }) (va_Pc [.ref sb] (fw_PreX D K sb L xs sz)) (va_Qi (fun (r : Int32) (_ : Unit) => r = 1) (fun _ _ => True) (fun q => sz ≤ q)) 3 4 (fun q => sz ≤ q) := by
  refine Met.ofW (cc := cX0_elder) (maxL := 7) (ret := (some .boolean)) (by decide) rfl ?_
  intro p e s m args below meth c s₁ B hml hv
  obtain ⟨rfl, ⟨hsz, hK, hC⟩, hX, hbl⟩ := hv
  have hx := B.exec
  have hb := B.bytes
  have hr := B.returns
  have hts := atoms_spec (ws := (ws_ yX0_elder cX0_elder 7 (some .boolean))) B.pre
  have hts : ∀ w ∈ lw_all, w.before _ s = true := fun w h => hts w (List.mem_cons_of_mem _ h)
  have hown : s.vm.findClass RX0 = some m.cls := findClass_of_methodNamed B.named
  have hlocks := B.notSynchronized
  subst hsz
  have hS : va_S (fun q => s.heap.size ≤ q) s.heap s.heap [] := va_S.rf
  have hA : ∀ q, s.heap.size ≤ q → (fun q => s.heap.size ≤ q) q := fun q h => h
  have hP : va_P D fw_cl [] s.heap := fun k q h => by simp at h
  have hD : va_D (fun q => s.heap.size ≤ q) [] := ⟨fun i j p q h => by simp at h, fun k q h => by simp at h⟩
  have hbA : ¬ (fun q => s.heap.size ≤ q) sb := Nat.not_le.mpr hbl
  have hl := lv_entry ([.ref sb]) (n := 7) (Nat.le_of_ble_eq_true rfl)
  rw [lg_entry_eq]
  generalize (lg_sl ([.ref sb]) ++ List.replicate (7 - (lg_sl ([.ref sb])).length) Slot.unset).toArray = ls at hl ⊢
  have hl : lv_has ls 7 [(0, .ref sb)] := hl
  refine va_new (ci := 0) (fs := []) (C := RX1) (T := TX1) (N := 0) hx hb hts in_X1 tyX1 tyX1_ok hown (hts _ q15) (hts _ q16) (hts _ q2) hK hP hD hS hA rfl (fun j hj => absurd hj (Nat.not_lt_zero j)) (Nat.le_of_ble_eq_true rfl) (Nat.le_of_ble_eq_true rfl) dX0_elder_0 (fun z H hP hD hS => ?_)
  have hP : va_P D fw_cl [(z, .inr (0, []))] H := hP
  have hD : va_D (fun q => s.heap.size ≤ q) [(z, .inr (0, []))] := hD
  refine lv_dup hx hb dX0_elder_3 rfl ?_
  refine va_csv (va_Run.run (va_runI (As := []) (rest := [.ref z]) ⟨hx, hb, hml, hown, hts⟩ (metX1_init l z) (cwI 0 hts (lw_meth q19) rfl rfl rfl (hts _ q2) (hts _ q17) (hts _ q18) rfl (by decide +kernel) ⟨Nat.le_of_ble_eq_true rfl, Nat.le_of_ble_eq_true rfl⟩) ⟨fun _ _ _ _ q => q, fun U hU hW => ⟨rfl, trivial⟩⟩ rfl rfl hl.1 rfl (lv_room (Nat.le_of_ble_eq_true rfl)) dX0_elder_4 ⟨Nat.le_of_ble_eq_true rfl, Nat.le_of_ble_eq_true rfl⟩)) (fun _ => ?_)
  refine lv_astore_n (lv' := [(1, .ref z), (0, .ref sb)]) hx hb dX0_elder_7 rfl hl (by decide) rfl (fun ls hl => ?_)
  refine lv_aload_n hx hb dX0_elder_8 rfl (lv_at hl 1 rfl) ?_
  refine lv_iconst (v := 0) hx hb dX0_elder_9 (by decide) ?_
  refine vp_callSi (va_Run.run (va_runS (As := [.ref sb, .int 0]) (rest := []) ⟨hx, hb, hml, hown, hts⟩ (metX0_cell l sb L xs hL 0 (by decide)) (va_cwS 2 hts (lw_S q24 q25 q1 q26) rfl rfl rfl (by decide +kernel) ⟨Nat.le_of_ble_eq_true rfl, Nat.le_of_ble_eq_true rfl⟩) ⟨fw_X.blind, fun U hU hW => ⟨rfl, fw_X.make hX hbl hbA hS hU hW.alike⟩⟩ rfl rfl hl.1 rfl (lv_room (Nat.le_of_ble_eq_true rfl)) dX0_elder_10 ⟨Nat.le_of_ble_eq_true rfl, Nat.le_of_ble_eq_true rfl⟩)) (fun c0 _ => ?_)
  obtain ⟨f, hf, ef⟩ := fw_f31 c0
  refine lv_bipush (v := 31) hx hb dX0_elder_13 (by decide) ?_
  refine lv_iand hx hb dX0_elder_15 ?_
  refine fw_top (nI f) (ef) ?_
  refine lv_istore_n (lv' := [(2, .int (nI f)), (1, .ref z), (0, .ref sb)]) hx hb dX0_elder_16 rfl hl (by decide) rfl (fun ls hl => ?_)
  refine lv_iload_n hx hb dX0_elder_17 rfl (lv_at hl 0 rfl) ?_
  refine vp_callSi (va_Run.run (va_runS (As := [.int (nI f)]) (rest := []) ⟨hx, hb, hml, hown, hts⟩ (metX0_word l f hf) (va_cwS 1 hts (lw_S q27 q28 q1 q29) rfl rfl rfl (by decide +kernel) ⟨Nat.le_of_ble_eq_true rfl, Nat.le_of_ble_eq_true rfl⟩) ⟨fun _ _ _ _ q => q, fun U hU hW => ⟨rfl, trivial⟩⟩ rfl rfl hl.1 rfl (lv_room (Nat.le_of_ble_eq_true rfl)) dX0_elder_18 ⟨Nat.le_of_ble_eq_true rfl, Nat.le_of_ble_eq_true rfl⟩)) (fun wd ewd => ?_)
  subst ewd
  refine lv_istore_n (lv' := [(3, .int (fw_t f)), (2, .int (nI f)), (1, .ref z), (0, .ref sb)]) hx hb dX0_elder_21 rfl hl (by decide) rfl (fun ls hl => ?_)
  refine lv_iload_n hx hb dX0_elder_22 rfl (lv_at hl 0 rfl) ?_
  refine lv_aload_n hx hb dX0_elder_23 rfl (lv_at hl 3 rfl) ?_
  refine lv_iconst (v := 1) hx hb dX0_elder_24 (by decide) ?_
  refine vp_callSi (va_Run.run (va_runS (As := [.ref sb, .int 1]) (rest := [.int (fw_t f)]) ⟨hx, hb, hml, hown, hts⟩ (metX0_spoilt l sb L xs hL 1 (by decide)) (va_cwS 2 hts (lw_S q30 q31 q1 q32) rfl rfl rfl (by decide +kernel) ⟨Nat.le_of_ble_eq_true rfl, Nat.le_of_ble_eq_true rfl⟩) ⟨fw_X.blind, fun U hU hW => ⟨rfl, fw_X.make hX hbl hbA hS hU hW.alike⟩⟩ rfl rfl hl.1 rfl (lv_room (Nat.le_of_ble_eq_true rfl)) dX0_elder_25 ⟨Nat.le_of_ble_eq_true rfl, Nat.le_of_ble_eq_true rfl⟩)) (fun e1 he1 => ?_)
  refine lv_ixor hx hb dX0_elder_28 ?_
  refine lv_istore (lv' := [(4, .int ((fw_t f) ^^^ e1)), (3, .int (fw_t f)), (2, .int (nI f)), (1, .ref z), (0, .ref sb)]) hx hb dX0_elder_29 hl (by decide) rfl (fun ls hl => ?_)
  refine lv_iload_n hx hb dX0_elder_31 rfl (lv_at hl 1 rfl) ?_
  refine lv_aload_n hx hb dX0_elder_32 rfl (lv_at hl 4 rfl) ?_
  refine lv_iconst (v := 4) hx hb dX0_elder_33 (by decide) ?_
  refine vp_callSi (va_Run.run (va_runS (As := [.ref sb, .int 4]) (rest := [.int (fw_t f)]) ⟨hx, hb, hml, hown, hts⟩ (metX0_spoilt l sb L xs hL 4 (by decide)) (va_cwS 2 hts (lw_S q30 q31 q1 q32) rfl rfl rfl (by decide +kernel) ⟨Nat.le_of_ble_eq_true rfl, Nat.le_of_ble_eq_true rfl⟩) ⟨fw_X.blind, fun U hU hW => ⟨rfl, fw_X.make hX hbl hbA hS hU hW.alike⟩⟩ rfl rfl hl.1 rfl (lv_room (Nat.le_of_ble_eq_true rfl)) dX0_elder_34 ⟨Nat.le_of_ble_eq_true rfl, Nat.le_of_ble_eq_true rfl⟩)) (fun e2 he2 => ?_)
  refine lv_ixor hx hb dX0_elder_37 ?_
  refine lv_istore (lv' := [(5, .int ((fw_t f) ^^^ e2)), (4, .int ((fw_t f) ^^^ e1)), (3, .int (fw_t f)), (2, .int (nI f)), (1, .ref z), (0, .ref sb)]) hx hb dX0_elder_38 hl (by decide) rfl (fun ls hl => ?_)
  refine lv_aload_n hx hb dX0_elder_40 rfl (lv_at hl 5 rfl) ?_
  refine lv_bipush (v := 7) hx hb dX0_elder_41 (by decide) ?_
  refine vp_callSi (va_Run.run (va_runS (As := [.ref sb, .int 7]) (rest := []) ⟨hx, hb, hml, hown, hts⟩ (metX0_cell l sb L xs hL 7 (by decide)) (va_cwS 2 hts (lw_S q24 q25 q1 q26) rfl rfl rfl (by decide +kernel) ⟨Nat.le_of_ble_eq_true rfl, Nat.le_of_ble_eq_true rfl⟩) ⟨fw_X.blind, fun U hU hW => ⟨rfl, fw_X.make hX hbl hbA hS hU hW.alike⟩⟩ rfl rfl hl.1 rfl (lv_room (Nat.le_of_ble_eq_true rfl)) dX0_elder_43 ⟨Nat.le_of_ble_eq_true rfl, Nat.le_of_ble_eq_true rfl⟩)) (fun c7 _ => ?_)
  refine lv_istore (lv' := [(6, .int c7), (5, .int ((fw_t f) ^^^ e2)), (4, .int ((fw_t f) ^^^ e1)), (3, .int (fw_t f)), (2, .int (nI f)), (1, .ref z), (0, .ref sb)]) hx hb dX0_elder_46 hl (by decide) rfl (fun ls hl => ?_)
  refine lv_aload_n hx hb dX0_elder_48 rfl (lv_at hl 5 rfl) ?_
  refine lv_iload hx hb dX0_elder_49 (lv_at hl 2 rfl) ?_
  refine lv_iload hx hb dX0_elder_51 (lv_at hl 1 rfl) ?_
  refine va_calli (va_runV (As := [.int ((fw_t f) ^^^ e1), .int ((fw_t f) ^^^ e2)]) (rest := []) ⟨hx, hb, hml, hown, hts⟩ (metX1_read l D K H.size z ((fw_t f) ^^^ e1) ((fw_t f) ^^^ e2)) (cwV 2 hts (lw_V q34 q35 q36 q2 q37) rfl rfl rfl (by decide +kernel) ⟨Nat.le_of_ble_eq_true rfl, Nat.le_of_ble_eq_true rfl⟩) ⟨fw_Pre.blind, va_recv hK hP (ci := 0) (q0 := 0) rfl rfl, fun U hU hW => ⟨rfl, fw_Pre.make hK hC hS hA hU hW.alike⟩⟩ rfl rfl hl.1 rfl (lv_room (Nat.le_of_ble_eq_true rfl)) dX0_elder_53 ⟨Nat.le_of_ble_eq_true rfl, Nat.le_of_ble_eq_true rfl⟩) hS (fun q _ h => (fun q h => hA q (Nat.le_trans hS.1 h)) q h) (fun q h => hA q (Nat.le_trans hS.1 h)) (fun r1 u_ t_ H locs ht_ hvm_ hr1 hB_ hz_ hk_ hS => ?_)
  have hP := fw_keep hP hk_
  have er1 := fw_R_spoilt hf he1 he2 hr1
  subst er1
  refine lv_iload_n hx hb dX0_elder_56 rfl (lv_at hl 4 rfl) ?_
  refine lv_icmp_eq (tgt := 62) hx hb dX0_elder_57 (by decide) (fun c_1 => ?_) (fun c_1 => ?_)
  · refine lv_aload_n hx hb dX0_elder_62 rfl (lv_at hl 5 rfl) ?_
    refine lv_iload hx hb dX0_elder_63 (lv_at hl 2 rfl) ?_
    refine lv_iload_n hx hb dX0_elder_65 rfl (lv_at hl 3 rfl) ?_
    refine vp_callSi (va_Run.run (va_runV (As := [.int ((fw_t f) ^^^ e1), .int (fw_t f)]) (rest := []) ⟨hx, hb, hml, hown, hts⟩ (metX1_apart l z ((fw_t f) ^^^ e1) (fw_t f)) (cwV 2 hts (lw_V q147 q148 q149 q2 q150) rfl rfl rfl (by decide +kernel) ⟨Nat.le_of_ble_eq_true rfl, Nat.le_of_ble_eq_true rfl⟩) ⟨fun _ _ _ _ q => q, va_recv hK hP (ci := 0) (q0 := 0) rfl rfl, fun U hU hW => ⟨rfl, trivial⟩⟩ rfl rfl hl.1 rfl (lv_room (Nat.le_of_ble_eq_true rfl)) dX0_elder_66 ⟨Nat.le_of_ble_eq_true rfl, Nat.le_of_ble_eq_true rfl⟩)) (fun d1 ed1 => ?_)
    subst ed1
    refine lv_iconst (v := 3) hx hb dX0_elder_69 (by decide) ?_
    refine lv_icmp_gt (tgt := 103) hx hb dX0_elder_70 (by decide) (fun c_2 => ?_) (fun c_2 => ?_)
    · exact absurd c_2 (fw_le3 (by rw [fw_self]; exact he1))
    · refine lv_aload_n hx hb dX0_elder_73 rfl (lv_at hl 5 rfl) ?_
      refine lv_iload hx hb dX0_elder_74 (lv_at hl 1 rfl) ?_
      refine lv_iload_n hx hb dX0_elder_76 rfl (lv_at hl 3 rfl) ?_
      refine vp_callSi (va_Run.run (va_runV (As := [.int ((fw_t f) ^^^ e2), .int (fw_t f)]) (rest := []) ⟨hx, hb, hml, hown, hts⟩ (metX1_apart l z ((fw_t f) ^^^ e2) (fw_t f)) (cwV 2 hts (lw_V q147 q148 q149 q2 q150) rfl rfl rfl (by decide +kernel) ⟨Nat.le_of_ble_eq_true rfl, Nat.le_of_ble_eq_true rfl⟩) ⟨fun _ _ _ _ q => q, va_recv hK hP (ci := 0) (q0 := 0) rfl rfl, fun U hU hW => ⟨rfl, trivial⟩⟩ rfl rfl hl.1 rfl (lv_room (Nat.le_of_ble_eq_true rfl)) dX0_elder_77 ⟨Nat.le_of_ble_eq_true rfl, Nat.le_of_ble_eq_true rfl⟩)) (fun d2 ed2 => ?_)
      subst ed2
      refine lv_iconst (v := 3) hx hb dX0_elder_80 (by decide) ?_
      refine lv_icmp_gt (tgt := 103) hx hb dX0_elder_81 (by decide) (fun c_3 => ?_) (fun c_3 => ?_)
      · exact absurd c_3 (fw_le3 (by rw [fw_self]; exact he2))
      · refine lv_aload_n hx hb dX0_elder_84 rfl (lv_at hl 5 rfl) ?_
        refine lv_iload hx hb dX0_elder_85 (lv_at hl 2 rfl) ?_
        refine lv_iload hx hb dX0_elder_87 (lv_at hl 1 rfl) ?_
        refine vp_callSi (va_Run.run (va_runV (As := [.int ((fw_t f) ^^^ e1), .int ((fw_t f) ^^^ e2)]) (rest := []) ⟨hx, hb, hml, hown, hts⟩ (metX1_apart l z ((fw_t f) ^^^ e1) ((fw_t f) ^^^ e2)) (cwV 2 hts (lw_V q147 q148 q149 q2 q150) rfl rfl rfl (by decide +kernel) ⟨Nat.le_of_ble_eq_true rfl, Nat.le_of_ble_eq_true rfl⟩) ⟨fun _ _ _ _ q => q, va_recv hK hP (ci := 0) (q0 := 0) rfl rfl, fun U hU hW => ⟨rfl, trivial⟩⟩ rfl rfl hl.1 rfl (lv_room (Nat.le_of_ble_eq_true rfl)) dX0_elder_89 ⟨Nat.le_of_ble_eq_true rfl, Nat.le_of_ble_eq_true rfl⟩)) (fun d3 ed3 => ?_)
        subst ed3
        refine lv_aload_n hx hb dX0_elder_92 rfl (lv_at hl 5 rfl) ?_
        refine lv_iload hx hb dX0_elder_93 (lv_at hl 1 rfl) ?_
        refine lv_iload hx hb dX0_elder_95 (lv_at hl 2 rfl) ?_
        refine vp_callSi (va_Run.run (va_runV (As := [.int ((fw_t f) ^^^ e2), .int ((fw_t f) ^^^ e1)]) (rest := [.int (nI (fw_pc (((fw_t f) ^^^ e1) ^^^ ((fw_t f) ^^^ e2))))]) ⟨hx, hb, hml, hown, hts⟩ (metX1_apart l z ((fw_t f) ^^^ e2) ((fw_t f) ^^^ e1)) (cwV 2 hts (lw_V q147 q148 q149 q2 q150) rfl rfl rfl (by decide +kernel) ⟨Nat.le_of_ble_eq_true rfl, Nat.le_of_ble_eq_true rfl⟩) ⟨fun _ _ _ _ q => q, va_recv hK hP (ci := 0) (q0 := 0) rfl rfl, fun U hU hW => ⟨rfl, trivial⟩⟩ rfl rfl hl.1 rfl (lv_room (Nat.le_of_ble_eq_true rfl)) dX0_elder_97 ⟨Nat.le_of_ble_eq_true rfl, Nat.le_of_ble_eq_true rfl⟩)) (fun d4 ed4 => ?_)
        subst ed4
        refine lv_icmp_eq (tgt := 105) hx hb dX0_elder_100 (by decide) (fun c_4 => ?_) (fun c_4 => ?_)
        · refine lv_aload_n hx hb dX0_elder_105 rfl (lv_at hl 5 rfl) ?_
          refine lv_iload hx hb dX0_elder_106 (lv_at hl 2 rfl) ?_
          refine lv_iload hx hb dX0_elder_108 (lv_at hl 1 rfl) ?_
          refine vp_callSi (va_Run.run (va_runV (As := [.int ((fw_t f) ^^^ e1), .int ((fw_t f) ^^^ e2)]) (rest := []) ⟨hx, hb, hml, hown, hts⟩ (metX1_apart l z ((fw_t f) ^^^ e1) ((fw_t f) ^^^ e2)) (cwV 2 hts (lw_V q147 q148 q149 q2 q150) rfl rfl rfl (by decide +kernel) ⟨Nat.le_of_ble_eq_true rfl, Nat.le_of_ble_eq_true rfl⟩) ⟨fun _ _ _ _ q => q, va_recv hK hP (ci := 0) (q0 := 0) rfl rfl, fun U hU hW => ⟨rfl, trivial⟩⟩ rfl rfl hl.1 rfl (lv_room (Nat.le_of_ble_eq_true rfl)) dX0_elder_110 ⟨Nat.le_of_ble_eq_true rfl, Nat.le_of_ble_eq_true rfl⟩)) (fun d5 ed5 => ?_)
          subst ed5
          refine lv_aload_n hx hb dX0_elder_113 rfl (lv_at hl 5 rfl) ?_
          refine lv_iload hx hb dX0_elder_114 (lv_at hl 2 rfl) ?_
          refine lv_iload hx hb dX0_elder_116 (lv_at hl 0 rfl) ?_
          refine vp_callSi (va_Run.run (va_runV (As := [.int ((fw_t f) ^^^ e1), .int c7]) (rest := [.int (nI (fw_pc (((fw_t f) ^^^ e1) ^^^ ((fw_t f) ^^^ e2))))]) ⟨hx, hb, hml, hown, hts⟩ (metX1_apart l z ((fw_t f) ^^^ e1) c7) (cwV 2 hts (lw_V q147 q148 q149 q2 q150) rfl rfl rfl (by decide +kernel) ⟨Nat.le_of_ble_eq_true rfl, Nat.le_of_ble_eq_true rfl⟩) ⟨fun _ _ _ _ q => q, va_recv hK hP (ci := 0) (q0 := 0) rfl rfl, fun U hU hW => ⟨rfl, trivial⟩⟩ rfl rfl hl.1 rfl (lv_room (Nat.le_of_ble_eq_true rfl)) dX0_elder_118 ⟨Nat.le_of_ble_eq_true rfl, Nat.le_of_ble_eq_true rfl⟩)) (fun d6 ed6 => ?_)
          subst ed6
          refine lv_aload_n hx hb dX0_elder_121 rfl (lv_at hl 5 rfl) ?_
          refine lv_iload hx hb dX0_elder_122 (lv_at hl 0 rfl) ?_
          refine lv_iload hx hb dX0_elder_124 (lv_at hl 1 rfl) ?_
          refine vp_callSi (va_Run.run (va_runV (As := [.int c7, .int ((fw_t f) ^^^ e2)]) (rest := [.int (nI (fw_pc (((fw_t f) ^^^ e1) ^^^ c7))), .int (nI (fw_pc (((fw_t f) ^^^ e1) ^^^ ((fw_t f) ^^^ e2))))]) ⟨hx, hb, hml, hown, hts⟩ (metX1_apart l z c7 ((fw_t f) ^^^ e2)) (cwV 2 hts (lw_V q147 q148 q149 q2 q150) rfl rfl rfl (by decide +kernel) ⟨Nat.le_of_ble_eq_true rfl, Nat.le_of_ble_eq_true rfl⟩) ⟨fun _ _ _ _ q => q, va_recv hK hP (ci := 0) (q0 := 0) rfl rfl, fun U hU hW => ⟨rfl, trivial⟩⟩ rfl rfl hl.1 rfl (lv_room (Nat.le_of_ble_eq_true rfl)) dX0_elder_126 ⟨Nat.le_of_ble_eq_true rfl, Nat.le_of_ble_eq_true rfl⟩)) (fun d7 ed7 => ?_)
          subst ed7
          refine lv_iadd hx hb dX0_elder_129 ?_
          refine lv_icmp_gt (tgt := 168) hx hb dX0_elder_130 (by decide) (fun c_5 => ?_) (fun c_5 => ?_)
          · exact absurd c_5 (fw_le_add (fw_pc_le _) (fw_pc_le _) (fw_pc_le _) (fw_tri _ _ _))
          · refine lv_aload_n hx hb dX0_elder_133 rfl (lv_at hl 5 rfl) ?_
            refine lv_iload hx hb dX0_elder_134 (lv_at hl 2 rfl) ?_
            refine lv_iload hx hb dX0_elder_136 (lv_at hl 1 rfl) ?_
            refine vp_callSi (va_Run.run (va_runV (As := [.int ((fw_t f) ^^^ e1), .int ((fw_t f) ^^^ e2)]) (rest := []) ⟨hx, hb, hml, hown, hts⟩ (metX1_apart l z ((fw_t f) ^^^ e1) ((fw_t f) ^^^ e2)) (cwV 2 hts (lw_V q147 q148 q149 q2 q150) rfl rfl rfl (by decide +kernel) ⟨Nat.le_of_ble_eq_true rfl, Nat.le_of_ble_eq_true rfl⟩) ⟨fun _ _ _ _ q => q, va_recv hK hP (ci := 0) (q0 := 0) rfl rfl, fun U hU hW => ⟨rfl, trivial⟩⟩ rfl rfl hl.1 rfl (lv_room (Nat.le_of_ble_eq_true rfl)) dX0_elder_138 ⟨Nat.le_of_ble_eq_true rfl, Nat.le_of_ble_eq_true rfl⟩)) (fun d8 ed8 => ?_)
            subst ed8
            refine lv_if_ne (tgt := 148) hx hb dX0_elder_141 (by decide) (fun c_6 => ?_) (fun c_6 => ?_)
            · refine lv_iconst (v := 0) hx hb dX0_elder_148 (by decide) ?_
              refine lv_iload hx hb dX0_elder_149 (lv_at hl 2 rfl) ?_
              refine lv_iload hx hb dX0_elder_151 (lv_at hl 1 rfl) ?_
              refine lv_icmp_ne (tgt := 160) hx hb dX0_elder_153 (by decide) (fun c_7 => ?_) (fun c_7 => ?_)
              · refine lv_iconst (v := 0) hx hb dX0_elder_160 (by decide) ?_
                refine lv_icmp_ne (tgt := 168) hx hb dX0_elder_161 (by decide) (fun c_8 => ?_) (fun c_8 => ?_)
                · exact absurd rfl c_8
                · refine lv_iconst (v := 1) hx hb dX0_elder_164 (by decide) ?_
                  refine lv_goto (tgt := 169) hx hb dX0_elder_165 (by decide) ?_
                  refine W.widen (k := 3) (n := 4) (by first | omega | decide) (by first | omega | decide) ?_
                  exact W.zret (v := 1) hx hb hr rfl (fun t ht hW => ⟨⟨1, (), rfl, rfl, trivial⟩, hS.F ht⟩) hS.2.2 dX0_elder_169
              · exact absurd ((fw_eq0 _ _).mpr c_7) c_6
            · refine lv_iconst (v := 1) hx hb dX0_elder_144 (by decide) ?_
              refine lv_goto (tgt := 149) hx hb dX0_elder_145 (by decide) ?_
              refine lv_iload hx hb dX0_elder_149 (lv_at hl 2 rfl) ?_
              refine lv_iload hx hb dX0_elder_151 (lv_at hl 1 rfl) ?_
              refine lv_icmp_ne (tgt := 160) hx hb dX0_elder_153 (by decide) (fun c_7 => ?_) (fun c_7 => ?_)
              · exact absurd ((fw_eq0 _ _).mp c_6) c_7
              · refine lv_iconst (v := 1) hx hb dX0_elder_156 (by decide) ?_
                refine lv_goto (tgt := 161) hx hb dX0_elder_157 (by decide) ?_
                refine lv_icmp_ne (tgt := 168) hx hb dX0_elder_161 (by decide) (fun c_8 => ?_) (fun c_8 => ?_)
                · exact absurd rfl c_8
                · refine lv_iconst (v := 1) hx hb dX0_elder_164 (by decide) ?_
                  refine lv_goto (tgt := 169) hx hb dX0_elder_165 (by decide) ?_
                  refine W.widen (k := 3) (n := 4) (by first | omega | decide) (by first | omega | decide) ?_
                  exact W.zret (v := 1) hx hb hr rfl (fun t ht hW => ⟨⟨1, (), rfl, rfl, trivial⟩, hS.F ht⟩) hS.2.2 dX0_elder_169
        · exact absurd (by rw [fw_sym]) c_4
  · exact absurd rfl c_1
set_option maxHeartbeats 4000000 in
set_option maxRecDepth 100000 in
/-- askedApart: the count against the law's own, and at four known places -/
theorem metX0_askedApart (l : Launch) (D : va_G) (K : fw_K) (sz sb L : Nat) (xs : Nat → Int32) (hL : L ≤ 8) : Met l yX0_askedApart (ws_ yX0_askedApart cX0_askedApart 4 (some .boolean)) ({ frames := 3, cells := 1, slots := 0, locals := 63 }) (va_Pc [.ref sb] (fw_PreX D K sb L xs sz)) (va_Qi (fun (r : Int32) (_ : Unit) => r = 1) (fun _ _ => True) (fun q => sz ≤ q)) 1 0 (fun q => sz ≤ q) := by
  refine Met.ofW (cc := cX0_askedApart) (maxL := 4) (ret := (some .boolean)) (by decide) rfl ?_
  intro p e s m args below meth c s₁ B hml hv
  obtain ⟨rfl, ⟨hsz, hK, hC⟩, hX, hbl⟩ := hv
  have hx := B.exec
  have hb := B.bytes
  have hr := B.returns
  have hts := atoms_spec (ws := (ws_ yX0_askedApart cX0_askedApart 4 (some .boolean))) B.pre
  have hts : ∀ w ∈ lw_all, w.before _ s = true := fun w h => hts w (List.mem_cons_of_mem _ h)
  have hown : s.vm.findClass RX0 = some m.cls := findClass_of_methodNamed B.named
  have hlocks := B.notSynchronized
  subst hsz
  have hS : va_S (fun q => s.heap.size ≤ q) s.heap s.heap [] := va_S.rf
  have hA : ∀ q, s.heap.size ≤ q → (fun q => s.heap.size ≤ q) q := fun q h => h
  have hP : va_P D fw_cl [] s.heap := fun k q h => by simp at h
  have hD : va_D (fun q => s.heap.size ≤ q) [] := ⟨fun i j p q h => by simp at h, fun k q h => by simp at h⟩
  have hbA : ¬ (fun q => s.heap.size ≤ q) sb := Nat.not_le.mpr hbl
  have hl := lv_entry ([.ref sb]) (n := 4) (Nat.le_of_ble_eq_true rfl)
  rw [lg_entry_eq]
  generalize (lg_sl ([.ref sb]) ++ List.replicate (4 - (lg_sl ([.ref sb])).length) Slot.unset).toArray = ls at hl ⊢
  have hl : lv_has ls 4 [(0, .ref sb)] := hl
  refine va_new (ci := 0) (fs := []) (C := RX1) (T := TX1) (N := 0) hx hb hts in_X1 tyX1 tyX1_ok hown (hts _ q15) (hts _ q16) (hts _ q2) hK hP hD hS hA rfl (fun j hj => absurd hj (Nat.not_lt_zero j)) (Nat.le_of_ble_eq_true rfl) (Nat.le_of_ble_eq_true rfl) dX0_askedApart_0 (fun z H hP hD hS => ?_)
  have hP : va_P D fw_cl [(z, .inr (0, []))] H := hP
  have hD : va_D (fun q => s.heap.size ≤ q) [(z, .inr (0, []))] := hD
  refine lv_dup hx hb dX0_askedApart_3 rfl ?_
  refine va_csv (va_Run.run (va_runI (As := []) (rest := [.ref z]) ⟨hx, hb, hml, hown, hts⟩ (metX1_init l z) (cwI 0 hts (lw_meth q19) rfl rfl rfl (hts _ q2) (hts _ q17) (hts _ q18) rfl (by decide +kernel) ⟨Nat.le_of_ble_eq_true rfl, Nat.le_of_ble_eq_true rfl⟩) ⟨fun _ _ _ _ q => q, fun U hU hW => ⟨rfl, trivial⟩⟩ rfl rfl hl.1 rfl (lv_room (Nat.le_of_ble_eq_true rfl)) dX0_askedApart_4 ⟨Nat.le_of_ble_eq_true rfl, Nat.le_of_ble_eq_true rfl⟩)) (fun _ => ?_)
  refine lv_astore_n (lv' := [(1, .ref z), (0, .ref sb)]) hx hb dX0_askedApart_7 rfl hl (by decide) rfl (fun ls hl => ?_)
  refine lv_aload_n hx hb dX0_askedApart_8 rfl (lv_at hl 1 rfl) ?_
  refine lv_iconst (v := 0) hx hb dX0_askedApart_9 (by decide) ?_
  refine vp_callSi (va_Run.run (va_runS (As := [.ref sb, .int 0]) (rest := []) ⟨hx, hb, hml, hown, hts⟩ (metX0_askedCell l sb L xs hL 0 (by decide)) (va_cwS 2 hts (lw_S q155 q156 q1 q157) rfl rfl rfl (by decide +kernel) ⟨Nat.le_of_ble_eq_true rfl, Nat.le_of_ble_eq_true rfl⟩) ⟨fw_X.blind, fun U hU hW => ⟨rfl, fw_X.make hX hbl hbA hS hU hW.alike⟩⟩ rfl rfl hl.1 rfl (lv_room (Nat.le_of_ble_eq_true rfl)) dX0_askedApart_10 ⟨Nat.le_of_ble_eq_true rfl, Nat.le_of_ble_eq_true rfl⟩)) (fun ca _ => ?_)
  refine lv_istore_n (lv' := [(2, .int ca), (1, .ref z), (0, .ref sb)]) hx hb dX0_askedApart_13 rfl hl (by decide) rfl (fun ls hl => ?_)
  refine lv_aload_n hx hb dX0_askedApart_14 rfl (lv_at hl 2 rfl) ?_
  refine lv_iconst (v := 1) hx hb dX0_askedApart_15 (by decide) ?_
  refine vp_callSi (va_Run.run (va_runS (As := [.ref sb, .int 1]) (rest := []) ⟨hx, hb, hml, hown, hts⟩ (metX0_askedCell l sb L xs hL 1 (by decide)) (va_cwS 2 hts (lw_S q155 q156 q1 q157) rfl rfl rfl (by decide +kernel) ⟨Nat.le_of_ble_eq_true rfl, Nat.le_of_ble_eq_true rfl⟩) ⟨fw_X.blind, fun U hU hW => ⟨rfl, fw_X.make hX hbl hbA hS hU hW.alike⟩⟩ rfl rfl hl.1 rfl (lv_room (Nat.le_of_ble_eq_true rfl)) dX0_askedApart_16 ⟨Nat.le_of_ble_eq_true rfl, Nat.le_of_ble_eq_true rfl⟩)) (fun cb _ => ?_)
  refine lv_istore_n (lv' := [(3, .int cb), (2, .int ca), (1, .ref z), (0, .ref sb)]) hx hb dX0_askedApart_19 rfl hl (by decide) rfl (fun ls hl => ?_)
  refine lv_aload_n hx hb dX0_askedApart_20 rfl (lv_at hl 2 rfl) ?_
  refine lv_iload_n hx hb dX0_askedApart_21 rfl (lv_at hl 1 rfl) ?_
  refine lv_iload_n hx hb dX0_askedApart_22 rfl (lv_at hl 0 rfl) ?_
  refine vp_callSi (va_Run.run (va_runV (As := [.int ca, .int cb]) (rest := []) ⟨hx, hb, hml, hown, hts⟩ (metX1_apart l z ca cb) (cwV 2 hts (lw_V q147 q148 q149 q2 q150) rfl rfl rfl (by decide +kernel) ⟨Nat.le_of_ble_eq_true rfl, Nat.le_of_ble_eq_true rfl⟩) ⟨fun _ _ _ _ q => q, va_recv hK hP (ci := 0) (q0 := 0) rfl rfl, fun U hU hW => ⟨rfl, trivial⟩⟩ rfl rfl hl.1 rfl (lv_room (Nat.le_of_ble_eq_true rfl)) dX0_askedApart_23 ⟨Nat.le_of_ble_eq_true rfl, Nat.le_of_ble_eq_true rfl⟩)) (fun d1 ed1 => ?_)
  subst ed1
  refine lv_iload_n hx hb dX0_askedApart_26 rfl (lv_at hl 1 rfl) ?_
  refine lv_iload_n hx hb dX0_askedApart_27 rfl (lv_at hl 0 rfl) ?_
  refine lv_ixor hx hb dX0_askedApart_28 ?_
  refine vp_callSi (va_Run.run (va_runS (As := [.int (ca ^^^ cb)]) (rest := [.int (nI (fw_pc (ca ^^^ cb)))]) ⟨hx, hb, hml, hown, hts⟩ (metX0_askedBits l (ca ^^^ cb)) (va_cwS 1 hts (lw_S q158 q159 q1 q160) rfl rfl rfl (by decide +kernel) ⟨Nat.le_of_ble_eq_true rfl, Nat.le_of_ble_eq_true rfl⟩) ⟨fun _ _ _ _ q => q, fun U hU hW => ⟨rfl, trivial⟩⟩ rfl rfl hl.1 rfl (lv_room (Nat.le_of_ble_eq_true rfl)) dX0_askedApart_29 ⟨Nat.le_of_ble_eq_true rfl, Nat.le_of_ble_eq_true rfl⟩)) (fun d2 ed2 => ?_)
  subst ed2
  refine lv_icmp_ne (tgt := 83) hx hb dX0_askedApart_32 (by decide) (fun c_1 => ?_) (fun c_1 => ?_)
  · exact absurd rfl c_1
  · refine lv_aload_n hx hb dX0_askedApart_35 rfl (lv_at hl 2 rfl) ?_
    refine lv_iconst (v := 0) hx hb dX0_askedApart_36 (by decide) ?_
    refine lv_iconst (v := (-1)) hx hb dX0_askedApart_37 (by decide) ?_
    refine vp_callSi (va_Run.run (va_runV (As := [.int 0, .int (-1)]) (rest := []) ⟨hx, hb, hml, hown, hts⟩ (metX1_apart l z 0 (-1)) (cwV 2 hts (lw_V q147 q148 q149 q2 q150) rfl rfl rfl (by decide +kernel) ⟨Nat.le_of_ble_eq_true rfl, Nat.le_of_ble_eq_true rfl⟩) ⟨fun _ _ _ _ q => q, va_recv hK hP (ci := 0) (q0 := 0) rfl rfl, fun U hU hW => ⟨rfl, trivial⟩⟩ rfl rfl hl.1 rfl (lv_room (Nat.le_of_ble_eq_true rfl)) dX0_askedApart_38 ⟨Nat.le_of_ble_eq_true rfl, Nat.le_of_ble_eq_true rfl⟩)) (fun d3 ed3 => ?_)
    subst ed3
    refine lv_bipush (v := 32) hx hb dX0_askedApart_41 (by decide) ?_
    refine lv_icmp_ne (tgt := 83) hx hb dX0_askedApart_43 (by decide) (fun c_2 => ?_) (fun c_2 => ?_)
    · exact absurd (by rw [fw_m1_32]; decide) c_2
    · refine lv_aload_n hx hb dX0_askedApart_46 rfl (lv_at hl 2 rfl) ?_
      refine lv_iconst (v := 0) hx hb dX0_askedApart_47 (by decide) ?_
      refine lv_ldc hx hb hown (hts _ q161) dX0_askedApart_48 ?_
      refine vp_callSi (va_Run.run (va_runV (As := [.int 0, .int (-2147483648)]) (rest := []) ⟨hx, hb, hml, hown, hts⟩ (metX1_apart l z 0 (-2147483648)) (cwV 2 hts (lw_V q147 q148 q149 q2 q150) rfl rfl rfl (by decide +kernel) ⟨Nat.le_of_ble_eq_true rfl, Nat.le_of_ble_eq_true rfl⟩) ⟨fun _ _ _ _ q => q, va_recv hK hP (ci := 0) (q0 := 0) rfl rfl, fun U hU hW => ⟨rfl, trivial⟩⟩ rfl rfl hl.1 rfl (lv_room (Nat.le_of_ble_eq_true rfl)) dX0_askedApart_50 ⟨Nat.le_of_ble_eq_true rfl, Nat.le_of_ble_eq_true rfl⟩)) (fun d4 ed4 => ?_)
      subst ed4
      refine lv_iconst (v := 1) hx hb dX0_askedApart_53 (by decide) ?_
      refine lv_icmp_ne (tgt := 83) hx hb dX0_askedApart_54 (by decide) (fun c_3 => ?_) (fun c_3 => ?_)
      · exact absurd (by rw [fw_min_1]; decide) c_3
      · refine lv_aload_n hx hb dX0_askedApart_57 rfl (lv_at hl 2 rfl) ?_
        refine lv_iload_n hx hb dX0_askedApart_58 rfl (lv_at hl 1 rfl) ?_
        refine lv_iload_n hx hb dX0_askedApart_59 rfl (lv_at hl 1 rfl) ?_
        refine lv_iconst (v := (-1)) hx hb dX0_askedApart_60 (by decide) ?_
        refine lv_ixor hx hb dX0_askedApart_61 ?_
        refine vp_callSi (va_Run.run (va_runV (As := [.int ca, .int (ca ^^^ (-1))]) (rest := []) ⟨hx, hb, hml, hown, hts⟩ (metX1_apart l z ca (ca ^^^ (-1))) (cwV 2 hts (lw_V q147 q148 q149 q2 q150) rfl rfl rfl (by decide +kernel) ⟨Nat.le_of_ble_eq_true rfl, Nat.le_of_ble_eq_true rfl⟩) ⟨fun _ _ _ _ q => q, va_recv hK hP (ci := 0) (q0 := 0) rfl rfl, fun U hU hW => ⟨rfl, trivial⟩⟩ rfl rfl hl.1 rfl (lv_room (Nat.le_of_ble_eq_true rfl)) dX0_askedApart_62 ⟨Nat.le_of_ble_eq_true rfl, Nat.le_of_ble_eq_true rfl⟩)) (fun d5 ed5 => ?_)
        subst ed5
        refine lv_bipush (v := 32) hx hb dX0_askedApart_65 (by decide) ?_
        refine lv_icmp_ne (tgt := 83) hx hb dX0_askedApart_67 (by decide) (fun c_4 => ?_) (fun c_4 => ?_)
        · exact absurd (by rw [fw_not32]; decide) c_4
        · refine lv_aload_n hx hb dX0_askedApart_70 rfl (lv_at hl 2 rfl) ?_
          refine lv_iload_n hx hb dX0_askedApart_71 rfl (lv_at hl 1 rfl) ?_
          refine lv_iload_n hx hb dX0_askedApart_72 rfl (lv_at hl 1 rfl) ?_
          refine vp_callSi (va_Run.run (va_runV (As := [.int ca, .int ca]) (rest := []) ⟨hx, hb, hml, hown, hts⟩ (metX1_apart l z ca ca) (cwV 2 hts (lw_V q147 q148 q149 q2 q150) rfl rfl rfl (by decide +kernel) ⟨Nat.le_of_ble_eq_true rfl, Nat.le_of_ble_eq_true rfl⟩) ⟨fun _ _ _ _ q => q, va_recv hK hP (ci := 0) (q0 := 0) rfl rfl, fun U hU hW => ⟨rfl, trivial⟩⟩ rfl rfl hl.1 rfl (lv_room (Nat.le_of_ble_eq_true rfl)) dX0_askedApart_73 ⟨Nat.le_of_ble_eq_true rfl, Nat.le_of_ble_eq_true rfl⟩)) (fun d6 ed6 => ?_)
          subst ed6
          refine lv_if_ne (tgt := 83) hx hb dX0_askedApart_76 (by decide) (fun c_5 => ?_) (fun c_5 => ?_)
          · exact absurd ((fw_eq0 _ _).mpr rfl) c_5
          · refine lv_iconst (v := 1) hx hb dX0_askedApart_79 (by decide) ?_
            refine lv_goto (tgt := 84) hx hb dX0_askedApart_80 (by decide) ?_
            refine W.widen (k := 1) (n := 0) (by first | omega | decide) (by first | omega | decide) ?_
            exact W.zret (v := 1) hx hb hr rfl (fun t ht hW => ⟨⟨1, (), rfl, rfl, trivial⟩, hS.F ht⟩) hS.2.2 dX0_askedApart_84
end
section
/-! THE LAW'S FIVE CHECKS, the other three: askedPublished, askedNearest, askedCopies -/
/-- the law's own list of the words, while it is written -/
def fw_pub : Nat → Nat → Int32
  | 0 => fun _ => 0
  | i + 1 => upd (fw_pub i) i (fw_t i)
theorem fw_pub_s (i : Nat) (hi : i < 32) : upd (fw_pub i) (nI i).toNatClampNeg (fw_t i) = fw_pub (i + 1) := by
  rw [nI_clamp (by omega)]
  rfl
theorem fw_pub_32 : ∀ j, j < 32 → fw_pub 32 j = fw_t j := by decide +kernel
theorem fw_pub_P {D : va_G} {y : Nat} {cA : ClassId} {H : Heap} (i : Nat) (hi : i < 32) (h : va_P D fw_cl [(y, .inl (cA, 32, .inl (upd (fw_pub i) (nI i).toNatClampNeg (fw_t i))))] H) : va_P D fw_cl [(y, .inl (cA, 32, .inl (fw_pub (i + 1))))] H := by
  rw [fw_pub_s i hi] at h
  exact h
theorem fw_pub_D {A : Nat → Prop} {y : Nat} {cA : ClassId} (i : Nat) (hi : i < 32) (h : va_D A [(y, .inl (cA, 32, .inl (upd (fw_pub i) (nI i).toNatClampNeg (fw_t i))))]) : va_D A [(y, .inl (cA, 32, .inl (fw_pub (i + 1))))] := by
  rw [fw_pub_s i hi] at h
  exact h
set_option maxHeartbeats 4000000 in
set_option maxRecDepth 100000 in
/-- askedPublished: the published words are read as their numbers -/
theorem metX0_askedPublished (l : Launch) (D : va_G) (K : fw_K) (sz : Nat) : Met l yX0_askedPublished (ws_ yX0_askedPublished cX0_askedPublished 3 (some .boolean)) ({ frames := 5, cells := 66, slots := 160, locals := 115 }) (va_Pc [] (fw_Pre D K sz)) (va_Qi (fun (r : Int32) (_ : Unit) => r = 1) (fun _ _ => True) (fun q => sz ≤ q)) 66 160 (fun q => sz ≤ q) := by
  refine Met.ofW (cc := cX0_askedPublished) (maxL := 3) (ret := (some .boolean)) (by decide) rfl ?_
  intro p e s m args below meth c s₁ B hml hv
  obtain ⟨rfl, hsz, hK, hC⟩ := hv
  have hx := B.exec
  have hb := B.bytes
  have hr := B.returns
  have hts := atoms_spec (ws := (ws_ yX0_askedPublished cX0_askedPublished 3 (some .boolean))) B.pre
  have hts : ∀ w ∈ lw_all, w.before _ s = true := fun w h => hts w (List.mem_cons_of_mem _ h)
  have hown : s.vm.findClass RX0 = some m.cls := findClass_of_methodNamed B.named
  have hlocks := B.notSynchronized
  subst hsz
  have hS : va_S (fun q => s.heap.size ≤ q) s.heap s.heap [] := va_S.rf
  have hA : ∀ q, s.heap.size ≤ q → (fun q => s.heap.size ≤ q) q := fun q h => h
  have hP : va_P D fw_cl [] s.heap := fun k q h => by simp at h
  have hD : va_D (fun q => s.heap.size ≤ q) [] := ⟨fun i j p q h => by simp at h, fun k q h => by simp at h⟩
  have hl := lv_entry ([]) (n := 3) (Nat.le_of_ble_eq_true rfl)
  rw [lg_entry_eq]
  generalize (lg_sl ([]) ++ List.replicate (3 - (lg_sl ([])).length) Slot.unset).toArray = ls at hl ⊢
  have hl : lv_has ls 3 [] := hl
  refine lv_bipush (v := 32) hx hb dX0_askedPublished_0 (by decide) ?_
  refine va_newa (atype := .int) (ty := .int) (n := 32) (N' := 32) (a0 := (32, .inl (fw_pub 0))) hx hb (hts _ q165) rfl hK hP hD hS hA (fun cA => rfl) (by decide) (by decide) (by decide) (Nat.le_of_ble_eq_true rfl) (Nat.le_of_ble_eq_true rfl) dX0_askedPublished_2 (fun y cA H hK hP hD hS => ?_)
  have hK : va_K D fw_cl [(cA, .int)] s := hK
  have hP : va_P D fw_cl [(y, .inl (cA, 32, .inl (fw_pub 0)))] H := hP
  have hD : va_D (fun q => s.heap.size ≤ q) [(y, .inl (cA, 32, .inl (fw_pub 0)))] := hD
  refine lv_dup hx hb dX0_askedPublished_4 rfl ?_
  refine lv_iconst (v := nI 0) hx hb dX0_askedPublished_5 (by decide) ?_
  refine lv_sipush (v := fw_t 0) hx hb dX0_askedPublished_6 (by decide +kernel) ?_
  refine va_iast hx hb hK hP hD hS 0 0 rfl rfl (vp_in_nI (n := 0) (by decide) (by decide)) dX0_askedPublished_9 (fun H locs hP hD hS => ?_)
  have hP : va_P D fw_cl [(y, .inl (cA, 32, .inl (fw_pub 1)))] H := fw_pub_P 0 (by decide) hP
  have hD : va_D (fun q => s.heap.size ≤ q) [(y, .inl (cA, 32, .inl (fw_pub 1)))] := fw_pub_D 0 (by decide) hD
  refine lv_dup hx hb dX0_askedPublished_10 rfl ?_
  refine lv_iconst (v := nI 1) hx hb dX0_askedPublished_11 (by decide) ?_
  refine lv_sipush (v := fw_t 1) hx hb dX0_askedPublished_12 (by decide +kernel) ?_
  refine va_iast hx hb hK hP hD hS 0 0 rfl rfl (vp_in_nI (n := 1) (by decide) (by decide)) dX0_askedPublished_15 (fun H locs hP hD hS => ?_)
  have hP : va_P D fw_cl [(y, .inl (cA, 32, .inl (fw_pub 2)))] H := fw_pub_P 1 (by decide) hP
  have hD : va_D (fun q => s.heap.size ≤ q) [(y, .inl (cA, 32, .inl (fw_pub 2)))] := fw_pub_D 1 (by decide) hD
  refine lv_dup hx hb dX0_askedPublished_16 rfl ?_
  refine lv_iconst (v := nI 2) hx hb dX0_askedPublished_17 (by decide) ?_
  refine lv_sipush (v := fw_t 2) hx hb dX0_askedPublished_18 (by decide +kernel) ?_
  refine va_iast hx hb hK hP hD hS 0 0 rfl rfl (vp_in_nI (n := 2) (by decide) (by decide)) dX0_askedPublished_21 (fun H locs hP hD hS => ?_)
  have hP : va_P D fw_cl [(y, .inl (cA, 32, .inl (fw_pub 3)))] H := fw_pub_P 2 (by decide) hP
  have hD : va_D (fun q => s.heap.size ≤ q) [(y, .inl (cA, 32, .inl (fw_pub 3)))] := fw_pub_D 2 (by decide) hD
  refine lv_dup hx hb dX0_askedPublished_22 rfl ?_
  refine lv_iconst (v := nI 3) hx hb dX0_askedPublished_23 (by decide) ?_
  refine lv_sipush (v := fw_t 3) hx hb dX0_askedPublished_24 (by decide +kernel) ?_
  refine va_iast hx hb hK hP hD hS 0 0 rfl rfl (vp_in_nI (n := 3) (by decide) (by decide)) dX0_askedPublished_27 (fun H locs hP hD hS => ?_)
  have hP : va_P D fw_cl [(y, .inl (cA, 32, .inl (fw_pub 4)))] H := fw_pub_P 3 (by decide) hP
  have hD : va_D (fun q => s.heap.size ≤ q) [(y, .inl (cA, 32, .inl (fw_pub 4)))] := fw_pub_D 3 (by decide) hD
  refine lv_dup hx hb dX0_askedPublished_28 rfl ?_
  refine lv_iconst (v := nI 4) hx hb dX0_askedPublished_29 (by decide) ?_
  refine lv_sipush (v := fw_t 4) hx hb dX0_askedPublished_30 (by decide +kernel) ?_
  refine va_iast hx hb hK hP hD hS 0 0 rfl rfl (vp_in_nI (n := 4) (by decide) (by decide)) dX0_askedPublished_33 (fun H locs hP hD hS => ?_)
  have hP : va_P D fw_cl [(y, .inl (cA, 32, .inl (fw_pub 5)))] H := fw_pub_P 4 (by decide) hP
  have hD : va_D (fun q => s.heap.size ≤ q) [(y, .inl (cA, 32, .inl (fw_pub 5)))] := fw_pub_D 4 (by decide) hD
  refine lv_dup hx hb dX0_askedPublished_34 rfl ?_
  refine lv_iconst (v := nI 5) hx hb dX0_askedPublished_35 (by decide) ?_
  refine lv_sipush (v := fw_t 5) hx hb dX0_askedPublished_36 (by decide +kernel) ?_
  refine va_iast hx hb hK hP hD hS 0 0 rfl rfl (vp_in_nI (n := 5) (by decide) (by decide)) dX0_askedPublished_39 (fun H locs hP hD hS => ?_)
  have hP : va_P D fw_cl [(y, .inl (cA, 32, .inl (fw_pub 6)))] H := fw_pub_P 5 (by decide) hP
  have hD : va_D (fun q => s.heap.size ≤ q) [(y, .inl (cA, 32, .inl (fw_pub 6)))] := fw_pub_D 5 (by decide) hD
  refine lv_dup hx hb dX0_askedPublished_40 rfl ?_
  refine lv_bipush (v := nI 6) hx hb dX0_askedPublished_41 (by decide) ?_
  refine lv_sipush (v := fw_t 6) hx hb dX0_askedPublished_43 (by decide +kernel) ?_
  refine va_iast hx hb hK hP hD hS 0 0 rfl rfl (vp_in_nI (n := 6) (by decide) (by decide)) dX0_askedPublished_46 (fun H locs hP hD hS => ?_)
  have hP : va_P D fw_cl [(y, .inl (cA, 32, .inl (fw_pub 7)))] H := fw_pub_P 6 (by decide) hP
  have hD : va_D (fun q => s.heap.size ≤ q) [(y, .inl (cA, 32, .inl (fw_pub 7)))] := fw_pub_D 6 (by decide) hD
  refine lv_dup hx hb dX0_askedPublished_47 rfl ?_
  refine lv_bipush (v := nI 7) hx hb dX0_askedPublished_48 (by decide) ?_
  refine lv_sipush (v := fw_t 7) hx hb dX0_askedPublished_50 (by decide +kernel) ?_
  refine va_iast hx hb hK hP hD hS 0 0 rfl rfl (vp_in_nI (n := 7) (by decide) (by decide)) dX0_askedPublished_53 (fun H locs hP hD hS => ?_)
  have hP : va_P D fw_cl [(y, .inl (cA, 32, .inl (fw_pub 8)))] H := fw_pub_P 7 (by decide) hP
  have hD : va_D (fun q => s.heap.size ≤ q) [(y, .inl (cA, 32, .inl (fw_pub 8)))] := fw_pub_D 7 (by decide) hD
  refine lv_dup hx hb dX0_askedPublished_54 rfl ?_
  refine lv_bipush (v := nI 8) hx hb dX0_askedPublished_55 (by decide) ?_
  refine lv_sipush (v := fw_t 8) hx hb dX0_askedPublished_57 (by decide +kernel) ?_
  refine va_iast hx hb hK hP hD hS 0 0 rfl rfl (vp_in_nI (n := 8) (by decide) (by decide)) dX0_askedPublished_60 (fun H locs hP hD hS => ?_)
  have hP : va_P D fw_cl [(y, .inl (cA, 32, .inl (fw_pub 9)))] H := fw_pub_P 8 (by decide) hP
  have hD : va_D (fun q => s.heap.size ≤ q) [(y, .inl (cA, 32, .inl (fw_pub 9)))] := fw_pub_D 8 (by decide) hD
  refine lv_dup hx hb dX0_askedPublished_61 rfl ?_
  refine lv_bipush (v := nI 9) hx hb dX0_askedPublished_62 (by decide) ?_
  refine lv_sipush (v := fw_t 9) hx hb dX0_askedPublished_64 (by decide +kernel) ?_
  refine va_iast hx hb hK hP hD hS 0 0 rfl rfl (vp_in_nI (n := 9) (by decide) (by decide)) dX0_askedPublished_67 (fun H locs hP hD hS => ?_)
  have hP : va_P D fw_cl [(y, .inl (cA, 32, .inl (fw_pub 10)))] H := fw_pub_P 9 (by decide) hP
  have hD : va_D (fun q => s.heap.size ≤ q) [(y, .inl (cA, 32, .inl (fw_pub 10)))] := fw_pub_D 9 (by decide) hD
  refine lv_dup hx hb dX0_askedPublished_68 rfl ?_
  refine lv_bipush (v := nI 10) hx hb dX0_askedPublished_69 (by decide) ?_
  refine lv_sipush (v := fw_t 10) hx hb dX0_askedPublished_71 (by decide +kernel) ?_
  refine va_iast hx hb hK hP hD hS 0 0 rfl rfl (vp_in_nI (n := 10) (by decide) (by decide)) dX0_askedPublished_74 (fun H locs hP hD hS => ?_)
  have hP : va_P D fw_cl [(y, .inl (cA, 32, .inl (fw_pub 11)))] H := fw_pub_P 10 (by decide) hP
  have hD : va_D (fun q => s.heap.size ≤ q) [(y, .inl (cA, 32, .inl (fw_pub 11)))] := fw_pub_D 10 (by decide) hD
  refine lv_dup hx hb dX0_askedPublished_75 rfl ?_
  refine lv_bipush (v := nI 11) hx hb dX0_askedPublished_76 (by decide) ?_
  refine lv_sipush (v := fw_t 11) hx hb dX0_askedPublished_78 (by decide +kernel) ?_
  refine va_iast hx hb hK hP hD hS 0 0 rfl rfl (vp_in_nI (n := 11) (by decide) (by decide)) dX0_askedPublished_81 (fun H locs hP hD hS => ?_)
  have hP : va_P D fw_cl [(y, .inl (cA, 32, .inl (fw_pub 12)))] H := fw_pub_P 11 (by decide) hP
  have hD : va_D (fun q => s.heap.size ≤ q) [(y, .inl (cA, 32, .inl (fw_pub 12)))] := fw_pub_D 11 (by decide) hD
  refine lv_dup hx hb dX0_askedPublished_82 rfl ?_
  refine lv_bipush (v := nI 12) hx hb dX0_askedPublished_83 (by decide) ?_
  refine lv_sipush (v := fw_t 12) hx hb dX0_askedPublished_85 (by decide +kernel) ?_
  refine va_iast hx hb hK hP hD hS 0 0 rfl rfl (vp_in_nI (n := 12) (by decide) (by decide)) dX0_askedPublished_88 (fun H locs hP hD hS => ?_)
  have hP : va_P D fw_cl [(y, .inl (cA, 32, .inl (fw_pub 13)))] H := fw_pub_P 12 (by decide) hP
  have hD : va_D (fun q => s.heap.size ≤ q) [(y, .inl (cA, 32, .inl (fw_pub 13)))] := fw_pub_D 12 (by decide) hD
  refine lv_dup hx hb dX0_askedPublished_89 rfl ?_
  refine lv_bipush (v := nI 13) hx hb dX0_askedPublished_90 (by decide) ?_
  refine lv_sipush (v := fw_t 13) hx hb dX0_askedPublished_92 (by decide +kernel) ?_
  refine va_iast hx hb hK hP hD hS 0 0 rfl rfl (vp_in_nI (n := 13) (by decide) (by decide)) dX0_askedPublished_95 (fun H locs hP hD hS => ?_)
  have hP : va_P D fw_cl [(y, .inl (cA, 32, .inl (fw_pub 14)))] H := fw_pub_P 13 (by decide) hP
  have hD : va_D (fun q => s.heap.size ≤ q) [(y, .inl (cA, 32, .inl (fw_pub 14)))] := fw_pub_D 13 (by decide) hD
  refine lv_dup hx hb dX0_askedPublished_96 rfl ?_
  refine lv_bipush (v := nI 14) hx hb dX0_askedPublished_97 (by decide) ?_
  refine lv_sipush (v := fw_t 14) hx hb dX0_askedPublished_99 (by decide +kernel) ?_
  refine va_iast hx hb hK hP hD hS 0 0 rfl rfl (vp_in_nI (n := 14) (by decide) (by decide)) dX0_askedPublished_102 (fun H locs hP hD hS => ?_)
  have hP : va_P D fw_cl [(y, .inl (cA, 32, .inl (fw_pub 15)))] H := fw_pub_P 14 (by decide) hP
  have hD : va_D (fun q => s.heap.size ≤ q) [(y, .inl (cA, 32, .inl (fw_pub 15)))] := fw_pub_D 14 (by decide) hD
  refine lv_dup hx hb dX0_askedPublished_103 rfl ?_
  refine lv_bipush (v := nI 15) hx hb dX0_askedPublished_104 (by decide) ?_
  refine lv_sipush (v := fw_t 15) hx hb dX0_askedPublished_106 (by decide +kernel) ?_
  refine va_iast hx hb hK hP hD hS 0 0 rfl rfl (vp_in_nI (n := 15) (by decide) (by decide)) dX0_askedPublished_109 (fun H locs hP hD hS => ?_)
  have hP : va_P D fw_cl [(y, .inl (cA, 32, .inl (fw_pub 16)))] H := fw_pub_P 15 (by decide) hP
  have hD : va_D (fun q => s.heap.size ≤ q) [(y, .inl (cA, 32, .inl (fw_pub 16)))] := fw_pub_D 15 (by decide) hD
  refine lv_dup hx hb dX0_askedPublished_110 rfl ?_
  refine lv_bipush (v := nI 16) hx hb dX0_askedPublished_111 (by decide) ?_
  refine lv_sipush (v := fw_t 16) hx hb dX0_askedPublished_113 (by decide +kernel) ?_
  refine va_iast hx hb hK hP hD hS 0 0 rfl rfl (vp_in_nI (n := 16) (by decide) (by decide)) dX0_askedPublished_116 (fun H locs hP hD hS => ?_)
  have hP : va_P D fw_cl [(y, .inl (cA, 32, .inl (fw_pub 17)))] H := fw_pub_P 16 (by decide) hP
  have hD : va_D (fun q => s.heap.size ≤ q) [(y, .inl (cA, 32, .inl (fw_pub 17)))] := fw_pub_D 16 (by decide) hD
  refine lv_dup hx hb dX0_askedPublished_117 rfl ?_
  refine lv_bipush (v := nI 17) hx hb dX0_askedPublished_118 (by decide) ?_
  refine lv_sipush (v := fw_t 17) hx hb dX0_askedPublished_120 (by decide +kernel) ?_
  refine va_iast hx hb hK hP hD hS 0 0 rfl rfl (vp_in_nI (n := 17) (by decide) (by decide)) dX0_askedPublished_123 (fun H locs hP hD hS => ?_)
  have hP : va_P D fw_cl [(y, .inl (cA, 32, .inl (fw_pub 18)))] H := fw_pub_P 17 (by decide) hP
  have hD : va_D (fun q => s.heap.size ≤ q) [(y, .inl (cA, 32, .inl (fw_pub 18)))] := fw_pub_D 17 (by decide) hD
  refine lv_dup hx hb dX0_askedPublished_124 rfl ?_
  refine lv_bipush (v := nI 18) hx hb dX0_askedPublished_125 (by decide) ?_
  refine lv_sipush (v := fw_t 18) hx hb dX0_askedPublished_127 (by decide +kernel) ?_
  refine va_iast hx hb hK hP hD hS 0 0 rfl rfl (vp_in_nI (n := 18) (by decide) (by decide)) dX0_askedPublished_130 (fun H locs hP hD hS => ?_)
  have hP : va_P D fw_cl [(y, .inl (cA, 32, .inl (fw_pub 19)))] H := fw_pub_P 18 (by decide) hP
  have hD : va_D (fun q => s.heap.size ≤ q) [(y, .inl (cA, 32, .inl (fw_pub 19)))] := fw_pub_D 18 (by decide) hD
  refine lv_dup hx hb dX0_askedPublished_131 rfl ?_
  refine lv_bipush (v := nI 19) hx hb dX0_askedPublished_132 (by decide) ?_
  refine lv_sipush (v := fw_t 19) hx hb dX0_askedPublished_134 (by decide +kernel) ?_
  refine va_iast hx hb hK hP hD hS 0 0 rfl rfl (vp_in_nI (n := 19) (by decide) (by decide)) dX0_askedPublished_137 (fun H locs hP hD hS => ?_)
  have hP : va_P D fw_cl [(y, .inl (cA, 32, .inl (fw_pub 20)))] H := fw_pub_P 19 (by decide) hP
  have hD : va_D (fun q => s.heap.size ≤ q) [(y, .inl (cA, 32, .inl (fw_pub 20)))] := fw_pub_D 19 (by decide) hD
  refine lv_dup hx hb dX0_askedPublished_138 rfl ?_
  refine lv_bipush (v := nI 20) hx hb dX0_askedPublished_139 (by decide) ?_
  refine lv_sipush (v := fw_t 20) hx hb dX0_askedPublished_141 (by decide +kernel) ?_
  refine va_iast hx hb hK hP hD hS 0 0 rfl rfl (vp_in_nI (n := 20) (by decide) (by decide)) dX0_askedPublished_144 (fun H locs hP hD hS => ?_)
  have hP : va_P D fw_cl [(y, .inl (cA, 32, .inl (fw_pub 21)))] H := fw_pub_P 20 (by decide) hP
  have hD : va_D (fun q => s.heap.size ≤ q) [(y, .inl (cA, 32, .inl (fw_pub 21)))] := fw_pub_D 20 (by decide) hD
  refine lv_dup hx hb dX0_askedPublished_145 rfl ?_
  refine lv_bipush (v := nI 21) hx hb dX0_askedPublished_146 (by decide) ?_
  refine lv_sipush (v := fw_t 21) hx hb dX0_askedPublished_148 (by decide +kernel) ?_
  refine va_iast hx hb hK hP hD hS 0 0 rfl rfl (vp_in_nI (n := 21) (by decide) (by decide)) dX0_askedPublished_151 (fun H locs hP hD hS => ?_)
  have hP : va_P D fw_cl [(y, .inl (cA, 32, .inl (fw_pub 22)))] H := fw_pub_P 21 (by decide) hP
  have hD : va_D (fun q => s.heap.size ≤ q) [(y, .inl (cA, 32, .inl (fw_pub 22)))] := fw_pub_D 21 (by decide) hD
  refine lv_dup hx hb dX0_askedPublished_152 rfl ?_
  refine lv_bipush (v := nI 22) hx hb dX0_askedPublished_153 (by decide) ?_
  refine lv_sipush (v := fw_t 22) hx hb dX0_askedPublished_155 (by decide +kernel) ?_
  refine va_iast hx hb hK hP hD hS 0 0 rfl rfl (vp_in_nI (n := 22) (by decide) (by decide)) dX0_askedPublished_158 (fun H locs hP hD hS => ?_)
  have hP : va_P D fw_cl [(y, .inl (cA, 32, .inl (fw_pub 23)))] H := fw_pub_P 22 (by decide) hP
  have hD : va_D (fun q => s.heap.size ≤ q) [(y, .inl (cA, 32, .inl (fw_pub 23)))] := fw_pub_D 22 (by decide) hD
  refine lv_dup hx hb dX0_askedPublished_159 rfl ?_
  refine lv_bipush (v := nI 23) hx hb dX0_askedPublished_160 (by decide) ?_
  refine lv_sipush (v := fw_t 23) hx hb dX0_askedPublished_162 (by decide +kernel) ?_
  refine va_iast hx hb hK hP hD hS 0 0 rfl rfl (vp_in_nI (n := 23) (by decide) (by decide)) dX0_askedPublished_165 (fun H locs hP hD hS => ?_)
  have hP : va_P D fw_cl [(y, .inl (cA, 32, .inl (fw_pub 24)))] H := fw_pub_P 23 (by decide) hP
  have hD : va_D (fun q => s.heap.size ≤ q) [(y, .inl (cA, 32, .inl (fw_pub 24)))] := fw_pub_D 23 (by decide) hD
  refine lv_dup hx hb dX0_askedPublished_166 rfl ?_
  refine lv_bipush (v := nI 24) hx hb dX0_askedPublished_167 (by decide) ?_
  refine lv_sipush (v := fw_t 24) hx hb dX0_askedPublished_169 (by decide +kernel) ?_
  refine va_iast hx hb hK hP hD hS 0 0 rfl rfl (vp_in_nI (n := 24) (by decide) (by decide)) dX0_askedPublished_172 (fun H locs hP hD hS => ?_)
  have hP : va_P D fw_cl [(y, .inl (cA, 32, .inl (fw_pub 25)))] H := fw_pub_P 24 (by decide) hP
  have hD : va_D (fun q => s.heap.size ≤ q) [(y, .inl (cA, 32, .inl (fw_pub 25)))] := fw_pub_D 24 (by decide) hD
  refine lv_dup hx hb dX0_askedPublished_173 rfl ?_
  refine lv_bipush (v := nI 25) hx hb dX0_askedPublished_174 (by decide) ?_
  refine lv_sipush (v := fw_t 25) hx hb dX0_askedPublished_176 (by decide +kernel) ?_
  refine va_iast hx hb hK hP hD hS 0 0 rfl rfl (vp_in_nI (n := 25) (by decide) (by decide)) dX0_askedPublished_179 (fun H locs hP hD hS => ?_)
  have hP : va_P D fw_cl [(y, .inl (cA, 32, .inl (fw_pub 26)))] H := fw_pub_P 25 (by decide) hP
  have hD : va_D (fun q => s.heap.size ≤ q) [(y, .inl (cA, 32, .inl (fw_pub 26)))] := fw_pub_D 25 (by decide) hD
  refine lv_dup hx hb dX0_askedPublished_180 rfl ?_
  refine lv_bipush (v := nI 26) hx hb dX0_askedPublished_181 (by decide) ?_
  refine lv_sipush (v := fw_t 26) hx hb dX0_askedPublished_183 (by decide +kernel) ?_
  refine va_iast hx hb hK hP hD hS 0 0 rfl rfl (vp_in_nI (n := 26) (by decide) (by decide)) dX0_askedPublished_186 (fun H locs hP hD hS => ?_)
  have hP : va_P D fw_cl [(y, .inl (cA, 32, .inl (fw_pub 27)))] H := fw_pub_P 26 (by decide) hP
  have hD : va_D (fun q => s.heap.size ≤ q) [(y, .inl (cA, 32, .inl (fw_pub 27)))] := fw_pub_D 26 (by decide) hD
  refine lv_dup hx hb dX0_askedPublished_187 rfl ?_
  refine lv_bipush (v := nI 27) hx hb dX0_askedPublished_188 (by decide) ?_
  refine lv_sipush (v := fw_t 27) hx hb dX0_askedPublished_190 (by decide +kernel) ?_
  refine va_iast hx hb hK hP hD hS 0 0 rfl rfl (vp_in_nI (n := 27) (by decide) (by decide)) dX0_askedPublished_193 (fun H locs hP hD hS => ?_)
  have hP : va_P D fw_cl [(y, .inl (cA, 32, .inl (fw_pub 28)))] H := fw_pub_P 27 (by decide) hP
  have hD : va_D (fun q => s.heap.size ≤ q) [(y, .inl (cA, 32, .inl (fw_pub 28)))] := fw_pub_D 27 (by decide) hD
  refine lv_dup hx hb dX0_askedPublished_194 rfl ?_
  refine lv_bipush (v := nI 28) hx hb dX0_askedPublished_195 (by decide) ?_
  refine lv_sipush (v := fw_t 28) hx hb dX0_askedPublished_197 (by decide +kernel) ?_
  refine va_iast hx hb hK hP hD hS 0 0 rfl rfl (vp_in_nI (n := 28) (by decide) (by decide)) dX0_askedPublished_200 (fun H locs hP hD hS => ?_)
  have hP : va_P D fw_cl [(y, .inl (cA, 32, .inl (fw_pub 29)))] H := fw_pub_P 28 (by decide) hP
  have hD : va_D (fun q => s.heap.size ≤ q) [(y, .inl (cA, 32, .inl (fw_pub 29)))] := fw_pub_D 28 (by decide) hD
  refine lv_dup hx hb dX0_askedPublished_201 rfl ?_
  refine lv_bipush (v := nI 29) hx hb dX0_askedPublished_202 (by decide) ?_
  refine lv_sipush (v := fw_t 29) hx hb dX0_askedPublished_204 (by decide +kernel) ?_
  refine va_iast hx hb hK hP hD hS 0 0 rfl rfl (vp_in_nI (n := 29) (by decide) (by decide)) dX0_askedPublished_207 (fun H locs hP hD hS => ?_)
  have hP : va_P D fw_cl [(y, .inl (cA, 32, .inl (fw_pub 30)))] H := fw_pub_P 29 (by decide) hP
  have hD : va_D (fun q => s.heap.size ≤ q) [(y, .inl (cA, 32, .inl (fw_pub 30)))] := fw_pub_D 29 (by decide) hD
  refine lv_dup hx hb dX0_askedPublished_208 rfl ?_
  refine lv_bipush (v := nI 30) hx hb dX0_askedPublished_209 (by decide) ?_
  refine lv_sipush (v := fw_t 30) hx hb dX0_askedPublished_211 (by decide +kernel) ?_
  refine va_iast hx hb hK hP hD hS 0 0 rfl rfl (vp_in_nI (n := 30) (by decide) (by decide)) dX0_askedPublished_214 (fun H locs hP hD hS => ?_)
  have hP : va_P D fw_cl [(y, .inl (cA, 32, .inl (fw_pub 31)))] H := fw_pub_P 30 (by decide) hP
  have hD : va_D (fun q => s.heap.size ≤ q) [(y, .inl (cA, 32, .inl (fw_pub 31)))] := fw_pub_D 30 (by decide) hD
  refine lv_dup hx hb dX0_askedPublished_215 rfl ?_
  refine lv_bipush (v := nI 31) hx hb dX0_askedPublished_216 (by decide) ?_
  refine lv_sipush (v := fw_t 31) hx hb dX0_askedPublished_218 (by decide +kernel) ?_
  refine va_iast hx hb hK hP hD hS 0 0 rfl rfl (vp_in_nI (n := 31) (by decide) (by decide)) dX0_askedPublished_221 (fun H locs hP hD hS => ?_)
  have hP : va_P D fw_cl [(y, .inl (cA, 32, .inl (fw_pub 32)))] H := fw_pub_P 31 (by decide) hP
  have hD : va_D (fun q => s.heap.size ≤ q) [(y, .inl (cA, 32, .inl (fw_pub 32)))] := fw_pub_D 31 (by decide) hD
  refine lv_astore_n (lv' := [(0, .ref y)]) hx hb dX0_askedPublished_222 rfl hl (by decide) rfl (fun ls hl => ?_)
  refine va_new (ci := 0) (fs := []) (C := RX1) (T := TX1) (N := 0) hx hb hts in_X1 tyX1 tyX1_ok hown (hts _ q15) (hts _ q16) (hts _ q2) hK hP hD hS hA rfl (fun j hj => absurd hj (Nat.not_lt_zero j)) (Nat.le_of_ble_eq_true rfl) (Nat.le_of_ble_eq_true rfl) dX0_askedPublished_223 (fun z H hP hD hS => ?_)
  have hP : va_P D fw_cl [(y, .inl (cA, 32, .inl (fw_pub 32))), (z, .inr (0, []))] H := hP
  have hD : va_D (fun q => s.heap.size ≤ q) [(y, .inl (cA, 32, .inl (fw_pub 32))), (z, .inr (0, []))] := hD
  refine lv_dup hx hb dX0_askedPublished_226 rfl ?_
  refine va_csv (va_Run.run (va_runI (As := []) (rest := [.ref z]) ⟨hx, hb, hml, hown, hts⟩ (metX1_init l z) (cwI 0 hts (lw_meth q19) rfl rfl rfl (hts _ q2) (hts _ q17) (hts _ q18) rfl (by decide +kernel) ⟨Nat.le_of_ble_eq_true rfl, Nat.le_of_ble_eq_true rfl⟩) ⟨fun _ _ _ _ q => q, fun U hU hW => ⟨rfl, trivial⟩⟩ rfl rfl hl.1 rfl (lv_room (Nat.le_of_ble_eq_true rfl)) dX0_askedPublished_227 ⟨Nat.le_of_ble_eq_true rfl, Nat.le_of_ble_eq_true rfl⟩)) (fun _ => ?_)
  refine lv_astore_n (lv' := [(1, .ref z), (0, .ref y)]) hx hb dX0_askedPublished_230 rfl hl (by decide) rfl (fun ls hl => ?_)
  refine lv_iconst (v := nI 0) hx hb dX0_askedPublished_231 (by decide) ?_
  refine lv_istore_n (lv' := [(2, .int (nI 0)), (1, .ref z), (0, .ref y)]) hx hb dX0_askedPublished_232 rfl hl (by decide) rfl (fun ls hl => ?_)
  have loop : ∀ (n i : Nat), i + n = 32 → ∀ (H : Heap) (locs : List Loc), va_P D fw_cl [(y, .inl (cA, 32, .inl (fw_pub 32))), (z, .inr (0, []))] H → va_S (fun q => s.heap.size ≤ q) s.heap H locs → ∀ ls : Array Slot, lv_has ls 3 [(2, .int (nI i)), (1, .ref z), (0, .ref y)] → W p l e (headSpec (ws_ yX0_askedPublished cX0_askedPublished 3 (some .boolean)) ({ frames := 5, cells := 66, slots := 160, locals := 115 })).room s m ([] : List Value).toArray below meth c H locs (2 + 2 * i) (32 + 4 * i) (MQ below (va_Qi (fun (r : Int32) (_ : Unit) => r = 1) (fun _ _ => True) (fun q => s.heap.size ≤ q)) ([] : List Value).toArray s 66 160 (fun q => s.heap.size ≤ q)) (F0 m 233 ls []) := by
    intro n
    induction n with
    | zero =>
      intro i hi H locs hP hS ls hl
      have hi : i = 32 := by omega
      subst hi
      refine lv_iload_n hx hb dX0_askedPublished_233 rfl (lv_at hl 0 rfl) ?_
      refine lv_bipush (v := 32) hx hb dX0_askedPublished_234 (by decide) ?_
      refine lv_icmp_ge (tgt := 261) hx hb dX0_askedPublished_236 (by decide) (fun c_1 => ?_) (fun c_1 => ?_)
      · refine lv_iconst (v := 1) hx hb dX0_askedPublished_261 (by decide) ?_
        refine W.widen (k := 66) (n := 160) (by first | omega | decide) (by first | omega | decide) ?_
        exact W.zret (v := 1) hx hb hr rfl (fun t ht hW => ⟨⟨1, (), rfl, rfl, trivial⟩, hS.F ht⟩) hS.2.2 dX0_askedPublished_262
      · exact absurd (show (32 : Int32) ≤ nI 32 from by decide) c_1
    | succ n ih =>
      intro i hi H locs hP hS ls hl
      have hi32 : i < 32 := by omega
      refine lv_iload_n hx hb dX0_askedPublished_233 rfl (lv_at hl 0 rfl) ?_
      refine lv_bipush (v := 32) hx hb dX0_askedPublished_234 (by decide) ?_
      refine lv_icmp_ge (tgt := 261) hx hb dX0_askedPublished_236 (by decide) (fun c_1 => ?_) (fun c_1 => ?_)
      · exact absurd c_1 (nI_ge (b := 32) hi32 (by decide))
      · refine lv_aload_n hx hb dX0_askedPublished_239 rfl (lv_at hl 1 rfl) ?_
        refine lv_aload_n hx hb dX0_askedPublished_240 rfl (lv_at hl 2 rfl) ?_
        refine lv_iload_n hx hb dX0_askedPublished_241 rfl (lv_at hl 0 rfl) ?_
        refine va_iald hx hb hK hP 0 0 rfl rfl (vp_in_nI hi32 (by decide)) dX0_askedPublished_242 ?_
        refine fw_top (fw_t i) (by rw [nI_clamp (by omega)]; exact fw_pub_32 i hi32) ?_
        refine lv_aload_n hx hb dX0_askedPublished_243 rfl (lv_at hl 2 rfl) ?_
        refine lv_iload_n hx hb dX0_askedPublished_244 rfl (lv_at hl 0 rfl) ?_
        refine va_iald hx hb hK hP 0 0 rfl rfl (vp_in_nI hi32 (by decide)) dX0_askedPublished_245 ?_
        refine fw_top (fw_t i) (by rw [nI_clamp (by omega)]; exact fw_pub_32 i hi32) ?_
        refine va_calli (va_runV (As := [.int (fw_t i), .int (fw_t i)]) (rest := []) ⟨hx, hb, hml, hown, hts⟩ (metX1_read l D K H.size z (fw_t i) (fw_t i)) (cwV 2 hts (lw_V q34 q35 q36 q2 q37) rfl rfl rfl (by decide +kernel) ⟨Nat.le_of_ble_eq_true rfl, Nat.le_of_ble_eq_true rfl⟩) ⟨fw_Pre.blind, va_recv hK hP (ci := 0) (q0 := 1) rfl rfl, fun U hU hW => ⟨rfl, fw_Pre.make (hK.sub (tys' := []) [] rfl) hC hS hA hU hW.alike⟩⟩ rfl rfl hl.1 rfl (lv_room (Nat.le_of_ble_eq_true rfl)) dX0_askedPublished_246 ⟨by show _ ≤ 66; omega, by show _ ≤ 160; omega⟩) hS (fun q _ h => (fun q h => hA q (Nat.le_trans hS.1 h)) q h) (fun q h => hA q (Nat.le_trans hS.1 h)) (fun r1 u_ t_ H locs ht_ hvm_ hr1 hB_ hz_ hk_ hS => ?_)
        have hP := fw_keep hP hk_
        have er1 := fw_R_word hi32 hr1
        subst er1
        refine lv_iload_n hx hb dX0_askedPublished_249 rfl (lv_at hl 0 rfl) ?_
        refine lv_icmp_eq (tgt := 255) hx hb dX0_askedPublished_250 (by decide) (fun c_2 => ?_) (fun c_2 => ?_)
        · refine lv_iinc (v := nI (i + 1)) (lv' := [(2, .int (nI (i + 1))), (1, .ref z), (0, .ref y)]) hx hb dX0_askedPublished_255 hl (k := 0) rfl (nI_1 i) (by decide) rfl (fun ls hl => ?_)
          refine lv_goto (tgt := 233) hx hb dX0_askedPublished_258 (by decide) ?_
          refine W.widen (k := 2 + 2 * (i + 1)) (n := 32 + 4 * (i + 1)) (by omega) (by omega) ?_
          exact ih (i + 1) (by omega) H _ hP hS ls (lv_sub hl [0, 1, 2] rfl)
        · exact absurd rfl c_2
  exact loop 32 0 rfl H locs hP hS ls hl
set_option maxHeartbeats 4000000 in
set_option maxRecDepth 100000 in
/-- askedNearest: what is read is what the law's own search finds -/
theorem metX0_askedNearest (l : Launch) (D : va_G) (K : fw_K) (sz sb L : Nat) (xs : Nat → Int32) (hL : L ≤ 8) : Met l yX0_askedNearest (ws_ yX0_askedNearest cX0_askedNearest 5 (some .boolean)) ({ frames := 5, cells := 7, slots := 12, locals := 115 }) (va_Pc [.ref sb] (fw_PreX D K sb L xs sz)) (va_Qi (fun (r : Int32) (_ : Unit) => r = 1) (fun _ _ => True) (fun q => sz ≤ q)) 7 12 (fun q => sz ≤ q) := by
  refine Met.ofW (cc := cX0_askedNearest) (maxL := 5) (ret := (some .boolean)) (by decide) rfl ?_
  intro p e s m args below meth c s₁ B hml hv
  obtain ⟨rfl, ⟨hsz, hK, hC⟩, hX, hbl⟩ := hv
  have hx := B.exec
  have hb := B.bytes
  have hr := B.returns
  have hts := atoms_spec (ws := (ws_ yX0_askedNearest cX0_askedNearest 5 (some .boolean))) B.pre
  have hts : ∀ w ∈ lw_all, w.before _ s = true := fun w h => hts w (List.mem_cons_of_mem _ h)
  have hown : s.vm.findClass RX0 = some m.cls := findClass_of_methodNamed B.named
  have hlocks := B.notSynchronized
  subst hsz
  have hS : va_S (fun q => s.heap.size ≤ q) s.heap s.heap [] := va_S.rf
  have hA : ∀ q, s.heap.size ≤ q → (fun q => s.heap.size ≤ q) q := fun q h => h
  have hP : va_P D fw_cl [] s.heap := fun k q h => by simp at h
  have hD : va_D (fun q => s.heap.size ≤ q) [] := ⟨fun i j p q h => by simp at h, fun k q h => by simp at h⟩
  have hbA : ¬ (fun q => s.heap.size ≤ q) sb := Nat.not_le.mpr hbl
  have hl := lv_entry ([.ref sb]) (n := 5) (Nat.le_of_ble_eq_true rfl)
  rw [lg_entry_eq]
  generalize (lg_sl ([.ref sb]) ++ List.replicate (5 - (lg_sl ([.ref sb])).length) Slot.unset).toArray = ls at hl ⊢
  have hl : lv_has ls 5 [(0, .ref sb)] := hl
  refine va_new (ci := 0) (fs := []) (C := RX1) (T := TX1) (N := 0) hx hb hts in_X1 tyX1 tyX1_ok hown (hts _ q15) (hts _ q16) (hts _ q2) hK hP hD hS hA rfl (fun j hj => absurd hj (Nat.not_lt_zero j)) (Nat.le_of_ble_eq_true rfl) (Nat.le_of_ble_eq_true rfl) dX0_askedNearest_0 (fun z H hP hD hS => ?_)
  have hP : va_P D fw_cl [(z, .inr (0, []))] H := hP
  have hD : va_D (fun q => s.heap.size ≤ q) [(z, .inr (0, []))] := hD
  refine lv_dup hx hb dX0_askedNearest_3 rfl ?_
  refine va_csv (va_Run.run (va_runI (As := []) (rest := [.ref z]) ⟨hx, hb, hml, hown, hts⟩ (metX1_init l z) (cwI 0 hts (lw_meth q19) rfl rfl rfl (hts _ q2) (hts _ q17) (hts _ q18) rfl (by decide +kernel) ⟨Nat.le_of_ble_eq_true rfl, Nat.le_of_ble_eq_true rfl⟩) ⟨fun _ _ _ _ q => q, fun U hU hW => ⟨rfl, trivial⟩⟩ rfl rfl hl.1 rfl (lv_room (Nat.le_of_ble_eq_true rfl)) dX0_askedNearest_4 ⟨Nat.le_of_ble_eq_true rfl, Nat.le_of_ble_eq_true rfl⟩)) (fun _ => ?_)
  refine lv_astore_n (lv' := [(1, .ref z), (0, .ref sb)]) hx hb dX0_askedNearest_7 rfl hl (by decide) rfl (fun ls hl => ?_)
  refine lv_aload_n hx hb dX0_askedNearest_8 rfl (lv_at hl 1 rfl) ?_
  refine lv_iconst (v := 0) hx hb dX0_askedNearest_9 (by decide) ?_
  refine vp_callSi (va_Run.run (va_runS (As := [.ref sb, .int 0]) (rest := []) ⟨hx, hb, hml, hown, hts⟩ (metX0_askedCell l sb L xs hL 0 (by decide)) (va_cwS 2 hts (lw_S q155 q156 q1 q157) rfl rfl rfl (by decide +kernel) ⟨Nat.le_of_ble_eq_true rfl, Nat.le_of_ble_eq_true rfl⟩) ⟨fw_X.blind, fun U hU hW => ⟨rfl, fw_X.make hX hbl hbA hS hU hW.alike⟩⟩ rfl rfl hl.1 rfl (lv_room (Nat.le_of_ble_eq_true rfl)) dX0_askedNearest_10 ⟨Nat.le_of_ble_eq_true rfl, Nat.le_of_ble_eq_true rfl⟩)) (fun ca _ => ?_)
  refine lv_istore_n (lv' := [(2, .int ca), (1, .ref z), (0, .ref sb)]) hx hb dX0_askedNearest_13 rfl hl (by decide) rfl (fun ls hl => ?_)
  refine lv_aload_n hx hb dX0_askedNearest_14 rfl (lv_at hl 2 rfl) ?_
  refine lv_iconst (v := 1) hx hb dX0_askedNearest_15 (by decide) ?_
  refine vp_callSi (va_Run.run (va_runS (As := [.ref sb, .int 1]) (rest := []) ⟨hx, hb, hml, hown, hts⟩ (metX0_askedCell l sb L xs hL 1 (by decide)) (va_cwS 2 hts (lw_S q155 q156 q1 q157) rfl rfl rfl (by decide +kernel) ⟨Nat.le_of_ble_eq_true rfl, Nat.le_of_ble_eq_true rfl⟩) ⟨fw_X.blind, fun U hU hW => ⟨rfl, fw_X.make hX hbl hbA hS hU hW.alike⟩⟩ rfl rfl hl.1 rfl (lv_room (Nat.le_of_ble_eq_true rfl)) dX0_askedNearest_16 ⟨Nat.le_of_ble_eq_true rfl, Nat.le_of_ble_eq_true rfl⟩)) (fun cb _ => ?_)
  refine lv_istore_n (lv' := [(3, .int cb), (2, .int ca), (1, .ref z), (0, .ref sb)]) hx hb dX0_askedNearest_19 rfl hl (by decide) rfl (fun ls hl => ?_)
  refine lv_iconst (v := nI 0) hx hb dX0_askedNearest_20 (by decide) ?_
  refine lv_istore (lv' := [(4, .int (nI 0)), (3, .int cb), (2, .int ca), (1, .ref z), (0, .ref sb)]) hx hb dX0_askedNearest_21 hl (by decide) rfl (fun ls hl => ?_)
  have loop : ∀ (n i : Nat) (x y : Int32), i + n = 2 → ∀ (H : Heap) (locs : List Loc), va_P D fw_cl [(z, .inr (0, []))] H → va_S (fun q => s.heap.size ≤ q) s.heap H locs → ∀ ls : Array Slot, lv_has ls 5 [(4, .int (nI i)), (3, .int y), (2, .int x), (1, .ref z), (0, .ref sb)] → W p l e (headSpec (ws_ yX0_askedNearest cX0_askedNearest 5 (some .boolean)) ({ frames := 5, cells := 7, slots := 12, locals := 115 })).room s m ([.ref sb] : List Value).toArray below meth c H locs (1 + 2 * i) (4 * i) (MQ below (va_Qi (fun (r : Int32) (_ : Unit) => r = 1) (fun _ _ => True) (fun q => s.heap.size ≤ q)) ([.ref sb] : List Value).toArray s 7 12 (fun q => s.heap.size ≤ q)) (F0 m 23 ls []) := by
    intro n
    induction n with
    | zero =>
      intro i x y hi H locs hP hS ls hl
      have hi : i = 2 := by omega
      subst hi
      refine lv_iload hx hb dX0_askedNearest_23 (lv_at hl 0 rfl) ?_
      refine lv_iconst (v := 2) hx hb dX0_askedNearest_25 (by decide) ?_
      refine lv_icmp_ge (tgt := 63) hx hb dX0_askedNearest_26 (by decide) (fun c_1 => ?_) (fun c_1 => ?_)
      · refine lv_aload_n hx hb dX0_askedNearest_63 rfl (lv_at hl 3 rfl) ?_
        refine lv_iload_n hx hb dX0_askedNearest_64 rfl (lv_at hl 2 rfl) ?_
        refine lv_iload_n hx hb dX0_askedNearest_65 rfl (lv_at hl 1 rfl) ?_
        refine va_calli (va_runV (As := [.int x, .int y]) (rest := []) ⟨hx, hb, hml, hown, hts⟩ (metX1_read l D K H.size z x y) (cwV 2 hts (lw_V q34 q35 q36 q2 q37) rfl rfl rfl (by decide +kernel) ⟨Nat.le_of_ble_eq_true rfl, Nat.le_of_ble_eq_true rfl⟩) ⟨fw_Pre.blind, va_recv hK hP (ci := 0) (q0 := 0) rfl rfl, fun U hU hW => ⟨rfl, fw_Pre.make hK hC hS hA hU hW.alike⟩⟩ rfl rfl hl.1 rfl (lv_room (Nat.le_of_ble_eq_true rfl)) dX0_askedNearest_66 ⟨Nat.le_of_ble_eq_true rfl, Nat.le_of_ble_eq_true rfl⟩) hS (fun q _ h => (fun q h => hA q (Nat.le_trans hS.1 h)) q h) (fun q h => hA q (Nat.le_trans hS.1 h)) (fun r1 u_ t_ H locs ht_ hvm_ hr1 hB_ hz_ hk_ hS => ?_)
        have hP := fw_keep hP hk_
        refine lv_iload_n hx hb dX0_askedNearest_69 rfl (lv_at hl 2 rfl) ?_
        refine lv_iload_n hx hb dX0_askedNearest_70 rfl (lv_at hl 1 rfl) ?_
        refine vp_callSi (va_Run.run (va_runS (As := [.int x, .int y]) (rest := [.int r1]) ⟨hx, hb, hml, hown, hts⟩ (metX0_askedDue l x y) (va_cwS 2 hts (lw_S q169 q170 q1 q171) rfl rfl rfl (by decide +kernel) ⟨Nat.le_of_ble_eq_true rfl, Nat.le_of_ble_eq_true rfl⟩) ⟨fun _ _ _ _ q => q, fun U hU hW => ⟨rfl, trivial⟩⟩ rfl rfl hl.1 rfl (lv_room (Nat.le_of_ble_eq_true rfl)) dX0_askedNearest_71 ⟨Nat.le_of_ble_eq_true rfl, Nat.le_of_ble_eq_true rfl⟩)) (fun r2 hr2 => ?_)
        have er := fw_R_one hr1 hr2
        subst er
        refine lv_icmp_ne (tgt := 81) hx hb dX0_askedNearest_74 (by decide) (fun c_2 => ?_) (fun c_2 => ?_)
        · exact absurd rfl c_2
        · refine lv_iconst (v := 1) hx hb dX0_askedNearest_77 (by decide) ?_
          refine lv_goto (tgt := 82) hx hb dX0_askedNearest_78 (by decide) ?_
          refine W.widen (k := 7) (n := 12) (by first | omega | decide) (by first | omega | decide) ?_
          exact W.zret (v := 1) hx hb hr rfl (fun t ht hW => ⟨⟨1, (), rfl, rfl, trivial⟩, hS.F ht⟩) hS.2.2 dX0_askedNearest_82
      · exact absurd (show (2 : Int32) ≤ nI 2 from by decide) c_1
    | succ n ih =>
      intro i x y hi H locs hP hS ls hl
      have hi2 : i < 2 := by omega
      refine lv_iload hx hb dX0_askedNearest_23 (lv_at hl 0 rfl) ?_
      refine lv_iconst (v := 2) hx hb dX0_askedNearest_25 (by decide) ?_
      refine lv_icmp_ge (tgt := 63) hx hb dX0_askedNearest_26 (by decide) (fun c_1 => ?_) (fun c_1 => ?_)
      · exact absurd c_1 (nI_ge (b := 2) hi2 (by decide))
      · refine lv_aload_n hx hb dX0_askedNearest_29 rfl (lv_at hl 3 rfl) ?_
        refine lv_iload_n hx hb dX0_askedNearest_30 rfl (lv_at hl 2 rfl) ?_
        refine lv_iload_n hx hb dX0_askedNearest_31 rfl (lv_at hl 1 rfl) ?_
        refine va_calli (va_runV (As := [.int x, .int y]) (rest := []) ⟨hx, hb, hml, hown, hts⟩ (metX1_read l D K H.size z x y) (cwV 2 hts (lw_V q34 q35 q36 q2 q37) rfl rfl rfl (by decide +kernel) ⟨Nat.le_of_ble_eq_true rfl, Nat.le_of_ble_eq_true rfl⟩) ⟨fw_Pre.blind, va_recv hK hP (ci := 0) (q0 := 0) rfl rfl, fun U hU hW => ⟨rfl, fw_Pre.make hK hC hS hA hU hW.alike⟩⟩ rfl rfl hl.1 rfl (lv_room (Nat.le_of_ble_eq_true rfl)) dX0_askedNearest_32 ⟨by show _ ≤ 7; omega, by show _ ≤ 12; omega⟩) hS (fun q _ h => (fun q h => hA q (Nat.le_trans hS.1 h)) q h) (fun q h => hA q (Nat.le_trans hS.1 h)) (fun r1 u_ t_ H locs ht_ hvm_ hr1 hB_ hz_ hk_ hS => ?_)
        have hP := fw_keep hP hk_
        refine lv_iload_n hx hb dX0_askedNearest_35 rfl (lv_at hl 2 rfl) ?_
        refine lv_iload_n hx hb dX0_askedNearest_36 rfl (lv_at hl 1 rfl) ?_
        refine vp_callSi (va_Run.run (va_runS (As := [.int x, .int y]) (rest := [.int r1]) ⟨hx, hb, hml, hown, hts⟩ (metX0_askedDue l x y) (va_cwS 2 hts (lw_S q169 q170 q1 q171) rfl rfl rfl (by decide +kernel) ⟨Nat.le_of_ble_eq_true rfl, Nat.le_of_ble_eq_true rfl⟩) ⟨fun _ _ _ _ q => q, fun U hU hW => ⟨rfl, trivial⟩⟩ rfl rfl hl.1 rfl (lv_room (Nat.le_of_ble_eq_true rfl)) dX0_askedNearest_37 ⟨by show _ ≤ 7; omega, by show _ ≤ 12; omega⟩)) (fun r2 hr2 => ?_)
        have er := fw_R_one hr1 hr2
        subst er
        refine lv_icmp_eq (tgt := 45) hx hb dX0_askedNearest_40 (by decide) (fun c_2 => ?_) (fun c_2 => ?_)
        · refine lv_iload_n hx hb dX0_askedNearest_45 rfl (lv_at hl 2 rfl) ?_
          refine lv_sipush (v := 32767) hx hb dX0_askedNearest_46 (by decide) ?_
          refine lv_iand hx hb dX0_askedNearest_49 ?_
          refine lv_istore_n (lv' := [(2, .int (x &&& (32767 : Int32))), (4, .int (nI i)), (3, .int y), (1, .ref z), (0, .ref sb)]) hx hb dX0_askedNearest_50 rfl hl (by decide) rfl (fun ls hl => ?_)
          refine lv_iload_n hx hb dX0_askedNearest_51 rfl (lv_at hl 2 rfl) ?_
          refine lv_sipush (v := 32767) hx hb dX0_askedNearest_52 (by decide) ?_
          refine lv_iand hx hb dX0_askedNearest_55 ?_
          refine lv_istore_n (lv' := [(3, .int (y &&& (32767 : Int32))), (2, .int (x &&& (32767 : Int32))), (4, .int (nI i)), (1, .ref z), (0, .ref sb)]) hx hb dX0_askedNearest_56 rfl hl (by decide) rfl (fun ls hl => ?_)
          refine lv_iinc (v := nI (i + 1)) (lv' := [(4, .int (nI (i + 1))), (3, .int (y &&& (32767 : Int32))), (2, .int (x &&& (32767 : Int32))), (1, .ref z), (0, .ref sb)]) hx hb dX0_askedNearest_57 hl (k := 2) rfl (nI_1 i) (by decide) rfl (fun ls hl => ?_)
          refine lv_goto (tgt := 23) hx hb dX0_askedNearest_60 (by decide) ?_
          refine W.widen (k := 1 + 2 * (i + 1)) (n := 4 * (i + 1)) (by omega) (by omega) ?_
          exact ih (i + 1) _ _ (by omega) H _ hP hS ls (lv_sub hl [0, 1, 2, 3, 4] rfl)
        · exact absurd rfl c_2
  exact loop 2 0 ca cb rfl H [] hP hS ls hl
end
section
/-! THE LAW'S FIVE CHECKS, the last: askedCopies -/
theorem fw_or : ((0 : Int32) ||| 0 = 0) ∧ ((0 : Int32) ||| 1 = 1) ∧ ((1 : Int32) ||| 0 = 1) ∧ ((1 : Int32) ||| 1 = 1) := by decide
/-- whether one of the first i words is z -/
def fw_is (z x : Int32) (i : Nat) : Prop := (x = 0 ∧ ∀ j, j < i → ¬ fw_t j = z) ∨ x = 1
theorem fw_is_0 {z x : Int32} {i : Nat} (h : fw_is z x i) (hn : ¬ fw_t i = z) : fw_is z (x ||| 0) (i + 1) := by
  rcases h with ⟨rfl, h⟩ | rfl
  · refine Or.inl ⟨fw_or.1, fun j hj => ?_⟩
    rcases Nat.lt_or_eq_of_le (Nat.le_of_lt_succ hj) with q | q
    · exact h j q
    · rw [q]; exact hn
  · exact Or.inr fw_or.2.2.1
theorem fw_is_1 {z x : Int32} {i : Nat} (h : fw_is z x i) : fw_is z (x ||| 1) (i + 1) := by
  rcases h with ⟨rfl, h⟩ | rfl
  · exact Or.inr fw_or.2.1
  · exact Or.inr fw_or.2.2.2
theorem fw_is_no {z : Int32} (h : fw_is z 0 32) : ∀ j, j < 32 → ¬ fw_t j = z := by
  rcases h with ⟨-, h⟩ | h
  · exact h
  · exact absurd h (by decide)
set_option maxHeartbeats 4000000 in
set_option maxRecDepth 100000 in
/-- askedCopies: two copies of two words, spoilt in known ways -/
theorem metX0_askedCopies (l : Launch) (D : va_G) (K : fw_K) (sz sb L : Nat) (xs : Nat → Int32) (hL : L ≤ 8) : Met l yX0_askedCopies (ws_ yX0_askedCopies cX0_askedCopies 8 (some .boolean)) ({ frames := 5, cells := 13, slots := 24, locals := 115 }) (va_Pc [.ref sb] (fw_PreX D K sb L xs sz)) (va_Qi (fun (r : Int32) (_ : Unit) => r = 1) (fun _ _ => True) (fun q => sz ≤ q)) 13 24 (fun q => sz ≤ q) := by
  refine Met.ofW (cc := cX0_askedCopies) (maxL := 8) (ret := (some .boolean)) (by decide) rfl ?_
  intro p e s m args below meth c s₁ B hml hv
  obtain ⟨rfl, ⟨hsz, hK, hC⟩, hX, hbl⟩ := hv
  have hx := B.exec
  have hb := B.bytes
  have hr := B.returns
  have hts := atoms_spec (ws := (ws_ yX0_askedCopies cX0_askedCopies 8 (some .boolean))) B.pre
  have hts : ∀ w ∈ lw_all, w.before _ s = true := fun w h => hts w (List.mem_cons_of_mem _ h)
  have hown : s.vm.findClass RX0 = some m.cls := findClass_of_methodNamed B.named
  have hlocks := B.notSynchronized
  subst hsz
  have hS : va_S (fun q => s.heap.size ≤ q) s.heap s.heap [] := va_S.rf
  have hA : ∀ q, s.heap.size ≤ q → (fun q => s.heap.size ≤ q) q := fun q h => h
  have hP : va_P D fw_cl [] s.heap := fun k q h => by simp at h
  have hD : va_D (fun q => s.heap.size ≤ q) [] := ⟨fun i j p q h => by simp at h, fun k q h => by simp at h⟩
  have hbA : ¬ (fun q => s.heap.size ≤ q) sb := Nat.not_le.mpr hbl
  have hl := lv_entry ([.ref sb]) (n := 8) (Nat.le_of_ble_eq_true rfl)
  rw [lg_entry_eq]
  generalize (lg_sl ([.ref sb]) ++ List.replicate (8 - (lg_sl ([.ref sb])).length) Slot.unset).toArray = ls at hl ⊢
  have hl : lv_has ls 8 [(0, .ref sb)] := hl
  refine va_new (ci := 0) (fs := []) (C := RX1) (T := TX1) (N := 0) hx hb hts in_X1 tyX1 tyX1_ok hown (hts _ q15) (hts _ q16) (hts _ q2) hK hP hD hS hA rfl (fun j hj => absurd hj (Nat.not_lt_zero j)) (Nat.le_of_ble_eq_true rfl) (Nat.le_of_ble_eq_true rfl) dX0_askedCopies_0 (fun z H hP hD hS => ?_)
  have hP : va_P D fw_cl [(z, .inr (0, []))] H := hP
  have hD : va_D (fun q => s.heap.size ≤ q) [(z, .inr (0, []))] := hD
  refine lv_dup hx hb dX0_askedCopies_3 rfl ?_
  refine va_csv (va_Run.run (va_runI (As := []) (rest := [.ref z]) ⟨hx, hb, hml, hown, hts⟩ (metX1_init l z) (cwI 0 hts (lw_meth q19) rfl rfl rfl (hts _ q2) (hts _ q17) (hts _ q18) rfl (by decide +kernel) ⟨Nat.le_of_ble_eq_true rfl, Nat.le_of_ble_eq_true rfl⟩) ⟨fun _ _ _ _ q => q, fun U hU hW => ⟨rfl, trivial⟩⟩ rfl rfl hl.1 rfl (lv_room (Nat.le_of_ble_eq_true rfl)) dX0_askedCopies_4 ⟨Nat.le_of_ble_eq_true rfl, Nat.le_of_ble_eq_true rfl⟩)) (fun _ => ?_)
  refine lv_astore_n (lv' := [(1, .ref z), (0, .ref sb)]) hx hb dX0_askedCopies_7 rfl hl (by decide) rfl (fun ls hl => ?_)
  refine lv_aload_n hx hb dX0_askedCopies_8 rfl (lv_at hl 1 rfl) ?_
  refine lv_iconst (v := 0) hx hb dX0_askedCopies_9 (by decide) ?_
  refine vp_callSi (va_Run.run (va_runS (As := [.ref sb, .int 0]) (rest := []) ⟨hx, hb, hml, hown, hts⟩ (metX0_askedCell l sb L xs hL 0 (by decide)) (va_cwS 2 hts (lw_S q155 q156 q1 q157) rfl rfl rfl (by decide +kernel) ⟨Nat.le_of_ble_eq_true rfl, Nat.le_of_ble_eq_true rfl⟩) ⟨fw_X.blind, fun U hU hW => ⟨rfl, fw_X.make hX hbl hbA hS hU hW.alike⟩⟩ rfl rfl hl.1 rfl (lv_room (Nat.le_of_ble_eq_true rfl)) dX0_askedCopies_10 ⟨Nat.le_of_ble_eq_true rfl, Nat.le_of_ble_eq_true rfl⟩)) (fun c0 _ => ?_)
  obtain ⟨f, hf, ef⟩ := fw_f31 c0
  refine lv_bipush (v := 31) hx hb dX0_askedCopies_13 (by decide) ?_
  refine lv_iand hx hb dX0_askedCopies_15 ?_
  refine fw_top (nI f) (ef) ?_
  refine lv_istore_n (lv' := [(2, .int (nI f)), (1, .ref z), (0, .ref sb)]) hx hb dX0_askedCopies_16 rfl hl (by decide) rfl (fun ls hl => ?_)
  refine lv_aload_n hx hb dX0_askedCopies_17 rfl (lv_at hl 2 rfl) ?_
  refine lv_iconst (v := 1) hx hb dX0_askedCopies_18 (by decide) ?_
  refine vp_callSi (va_Run.run (va_runS (As := [.ref sb, .int 1]) (rest := []) ⟨hx, hb, hml, hown, hts⟩ (metX0_askedCell l sb L xs hL 1 (by decide)) (va_cwS 2 hts (lw_S q155 q156 q1 q157) rfl rfl rfl (by decide +kernel) ⟨Nat.le_of_ble_eq_true rfl, Nat.le_of_ble_eq_true rfl⟩) ⟨fw_X.blind, fun U hU hW => ⟨rfl, fw_X.make hX hbl hbA hS hU hW.alike⟩⟩ rfl rfl hl.1 rfl (lv_room (Nat.le_of_ble_eq_true rfl)) dX0_askedCopies_19 ⟨Nat.le_of_ble_eq_true rfl, Nat.le_of_ble_eq_true rfl⟩)) (fun c1 _ => ?_)
  obtain ⟨g, hg, eg⟩ := fw_f31 c1
  refine lv_bipush (v := 31) hx hb dX0_askedCopies_22 (by decide) ?_
  refine lv_iand hx hb dX0_askedCopies_24 ?_
  refine fw_top (nI g) (eg) ?_
  refine lv_istore_n (lv' := [(3, .int (nI g)), (2, .int (nI f)), (1, .ref z), (0, .ref sb)]) hx hb dX0_askedCopies_25 rfl hl (by decide) rfl (fun ls hl => ?_)
  refine lv_iconst (v := 1) hx hb dX0_askedCopies_26 (by decide) ?_
  refine lv_aload_n hx hb dX0_askedCopies_27 rfl (lv_at hl 3 rfl) ?_
  refine lv_iconst (v := 2) hx hb dX0_askedCopies_28 (by decide) ?_
  refine vp_callSi (va_Run.run (va_runS (As := [.ref sb, .int 2]) (rest := [.int 1]) ⟨hx, hb, hml, hown, hts⟩ (metX0_askedCell l sb L xs hL 2 (by decide)) (va_cwS 2 hts (lw_S q155 q156 q1 q157) rfl rfl rfl (by decide +kernel) ⟨Nat.le_of_ble_eq_true rfl, Nat.le_of_ble_eq_true rfl⟩) ⟨fw_X.blind, fun U hU hW => ⟨rfl, fw_X.make hX hbl hbA hS hU hW.alike⟩⟩ rfl rfl hl.1 rfl (lv_room (Nat.le_of_ble_eq_true rfl)) dX0_askedCopies_29 ⟨Nat.le_of_ble_eq_true rfl, Nat.le_of_ble_eq_true rfl⟩)) (fun c2 _ => ?_)
  refine lv_ldc hx hb hown (hts _ q33) dX0_askedCopies_32 ?_
  refine lv_iand hx hb dX0_askedCopies_34 ?_
  refine lv_bipush (v := 15) hx hb dX0_askedCopies_35 (by decide) ?_
  refine lv_irem hx hb dX0_askedCopies_37 (by decide) ?_
  refine lv_ishl hx hb dX0_askedCopies_38 ?_
  have he1 := fw_one c2
  generalize (1 : Int32) <<< (((c2 &&& 2147483647) - (c2 &&& 2147483647) / 15 * 15) &&& 31) = e1 at he1 ⊢
  refine lv_istore (lv' := [(4, .int e1), (3, .int (nI g)), (2, .int (nI f)), (1, .ref z), (0, .ref sb)]) hx hb dX0_askedCopies_39 hl (by decide) rfl (fun ls hl => ?_)
  refine lv_iload_n hx hb dX0_askedCopies_41 rfl (lv_at hl 2 rfl) ?_
  refine vp_callSi (va_Run.run (va_runS (As := [.int (nI f)]) (rest := []) ⟨hx, hb, hml, hown, hts⟩ (metX0_askedWord l f hf) (va_cwS 1 hts (lw_S q175 q176 q1 q177) rfl rfl rfl (by decide +kernel) ⟨Nat.le_of_ble_eq_true rfl, Nat.le_of_ble_eq_true rfl⟩) ⟨fun _ _ _ _ q => q, fun U hU hW => ⟨rfl, trivial⟩⟩ rfl rfl hl.1 rfl (lv_room (Nat.le_of_ble_eq_true rfl)) dX0_askedCopies_42 ⟨Nat.le_of_ble_eq_true rfl, Nat.le_of_ble_eq_true rfl⟩)) (fun wd ewd => ?_)
  subst ewd
  refine lv_sipush (v := 32767) hx hb dX0_askedCopies_45 (by decide) ?_
  refine lv_ixor hx hb dX0_askedCopies_48 ?_
  refine lv_iload hx hb dX0_askedCopies_49 (lv_at hl 0 rfl) ?_
  refine lv_ixor hx hb dX0_askedCopies_51 ?_
  refine lv_topi (fun o1 eo1 => ?_)
  refine lv_istore (lv' := [(5, .int o1), (4, .int e1), (3, .int (nI g)), (2, .int (nI f)), (1, .ref z), (0, .ref sb)]) hx hb dX0_askedCopies_52 hl (by decide) rfl (fun ls hl => ?_)
  refine lv_iconst (v := 0) hx hb dX0_askedCopies_54 (by decide) ?_
  refine lv_istore (lv' := [(6, .int 0), (5, .int o1), (4, .int e1), (3, .int (nI g)), (2, .int (nI f)), (1, .ref z), (0, .ref sb)]) hx hb dX0_askedCopies_55 hl (by decide) rfl (fun ls hl => ?_)
  refine lv_iconst (v := nI 0) hx hb dX0_askedCopies_57 (by decide) ?_
  refine lv_istore (lv' := [(7, .int (nI 0)), (6, .int 0), (5, .int o1), (4, .int e1), (3, .int (nI g)), (2, .int (nI f)), (1, .ref z), (0, .ref sb)]) hx hb dX0_askedCopies_58 hl (by decide) rfl (fun ls hl => ?_)
  have tail : ∀ (H : Heap) (locs : List Loc), va_P D fw_cl [(z, .inr (0, []))] H → va_S (fun q => s.heap.size ≤ q) s.heap H locs → ∀ ls : Array Slot, lv_has ls 8 [(5, .int o1), (4, .int e1), (3, .int (nI g)), (2, .int (nI f)), (1, .ref z), (0, .ref sb)] → W p l e (headSpec (ws_ yX0_askedCopies cX0_askedCopies 8 (some .boolean)) ({ frames := 5, cells := 13, slots := 24, locals := 115 })).room s m ([.ref sb] : List Value).toArray below meth c H locs (5) (8) (MQ below (va_Qi (fun (r : Int32) (_ : Unit) => r = 1) (fun _ _ => True) (fun q => s.heap.size ≤ q)) ([.ref sb] : List Value).toArray s 13 24 (fun q => s.heap.size ≤ q)) (F0 m 128 ls []) := by
    intro H locs hP hS ls hl
    refine lv_aload_n hx hb dX0_askedCopies_128 rfl (lv_at hl 4 rfl) ?_
    refine lv_iload_n hx hb dX0_askedCopies_129 rfl (lv_at hl 3 rfl) ?_
    refine vp_callSi (va_Run.run (va_runS (As := [.int (nI f)]) (rest := [.ref z]) ⟨hx, hb, hml, hown, hts⟩ (metX0_askedWord l f hf) (va_cwS 1 hts (lw_S q175 q176 q1 q177) rfl rfl rfl (by decide +kernel) ⟨Nat.le_of_ble_eq_true rfl, Nat.le_of_ble_eq_true rfl⟩) ⟨fun _ _ _ _ q => q, fun U hU hW => ⟨rfl, trivial⟩⟩ rfl rfl hl.1 rfl (lv_room (Nat.le_of_ble_eq_true rfl)) dX0_askedCopies_130 ⟨Nat.le_of_ble_eq_true rfl, Nat.le_of_ble_eq_true rfl⟩)) (fun w1 ew1 => ?_)
    subst ew1
    refine lv_iload hx hb dX0_askedCopies_133 (lv_at hl 1 rfl) ?_
    refine lv_ixor hx hb dX0_askedCopies_135 ?_
    refine lv_iload_n hx hb dX0_askedCopies_136 rfl (lv_at hl 2 rfl) ?_
    refine vp_callSi (va_Run.run (va_runS (As := [.int (nI g)]) (rest := [.int ((fw_t f) ^^^ e1), .ref z]) ⟨hx, hb, hml, hown, hts⟩ (metX0_askedWord l g hg) (va_cwS 1 hts (lw_S q175 q176 q1 q177) rfl rfl rfl (by decide +kernel) ⟨Nat.le_of_ble_eq_true rfl, Nat.le_of_ble_eq_true rfl⟩) ⟨fun _ _ _ _ q => q, fun U hU hW => ⟨rfl, trivial⟩⟩ rfl rfl hl.1 rfl (lv_room (Nat.le_of_ble_eq_true rfl)) dX0_askedCopies_137 ⟨Nat.le_of_ble_eq_true rfl, Nat.le_of_ble_eq_true rfl⟩)) (fun w2 ew2 => ?_)
    subst ew2
    refine lv_bipush (v := 7) hx hb dX0_askedCopies_140 (by decide) ?_
    refine lv_ixor hx hb dX0_askedCopies_142 ?_
    refine va_calli (va_runV (As := [.int ((fw_t f) ^^^ e1), .int ((fw_t g) ^^^ (7 : Int32))]) (rest := []) ⟨hx, hb, hml, hown, hts⟩ (metX1_read l D K H.size z (fw_t f ^^^ e1) (fw_t g ^^^ 7)) (cwV 2 hts (lw_V q34 q35 q36 q2 q37) rfl rfl rfl (by decide +kernel) ⟨Nat.le_of_ble_eq_true rfl, Nat.le_of_ble_eq_true rfl⟩) ⟨fw_Pre.blind, va_recv hK hP (ci := 0) (q0 := 0) rfl rfl, fun U hU hW => ⟨rfl, fw_Pre.make hK hC hS hA hU hW.alike⟩⟩ rfl rfl hl.1 rfl (lv_room (Nat.le_of_ble_eq_true rfl)) dX0_askedCopies_143 ⟨Nat.le_of_ble_eq_true rfl, Nat.le_of_ble_eq_true rfl⟩) hS (fun q _ h => (fun q h => hA q (Nat.le_trans hS.1 h)) q h) (fun q h => hA q (Nat.le_trans hS.1 h)) (fun r1 u_ t_ H locs ht_ hvm_ hr1 hB_ hz_ hk_ hS => ?_)
    have hP := fw_keep hP hk_
    have er1 := fw_R_13 hf hg he1 hr1
    subst er1
    refine lv_iload_n hx hb dX0_askedCopies_146 rfl (lv_at hl 3 rfl) ?_
    refine lv_icmp_eq (tgt := 152) hx hb dX0_askedCopies_147 (by decide) (fun c_1 => ?_) (fun c_1 => ?_)
    · refine lv_aload_n hx hb dX0_askedCopies_152 rfl (lv_at hl 4 rfl) ?_
      refine lv_iload_n hx hb dX0_askedCopies_153 rfl (lv_at hl 3 rfl) ?_
      refine vp_callSi (va_Run.run (va_runS (As := [.int (nI f)]) (rest := [.ref z]) ⟨hx, hb, hml, hown, hts⟩ (metX0_askedWord l f hf) (va_cwS 1 hts (lw_S q175 q176 q1 q177) rfl rfl rfl (by decide +kernel) ⟨Nat.le_of_ble_eq_true rfl, Nat.le_of_ble_eq_true rfl⟩) ⟨fun _ _ _ _ q => q, fun U hU hW => ⟨rfl, trivial⟩⟩ rfl rfl hl.1 rfl (lv_room (Nat.le_of_ble_eq_true rfl)) dX0_askedCopies_154 ⟨Nat.le_of_ble_eq_true rfl, Nat.le_of_ble_eq_true rfl⟩)) (fun w3 ew3 => ?_)
      subst ew3
      refine lv_iload hx hb dX0_askedCopies_157 (lv_at hl 1 rfl) ?_
      refine lv_ixor hx hb dX0_askedCopies_159 ?_
      refine lv_iload_n hx hb dX0_askedCopies_160 rfl (lv_at hl 2 rfl) ?_
      refine vp_callSi (va_Run.run (va_runS (As := [.int (nI g)]) (rest := [.int ((fw_t f) ^^^ e1), .ref z]) ⟨hx, hb, hml, hown, hts⟩ (metX0_askedWord l g hg) (va_cwS 1 hts (lw_S q175 q176 q1 q177) rfl rfl rfl (by decide +kernel) ⟨Nat.le_of_ble_eq_true rfl, Nat.le_of_ble_eq_true rfl⟩) ⟨fun _ _ _ _ q => q, fun U hU hW => ⟨rfl, trivial⟩⟩ rfl rfl hl.1 rfl (lv_room (Nat.le_of_ble_eq_true rfl)) dX0_askedCopies_161 ⟨Nat.le_of_ble_eq_true rfl, Nat.le_of_ble_eq_true rfl⟩)) (fun w4 ew4 => ?_)
      subst ew4
      refine lv_iload hx hb dX0_askedCopies_164 (lv_at hl 1 rfl) ?_
      refine lv_ixor hx hb dX0_askedCopies_166 ?_
      refine va_calli (va_runV (As := [.int ((fw_t f) ^^^ e1), .int ((fw_t g) ^^^ e1)]) (rest := []) ⟨hx, hb, hml, hown, hts⟩ (metX1_read l D K H.size z (fw_t f ^^^ e1) (fw_t g ^^^ e1)) (cwV 2 hts (lw_V q34 q35 q36 q2 q37) rfl rfl rfl (by decide +kernel) ⟨Nat.le_of_ble_eq_true rfl, Nat.le_of_ble_eq_true rfl⟩) ⟨fw_Pre.blind, va_recv hK hP (ci := 0) (q0 := 0) rfl rfl, fun U hU hW => ⟨rfl, fw_Pre.make hK hC hS hA hU hW.alike⟩⟩ rfl rfl hl.1 rfl (lv_room (Nat.le_of_ble_eq_true rfl)) dX0_askedCopies_167 ⟨Nat.le_of_ble_eq_true rfl, Nat.le_of_ble_eq_true rfl⟩) hS (fun q _ h => (fun q h => hA q (Nat.le_trans hS.1 h)) q h) (fun q h => hA q (Nat.le_trans hS.1 h)) (fun r2 u_ t_ H locs ht_ hvm_ hr2 hB_ hz_ hk_ hS => ?_)
      have hP := fw_keep hP hk_
      have er2 := fw_R_11 hf hg he1 hr2
      subst er2
      refine lv_iload_n hx hb dX0_askedCopies_170 rfl (lv_at hl 3 rfl) ?_
      refine lv_iload_n hx hb dX0_askedCopies_171 rfl (lv_at hl 2 rfl) ?_
      refine va_mmin hx hb (hml.trans hl.1.symm) hown (hts _ q178) (hts _ q179) (hts _ q11) (hts _ q180) (Nat.le_of_ble_eq_true rfl) (Nat.le_of_ble_eq_true rfl) (Nat.le_of_ble_eq_true rfl) (Nat.le_of_ble_eq_true rfl) dX0_askedCopies_172 ?_
      refine fw_top (nI (min f g)) (fw_minI hf hg) ?_
      refine lv_icmp_eq (tgt := 180) hx hb dX0_askedCopies_175 (by decide) (fun c_2 => ?_) (fun c_2 => ?_)
      · refine lv_aload_n hx hb dX0_askedCopies_180 rfl (lv_at hl 4 rfl) ?_
        refine lv_iload_n hx hb dX0_askedCopies_181 rfl (lv_at hl 3 rfl) ?_
        refine vp_callSi (va_Run.run (va_runS (As := [.int (nI f)]) (rest := [.ref z]) ⟨hx, hb, hml, hown, hts⟩ (metX0_askedWord l f hf) (va_cwS 1 hts (lw_S q175 q176 q1 q177) rfl rfl rfl (by decide +kernel) ⟨Nat.le_of_ble_eq_true rfl, Nat.le_of_ble_eq_true rfl⟩) ⟨fun _ _ _ _ q => q, fun U hU hW => ⟨rfl, trivial⟩⟩ rfl rfl hl.1 rfl (lv_room (Nat.le_of_ble_eq_true rfl)) dX0_askedCopies_182 ⟨Nat.le_of_ble_eq_true rfl, Nat.le_of_ble_eq_true rfl⟩)) (fun w5 ew5 => ?_)
        subst ew5
        refine lv_ldc hx hb hown (hts _ q184) dX0_askedCopies_185 ?_
        refine lv_ixor hx hb dX0_askedCopies_187 ?_
        refine lv_iload_n hx hb dX0_askedCopies_188 rfl (lv_at hl 2 rfl) ?_
        refine vp_callSi (va_Run.run (va_runS (As := [.int (nI g)]) (rest := [.int ((fw_t f) ^^^ (491520 : Int32)), .ref z]) ⟨hx, hb, hml, hown, hts⟩ (metX0_askedWord l g hg) (va_cwS 1 hts (lw_S q175 q176 q1 q177) rfl rfl rfl (by decide +kernel) ⟨Nat.le_of_ble_eq_true rfl, Nat.le_of_ble_eq_true rfl⟩) ⟨fun _ _ _ _ q => q, fun U hU hW => ⟨rfl, trivial⟩⟩ rfl rfl hl.1 rfl (lv_room (Nat.le_of_ble_eq_true rfl)) dX0_askedCopies_189 ⟨Nat.le_of_ble_eq_true rfl, Nat.le_of_ble_eq_true rfl⟩)) (fun w6 ew6 => ?_)
        subst ew6
        refine lv_ldc hx hb hown (hts _ q184) dX0_askedCopies_192 ?_
        refine lv_ixor hx hb dX0_askedCopies_194 ?_
        refine va_calli (va_runV (As := [.int ((fw_t f) ^^^ (491520 : Int32)), .int ((fw_t g) ^^^ (491520 : Int32))]) (rest := []) ⟨hx, hb, hml, hown, hts⟩ (metX1_read l D K H.size z (fw_t f ^^^ 491520) (fw_t g ^^^ 491520)) (cwV 2 hts (lw_V q34 q35 q36 q2 q37) rfl rfl rfl (by decide +kernel) ⟨Nat.le_of_ble_eq_true rfl, Nat.le_of_ble_eq_true rfl⟩) ⟨fw_Pre.blind, va_recv hK hP (ci := 0) (q0 := 0) rfl rfl, fun U hU hW => ⟨rfl, fw_Pre.make hK hC hS hA hU hW.alike⟩⟩ rfl rfl hl.1 rfl (lv_room (Nat.le_of_ble_eq_true rfl)) dX0_askedCopies_195 ⟨Nat.le_of_ble_eq_true rfl, Nat.le_of_ble_eq_true rfl⟩) hS (fun q _ h => (fun q h => hA q (Nat.le_trans hS.1 h)) q h) (fun q h => hA q (Nat.le_trans hS.1 h)) (fun r3 u_ t_ H locs ht_ hvm_ hr3 hB_ hz_ hk_ hS => ?_)
        have hP := fw_keep hP hk_
        have er3 := fw_R_high hf hg hr3
        subst er3
        refine lv_iconst (v := (-1)) hx hb dX0_askedCopies_198 (by decide) ?_
        refine lv_icmp_ne (tgt := 230) hx hb dX0_askedCopies_199 (by decide) (fun c_3 => ?_) (fun c_3 => ?_)
        · exact absurd rfl c_3
        · refine lv_aload_n hx hb dX0_askedCopies_202 rfl (lv_at hl 4 rfl) ?_
          refine lv_iload_n hx hb dX0_askedCopies_203 rfl (lv_at hl 3 rfl) ?_
          refine vp_callSi (va_Run.run (va_runS (As := [.int (nI f)]) (rest := [.ref z]) ⟨hx, hb, hml, hown, hts⟩ (metX0_askedWord l f hf) (va_cwS 1 hts (lw_S q175 q176 q1 q177) rfl rfl rfl (by decide +kernel) ⟨Nat.le_of_ble_eq_true rfl, Nat.le_of_ble_eq_true rfl⟩) ⟨fun _ _ _ _ q => q, fun U hU hW => ⟨rfl, trivial⟩⟩ rfl rfl hl.1 rfl (lv_room (Nat.le_of_ble_eq_true rfl)) dX0_askedCopies_204 ⟨Nat.le_of_ble_eq_true rfl, Nat.le_of_ble_eq_true rfl⟩)) (fun w7 ew7 => ?_)
          subst ew7
          refine lv_sipush (v := 21522) hx hb dX0_askedCopies_207 (by decide) ?_
          refine lv_ixor hx hb dX0_askedCopies_210 ?_
          refine lv_iload_n hx hb dX0_askedCopies_211 rfl (lv_at hl 3 rfl) ?_
          refine vp_callSi (va_Run.run (va_runS (As := [.int (nI f)]) (rest := [.int ((fw_t f) ^^^ (21522 : Int32)), .ref z]) ⟨hx, hb, hml, hown, hts⟩ (metX0_askedWord l f hf) (va_cwS 1 hts (lw_S q175 q176 q1 q177) rfl rfl rfl (by decide +kernel) ⟨Nat.le_of_ble_eq_true rfl, Nat.le_of_ble_eq_true rfl⟩) ⟨fun _ _ _ _ q => q, fun U hU hW => ⟨rfl, trivial⟩⟩ rfl rfl hl.1 rfl (lv_room (Nat.le_of_ble_eq_true rfl)) dX0_askedCopies_212 ⟨Nat.le_of_ble_eq_true rfl, Nat.le_of_ble_eq_true rfl⟩)) (fun w8 ew8 => ?_)
          subst ew8
          refine lv_sipush (v := 21522) hx hb dX0_askedCopies_215 (by decide) ?_
          refine lv_ixor hx hb dX0_askedCopies_218 ?_
          refine va_calli (va_runV (As := [.int ((fw_t f) ^^^ (21522 : Int32)), .int ((fw_t f) ^^^ (21522 : Int32))]) (rest := []) ⟨hx, hb, hml, hown, hts⟩ (metX1_read l D K H.size z (fw_t f ^^^ 21522) (fw_t f ^^^ 21522)) (cwV 2 hts (lw_V q34 q35 q36 q2 q37) rfl rfl rfl (by decide +kernel) ⟨Nat.le_of_ble_eq_true rfl, Nat.le_of_ble_eq_true rfl⟩) ⟨fw_Pre.blind, va_recv hK hP (ci := 0) (q0 := 0) rfl rfl, fun U hU hW => ⟨rfl, fw_Pre.make hK hC hS hA hU hW.alike⟩⟩ rfl rfl hl.1 rfl (lv_room (Nat.le_of_ble_eq_true rfl)) dX0_askedCopies_219 ⟨Nat.le_of_ble_eq_true rfl, Nat.le_of_ble_eq_true rfl⟩) hS (fun q _ h => (fun q h => hA q (Nat.le_trans hS.1 h)) q h) (fun q h => hA q (Nat.le_trans hS.1 h)) (fun r4 u_ t_ H locs ht_ hvm_ hr4 hB_ hz_ hk_ hS => ?_)
          have hP := fw_keep hP hk_
          have er4 := fw_R_bare hf hr4
          subst er4
          refine lv_iload_n hx hb dX0_askedCopies_222 rfl (lv_at hl 3 rfl) ?_
          refine lv_icmp_ne (tgt := 230) hx hb dX0_askedCopies_223 (by decide) (fun c_4 => ?_) (fun c_4 => ?_)
          · exact absurd rfl c_4
          · refine lv_iconst (v := 1) hx hb dX0_askedCopies_226 (by decide) ?_
            refine lv_goto (tgt := 231) hx hb dX0_askedCopies_227 (by decide) ?_
            refine W.widen (k := 13) (n := 24) (by first | omega | decide) (by first | omega | decide) ?_
            exact W.zret (v := 1) hx hb hr rfl (fun t ht hW => ⟨⟨1, (), rfl, rfl, trivial⟩, hS.F ht⟩) hS.2.2 dX0_askedCopies_231
      · exact absurd rfl c_2
    · exact absurd rfl c_1
  have loop : ∀ (n i : Nat) (x : Int32), i + n = 32 → fw_is o1 x i → ∀ ls : Array Slot, lv_has ls 8 [(7, .int (nI i)), (6, .int x), (5, .int o1), (4, .int e1), (3, .int (nI g)), (2, .int (nI f)), (1, .ref z), (0, .ref sb)] → W p l e (headSpec (ws_ yX0_askedCopies cX0_askedCopies 8 (some .boolean)) ({ frames := 5, cells := 13, slots := 24, locals := 115 })).room s m ([.ref sb] : List Value).toArray below meth c H [] (1) (0) (MQ below (va_Qi (fun (r : Int32) (_ : Unit) => r = 1) (fun _ _ => True) (fun q => s.heap.size ≤ q)) ([.ref sb] : List Value).toArray s 13 24 (fun q => s.heap.size ≤ q)) (F0 m 60 ls []) := by
    intro n
    induction n with
    | zero =>
      intro i x hi hI ls hl
      have hi : i = 32 := by omega
      subst hi
      refine lv_iload hx hb dX0_askedCopies_60 (lv_at hl 0 rfl) ?_
      refine lv_bipush (v := 32) hx hb dX0_askedCopies_62 (by decide) ?_
      refine lv_icmp_ge (tgt := 93) hx hb dX0_askedCopies_64 (by decide) (fun c_1 => ?_) (fun c_1 => ?_)
      · refine lv_iload hx hb dX0_askedCopies_93 (lv_at hl 1 rfl) ?_
        refine lv_if_ne (tgt := 128) hx hb dX0_askedCopies_95 (by decide) (fun c_2 => ?_) (fun c_2 => ?_)
        · refine W.widen (k := 5) (n := 8) (by decide) (by decide) ?_
          exact tail H _ hP hS ls (lv_sub hl [2, 3, 4, 5, 6, 7] rfl)
        · subst c_2
          have hno := fw_is_no hI
          refine lv_aload_n hx hb dX0_askedCopies_98 rfl (lv_at hl 6 rfl) ?_
          refine lv_iload_n hx hb dX0_askedCopies_99 rfl (lv_at hl 5 rfl) ?_
          refine vp_callSi (va_Run.run (va_runS (As := [.int (nI f)]) (rest := [.ref z]) ⟨hx, hb, hml, hown, hts⟩ (metX0_askedWord l f hf) (va_cwS 1 hts (lw_S q175 q176 q1 q177) rfl rfl rfl (by decide +kernel) ⟨Nat.le_of_ble_eq_true rfl, Nat.le_of_ble_eq_true rfl⟩) ⟨fun _ _ _ _ q => q, fun U hU hW => ⟨rfl, trivial⟩⟩ rfl rfl hl.1 rfl (lv_room (Nat.le_of_ble_eq_true rfl)) dX0_askedCopies_100 ⟨Nat.le_of_ble_eq_true rfl, Nat.le_of_ble_eq_true rfl⟩)) (fun w1 ew1 => ?_)
          subst ew1
          refine lv_iload hx hb dX0_askedCopies_103 (lv_at hl 2 rfl) ?_
          refine va_calli (va_runV (As := [.int (fw_t f), .int o1]) (rest := []) ⟨hx, hb, hml, hown, hts⟩ (metX1_read l D K H.size z (fw_t f) o1) (cwV 2 hts (lw_V q34 q35 q36 q2 q37) rfl rfl rfl (by decide +kernel) ⟨Nat.le_of_ble_eq_true rfl, Nat.le_of_ble_eq_true rfl⟩) ⟨fw_Pre.blind, va_recv hK hP (ci := 0) (q0 := 0) rfl rfl, fun U hU hW => ⟨rfl, fw_Pre.make hK hC hS hA hU hW.alike⟩⟩ rfl rfl hl.1 rfl (lv_room (Nat.le_of_ble_eq_true rfl)) dX0_askedCopies_105 ⟨Nat.le_of_ble_eq_true rfl, Nat.le_of_ble_eq_true rfl⟩) hS (fun q _ h => (fun q h => hA q (Nat.le_trans hS.1 h)) q h) (fun q h => hA q (Nat.le_trans hS.1 h)) (fun r1 u_ t_ H locs ht_ hvm_ hr1 hB_ hz_ hk_ hS => ?_)
          have hP := fw_keep hP hk_
          have er1 := fw_R_left hf hno hr1
          subst er1
          refine lv_iload_n hx hb dX0_askedCopies_108 rfl (lv_at hl 5 rfl) ?_
          refine lv_icmp_ne (tgt := 126) hx hb dX0_askedCopies_109 (by decide) (fun c_3 => ?_) (fun c_3 => ?_)
          · exact absurd rfl c_3
          · refine lv_aload_n hx hb dX0_askedCopies_112 rfl (lv_at hl 6 rfl) ?_
            refine lv_iload hx hb dX0_askedCopies_113 (lv_at hl 2 rfl) ?_
            refine lv_iload_n hx hb dX0_askedCopies_115 rfl (lv_at hl 5 rfl) ?_
            refine vp_callSi (va_Run.run (va_runS (As := [.int (nI f)]) (rest := [.int o1, .ref z]) ⟨hx, hb, hml, hown, hts⟩ (metX0_askedWord l f hf) (va_cwS 1 hts (lw_S q175 q176 q1 q177) rfl rfl rfl (by decide +kernel) ⟨Nat.le_of_ble_eq_true rfl, Nat.le_of_ble_eq_true rfl⟩) ⟨fun _ _ _ _ q => q, fun U hU hW => ⟨rfl, trivial⟩⟩ rfl rfl hl.1 rfl (lv_room (Nat.le_of_ble_eq_true rfl)) dX0_askedCopies_116 ⟨Nat.le_of_ble_eq_true rfl, Nat.le_of_ble_eq_true rfl⟩)) (fun w2 ew2 => ?_)
            subst ew2
            refine va_calli (va_runV (As := [.int o1, .int (fw_t f)]) (rest := []) ⟨hx, hb, hml, hown, hts⟩ (metX1_read l D K H.size z o1 (fw_t f)) (cwV 2 hts (lw_V q34 q35 q36 q2 q37) rfl rfl rfl (by decide +kernel) ⟨Nat.le_of_ble_eq_true rfl, Nat.le_of_ble_eq_true rfl⟩) ⟨fw_Pre.blind, va_recv hK hP (ci := 0) (q0 := 0) rfl rfl, fun U hU hW => ⟨rfl, fw_Pre.make hK hC hS hA hU hW.alike⟩⟩ rfl rfl hl.1 rfl (lv_room (Nat.le_of_ble_eq_true rfl)) dX0_askedCopies_119 ⟨Nat.le_of_ble_eq_true rfl, Nat.le_of_ble_eq_true rfl⟩) hS (fun q _ h => (fun q h => hA q (Nat.le_trans hS.1 h)) q h) (fun q h => hA q (Nat.le_trans hS.1 h)) (fun r2 u_ t_ H locs ht_ hvm_ hr2 hB_ hz_ hk_ hS => ?_)
            have hP := fw_keep hP hk_
            have er2 := fw_R_right hf hno hr2
            subst er2
            refine lv_iload_n hx hb dX0_askedCopies_122 rfl (lv_at hl 5 rfl) ?_
            refine lv_icmp_eq (tgt := 128) hx hb dX0_askedCopies_123 (by decide) (fun c_4 => ?_) (fun c_4 => ?_)
            · refine W.widen (k := 5) (n := 8) (by decide) (by decide) ?_
              exact tail H _ hP hS ls (lv_sub hl [2, 3, 4, 5, 6, 7] rfl)
            · exact absurd rfl c_4
      · exact absurd (show (32 : Int32) ≤ nI 32 from by decide) c_1
    | succ n ih =>
      intro i x hi hI ls hl
      have hi32 : i < 32 := by omega
      refine lv_iload hx hb dX0_askedCopies_60 (lv_at hl 0 rfl) ?_
      refine lv_bipush (v := 32) hx hb dX0_askedCopies_62 (by decide) ?_
      refine lv_icmp_ge (tgt := 93) hx hb dX0_askedCopies_64 (by decide) (fun c_1 => ?_) (fun c_1 => ?_)
      · exact absurd c_1 (nI_ge (b := 32) hi32 (by decide))
      · refine lv_iload hx hb dX0_askedCopies_67 (lv_at hl 1 rfl) ?_
        refine lv_iload hx hb dX0_askedCopies_69 (lv_at hl 0 rfl) ?_
        refine vp_callSi (va_Run.run (va_runS (As := [.int (nI i)]) (rest := [.int x]) ⟨hx, hb, hml, hown, hts⟩ (metX0_askedWord l i hi32) (va_cwS 1 hts (lw_S q175 q176 q1 q177) rfl rfl rfl (by decide +kernel) ⟨Nat.le_of_ble_eq_true rfl, Nat.le_of_ble_eq_true rfl⟩) ⟨fun _ _ _ _ q => q, fun U hU hW => ⟨rfl, trivial⟩⟩ rfl rfl hl.1 rfl (lv_room (Nat.le_of_ble_eq_true rfl)) dX0_askedCopies_71 ⟨Nat.le_of_ble_eq_true rfl, Nat.le_of_ble_eq_true rfl⟩)) (fun w1 ew1 => ?_)
        subst ew1
        refine lv_iload hx hb dX0_askedCopies_74 (lv_at hl 2 rfl) ?_
        refine lv_icmp_ne (tgt := 83) hx hb dX0_askedCopies_76 (by decide) (fun c_2 => ?_) (fun c_2 => ?_)
        · refine lv_iconst (v := 0) hx hb dX0_askedCopies_83 (by decide) ?_
          refine lv_ior hx hb dX0_askedCopies_84 ?_
          refine lv_istore (lv' := [(6, .int (x ||| (0 : Int32))), (7, .int (nI i)), (5, .int o1), (4, .int e1), (3, .int (nI g)), (2, .int (nI f)), (1, .ref z), (0, .ref sb)]) hx hb dX0_askedCopies_85 hl (by decide) rfl (fun ls hl => ?_)
          refine lv_iinc (v := nI (i + 1)) (lv' := [(7, .int (nI (i + 1))), (6, .int (x ||| (0 : Int32))), (5, .int o1), (4, .int e1), (3, .int (nI g)), (2, .int (nI f)), (1, .ref z), (0, .ref sb)]) hx hb dX0_askedCopies_87 hl (k := 1) rfl (nI_1 i) (by decide) rfl (fun ls hl => ?_)
          refine lv_goto (tgt := 60) hx hb dX0_askedCopies_90 (by decide) ?_
          exact ih (i + 1) (x ||| 0) (by omega) (fw_is_0 hI c_2) ls (lv_sub hl [0, 1, 2, 3, 4, 5, 6, 7] rfl)
        · refine lv_iconst (v := 1) hx hb dX0_askedCopies_79 (by decide) ?_
          refine lv_goto (tgt := 84) hx hb dX0_askedCopies_80 (by decide) ?_
          refine lv_ior hx hb dX0_askedCopies_84 ?_
          refine lv_istore (lv' := [(6, .int (x ||| (1 : Int32))), (7, .int (nI i)), (5, .int o1), (4, .int e1), (3, .int (nI g)), (2, .int (nI f)), (1, .ref z), (0, .ref sb)]) hx hb dX0_askedCopies_85 hl (by decide) rfl (fun ls hl => ?_)
          refine lv_iinc (v := nI (i + 1)) (lv' := [(7, .int (nI (i + 1))), (6, .int (x ||| (1 : Int32))), (5, .int o1), (4, .int e1), (3, .int (nI g)), (2, .int (nI f)), (1, .ref z), (0, .ref sb)]) hx hb dX0_askedCopies_87 hl (k := 1) rfl (nI_1 i) (by decide) rfl (fun ls hl => ?_)
          refine lv_goto (tgt := 60) hx hb dX0_askedCopies_90 (by decide) ?_
          exact ih (i + 1) (x ||| 1) (by omega) (fw_is_1 hI) ls (lv_sub hl [0, 1, 2, 3, 4, 5, 6, 7] rfl)
  exact loop 32 0 0 rfl (Or.inl ⟨rfl, fun j hj => absurd hj (Nat.not_lt_zero j)⟩) ls hl
end
section
-- ===== end of PART A; then your names; then what follows =====
/-! THE CLAIM OUT OF ONE WALK OF THE LAW'S BODY. Your part is whole_start (and what it stands on); all else here is the same for every law, but numbers. -/
def R_law : String := "FormatWordLaw"
def lw_P (b : Addr) (xs : List Int32) (args : Array Value) (s : State) : Prop := args = #[.ref b] ∧ s.IntsAt b xs ∧ xs.length ≤ 8 ∧ (Jvm.Cond.and given_1 narrow_1).before args s = true
def lw_Q (_ : Array Value) (s : State) (o : Outcome) (t : State) : Prop := o = .returned (some (.int 1)) ∧ Framed s o t [] 1200016 5502106
def lw_Z (below : List Frame) (a : Array Value) (s : State) : State → Prop := fun t => ∃ o, t.status = .running ∧ Ended t below o ∧ lw_Q a s o t
/-- the law's own end, with 1 on the stack, nothing written that was there before, its room as the claim has it -/
theorem lw_ret {p : Program} {l : Launch} {e : Env} {s : State} {m : MethodId} {below : List Frame} {meth : Method} {c : Code} {b : Nat} (hx : p.tables.exec = Jvm.exec) (hb : c.code = code) (hr : meth.sig.returnType = ret) (hlocks : meth.locks = false) {pc : Nat} {H : Heap} {ls : Array Slot} (hdg : decode code pc = .ok (.ireturn, 1)) : W p l e room_1 s m #[Value.ref b] below meth c H [] 1200016 5502106 (lw_Z below #[Value.ref b] s) (F0 m pc ls [.int 1]) := by
  intro T hT X
  obtain ⟨fs, hret, hrun, hended, hW, hframe⟩ := X.leave (v := some (.int 1)) (hlocks := hlocks) (fun h => by rw [hr] at h; cases h)
  have hmeth' : T.vm.method? m = some meth := X.method'
  refine ⟨T.setFrames fs, ?_, .returned (some (.int 1)), hrun, hended, rfl, ⟨_, rfl⟩, hW, hframe⟩
  jvm_step X.here [X.here.top, hx, hb, hdg, hmeth', hr, ret, narrow_b1]
  (try refine ⟨rfl, ?_⟩); (try refine ⟨rfl, ?_⟩)
  first | (intro acts; rw [hret _ acts rfl rfl rfl]) | rw [hret _ _ rfl rfl rfl]
  exact Steps.refl _
/-- what holds at the law's entry: the machine, the code, the tables' words (any of lw_tbl by 'hts w (by decide +kernel)'), the script of L ints xs at the cell b, what the Statement gives of the start (any of its parts by flat_of_before) -/
def lw_At (p : Program) (s : State) (m : MethodId) (meth : Method) (c : Code) (b L : Nat) (xs : Nat → Int32) : Prop :=
  p.tables.exec = Jvm.exec ∧ c.code = code ∧ meth.sig.returnType = ret ∧ c.maxLocals = 1 ∧ s.vm.findClass R_law = some m.cls ∧ (∀ w ∈ lw_tbl, w.before #[Value.ref b] s = true) ∧ va_X b L xs s s.heap ∧ b < s.heap.size ∧ meth.locks = false ∧ (Jvm.Cond.and given_1 narrow_1).before #[Value.ref b] s = true
-- ===== YOUR PART BEGINS =====
set_option maxHeartbeats 4000000 in
set_option maxRecDepth 100000 in
/-- YOUR PART: from the entry, for every script of at most 8 ints, the law comes to its end with true ('hflags': the launch's flags, for a law that throws: no stack traces) -/
theorem whole_start {p : Program} {e : Env} {s : State} {m : MethodId} {below : List Frame} {meth : Method} {c : Code} (l : Launch) (hflags : l.flags = flags0) {b L : Nat} {xs : Nat → Int32} (hL : L ≤ 8) (C0 : lw_At p s m meth c b L xs) : W p l e room_1 s m #[Value.ref b] below meth c s.heap [] 0 0 (lw_Z below #[Value.ref b] s) (entryFrame m ([Value.ref b] : List Value).toArray 1) := by
  obtain ⟨hx, hb, hr, hml, hown, hts0, hX, hbl, hlocks, hgv⟩ := id C0
  have hts : ∀ w ∈ lw_all, w.before #[Value.ref b] s = true := fun w h => hts0 w (lw_all_tbl h)
  have hA : ∀ q : Nat, s.heap.size ≤ q → (fun q : Nat => s.heap.size ≤ q) q := fun _ h => h
  have hbA : ¬ (fun q : Nat => s.heap.size ≤ q) b := Nat.not_le.mpr hbl
  obtain ⟨c0, iS0, hKn0⟩ := u_known (C := RX1) (T := TX1) (N := 0) (n := 0) hts0 (fun w h => lw_all_tbl (in_X1 w h)) (hts _ q16)
  obtain ⟨c1, iS1, hKn1⟩ := u_known (C := RX2) (T := TX2) (N := 2) (n := 2) hts0 (fun w h => lw_all_tbl (in_X2 w h)) (hts _ q48)
  obtain ⟨D, hKc⟩ : ∃ D : va_G, ∀ (k : Nat) (q : vw_C), fw_cl[k]? = some q → u_Kn s q.1 q.2.1 q.2.2 (D.1 k) (D.2 k) := by
    refine ⟨(fun k => if k = 0 then c0 else c1, fun k => if k = 0 then iS0 else iS1), ?_⟩
    intro k q hq
    match k, hq with
    | 0, hq => cases hq; exact hKn0
    | 1, hq => cases hq; exact hKn1
    | k + 2, hq => simp [fw_cl] at hq
  obtain ⟨K, hC⟩ := fw_start (A := fun q : Nat => s.heap.size ≤ q) hts0 hgv (fun a h => Nat.not_le.mpr h)
  have hS : va_S (fun q : Nat => s.heap.size ≤ q) s.heap s.heap [] := va_S.rf
  have hK : va_K D fw_cl [] s := ⟨hKc, fun k q h => by simp at h⟩
  have hl := lv_entry ([.ref b]) (n := 1) (Nat.le_of_ble_eq_true rfl)
  rw [lg_entry_eq]
  generalize (lg_sl ([.ref b]) ++ List.replicate (1 - (lg_sl ([.ref b])).length) Slot.unset).toArray = ls at hl ⊢
  have hl : lv_has ls 1 [(0, .ref b)] := hl
  refine lv_aload_n hx hb dL_law_0 rfl (lv_at hl 0 rfl) ?_
  refine va_calli (va_runS (As := [.ref b]) (rest := []) ⟨hx, hb, hml, hown, hts⟩ (metX0_elder l D K s.heap.size b L xs hL) (va_cwS 1 hts (lw_S q12 q13 q1 q14) rfl rfl rfl (by decide +kernel) ⟨Nat.le_of_ble_eq_true rfl, Nat.le_of_ble_eq_true rfl⟩) ⟨fw_PreX.blind, fun U hU hW => ⟨rfl, fw_PreX.make hK hC hX hbl hbA hS hA hU hW.alike⟩⟩ rfl rfl hl.1 rfl (lv_room (Nat.le_of_ble_eq_true rfl)) dL_law_1 ⟨Nat.le_of_ble_eq_true rfl, Nat.le_of_ble_eq_true rfl⟩) hS (fun q _ h => (fun q h => hA q (Nat.le_trans hS.1 h)) q h) (fun q h => hA q (Nat.le_trans hS.1 h)) (fun r1 u_ t_ H locs ht_ hvm_ er1 hB_ hz_ hk_ hS => ?_)
  subst er1
  refine lv_if_eq (tgt := 38) hx hb dL_law_4 (by decide) (fun c_r1 => ?_) (fun c_r1 => ?_)
  · exact absurd c_r1 (by decide)
  · refine lv_aload_n hx hb dL_law_7 rfl (lv_at hl 0 rfl) ?_
    refine va_calli (va_runS (As := [.ref b]) (rest := []) ⟨hx, hb, hml, hown, hts⟩ (metX0_askedApart l D K H.size b L xs hL) (va_cwS 1 hts (lw_S q152 q153 q1 q154) rfl rfl rfl (by decide +kernel) ⟨Nat.le_of_ble_eq_true rfl, Nat.le_of_ble_eq_true rfl⟩) ⟨fw_PreX.blind, fun U hU hW => ⟨rfl, fw_PreX.make hK hC hX hbl hbA hS hA hU hW.alike⟩⟩ rfl rfl hl.1 rfl (lv_room (Nat.le_of_ble_eq_true rfl)) dL_law_8 ⟨Nat.le_of_ble_eq_true rfl, Nat.le_of_ble_eq_true rfl⟩) hS (fun q _ h => (fun q h => hA q (Nat.le_trans hS.1 h)) q h) (fun q h => hA q (Nat.le_trans hS.1 h)) (fun r2 u_ t_ H locs ht_ hvm_ er2 hB_ hz_ hk_ hS => ?_)
    subst er2
    refine lv_if_eq (tgt := 38) hx hb dL_law_11 (by decide) (fun c_r2 => ?_) (fun c_r2 => ?_)
    · exact absurd c_r2 (by decide)
    · refine va_calli (va_runS (As := []) (rest := []) ⟨hx, hb, hml, hown, hts⟩ (metX0_askedPublished l D K H.size) (va_cwS 0 hts (lw_S q162 q163 q1 q164) rfl rfl rfl (by decide +kernel) ⟨Nat.le_of_ble_eq_true rfl, Nat.le_of_ble_eq_true rfl⟩) ⟨fw_Pre.blind, fun U hU hW => ⟨rfl, fw_Pre.make hK hC hS hA hU hW.alike⟩⟩ rfl rfl hl.1 rfl (lv_room (Nat.le_of_ble_eq_true rfl)) dL_law_14 ⟨Nat.le_of_ble_eq_true rfl, Nat.le_of_ble_eq_true rfl⟩) hS (fun q _ h => (fun q h => hA q (Nat.le_trans hS.1 h)) q h) (fun q h => hA q (Nat.le_trans hS.1 h)) (fun r3 u_ t_ H locs ht_ hvm_ er3 hB_ hz_ hk_ hS => ?_)
      subst er3
      refine lv_if_eq (tgt := 38) hx hb dL_law_17 (by decide) (fun c_r3 => ?_) (fun c_r3 => ?_)
      · exact absurd c_r3 (by decide)
      · refine lv_aload_n hx hb dL_law_20 rfl (lv_at hl 0 rfl) ?_
        refine va_calli (va_runS (As := [.ref b]) (rest := []) ⟨hx, hb, hml, hown, hts⟩ (metX0_askedNearest l D K H.size b L xs hL) (va_cwS 1 hts (lw_S q166 q167 q1 q168) rfl rfl rfl (by decide +kernel) ⟨Nat.le_of_ble_eq_true rfl, Nat.le_of_ble_eq_true rfl⟩) ⟨fw_PreX.blind, fun U hU hW => ⟨rfl, fw_PreX.make hK hC hX hbl hbA hS hA hU hW.alike⟩⟩ rfl rfl hl.1 rfl (lv_room (Nat.le_of_ble_eq_true rfl)) dL_law_21 ⟨Nat.le_of_ble_eq_true rfl, Nat.le_of_ble_eq_true rfl⟩) hS (fun q _ h => (fun q h => hA q (Nat.le_trans hS.1 h)) q h) (fun q h => hA q (Nat.le_trans hS.1 h)) (fun r4 u_ t_ H locs ht_ hvm_ er4 hB_ hz_ hk_ hS => ?_)
        subst er4
        refine lv_if_eq (tgt := 38) hx hb dL_law_24 (by decide) (fun c_r4 => ?_) (fun c_r4 => ?_)
        · exact absurd c_r4 (by decide)
        · refine lv_aload_n hx hb dL_law_27 rfl (lv_at hl 0 rfl) ?_
          refine va_calli (va_runS (As := [.ref b]) (rest := []) ⟨hx, hb, hml, hown, hts⟩ (metX0_askedCopies l D K H.size b L xs hL) (va_cwS 1 hts (lw_S q181 q182 q1 q183) rfl rfl rfl (by decide +kernel) ⟨Nat.le_of_ble_eq_true rfl, Nat.le_of_ble_eq_true rfl⟩) ⟨fw_PreX.blind, fun U hU hW => ⟨rfl, fw_PreX.make hK hC hX hbl hbA hS hA hU hW.alike⟩⟩ rfl rfl hl.1 rfl (lv_room (Nat.le_of_ble_eq_true rfl)) dL_law_28 ⟨Nat.le_of_ble_eq_true rfl, Nat.le_of_ble_eq_true rfl⟩) hS (fun q _ h => (fun q h => hA q (Nat.le_trans hS.1 h)) q h) (fun q h => hA q (Nat.le_trans hS.1 h)) (fun r5 u_ t_ H locs ht_ hvm_ er5 hB_ hz_ hk_ hS => ?_)
          subst er5
          refine lv_if_eq (tgt := 38) hx hb dL_law_31 (by decide) (fun c_r5 => ?_) (fun c_r5 => ?_)
          · exact absurd c_r5 (by decide)
          · refine lv_iconst (v := 1) hx hb dL_law_34 (by decide) ?_
            refine lv_goto (tgt := 39) hx hb dL_law_35 (by decide) ?_
            refine va_forget (fun q hq => hS.2.2 q hq) ?_
            refine W.widen (k := 1200016) (n := 5502106) (Nat.le_of_ble_eq_true rfl) (Nat.le_of_ble_eq_true rfl) ?_
            exact lw_ret hx hb hr hlocks dL_law_39
-- ===== YOUR PART ENDS =====
set_option maxHeartbeats 4000000 in
theorem lw_walk (l : Launch) (hflags : l.flags = flags0) (b : Addr) (xs : List Int32) : MetFree l x (headSpec (Jvm.Cond.code x code maxLocals ret :: tables_1) room_1) (lw_P b xs) (fun _ _ _ _ _ => True) lw_Q := by
  refine MetFree.of_bodyS (code := code) (maxLocals := maxLocals) (ret := ret) (by decide) ?_ ?_
  · intro args s m h hn
    obtain ⟨meth, c, h1, h2, h3, h4, h5, h6, -, -⟩ := Cond.code_spec hn (atoms_spec (ws := Jvm.Cond.code x code maxLocals ret :: tables_1) h _ List.mem_cons_self)
    exact ⟨meth, c, h1, h2, h3, h4, h5, h6⟩
  · intro p e s m args below meth c s₁ B hml0 hP _
    obtain ⟨rfl, hx, hbd, hgv⟩ := hP
    obtain ⟨scr, harrAt, hlist, hof, hsmall⟩ := hx
    obtain ⟨hcb, hkn, -, -⟩ := State.arrayAt?_spec harrAt
    have hown : s.vm.findClass R_law = some m.cls := findClass_of_methodNamed B.named
    have hts0 : ∀ c ∈ (Jvm.Cond.code x code maxLocals ret :: tables_1), c.before #[Value.ref b] s = true := atoms_spec (ws := Jvm.Cond.code x code maxLocals ret :: tables_1) B.pre
    have hts : ∀ w ∈ lw_tbl, w.before #[Value.ref b] s = true := k2_hts_sels lw_privs (fun w hw => hts0 w (List.mem_cons_of_mem _ hw)) lw_privs_ok
    have hml : c.maxLocals = 1 := B.maxLocals_eq (hts0 _ List.mem_cons_self)
    have X₀ : Stand p l e room_1 s m #[Value.ref b] below meth c s₁ [] 0 0 := Stand.of_body B
    have hh0 : s₁.heap = s.heap := by rw [B.state]; rfl
    have hsz : scr.slots.size = xs.length := by rw [← Array.length_toList, hlist, List.length_map]
    have hval : ∀ j : Nat, j < xs.length → scr.slots[j]? = some (.int (xs.getD j 0)) := fun j hj => by
      rw [← Array.getElem?_toList, hlist]
      simp [hj]
    have hbl : b < s.heap.size := (Array.getElem?_eq_some_iff.mp hcb).1
    have hX : va_X b xs.length (fun j => xs.getD j 0) s s.heap := ⟨scr, hcb, hof, hkn, hsz, hval⟩
    have K : W p l e room_1 s m #[Value.ref b] below meth c s₁.heap [] 0 0 (lw_Z below #[Value.ref b] s) (entryFrame m ([Value.ref b] : List Value).toArray 1) := by
      rw [hh0]
      exact whole_start l hflags hbd ⟨B.exec, B.bytes, B.returns, hml, hown, hts, hX, hbl, B.notSynchronized, hgv⟩
    obtain ⟨t, a1, o, b1, b2, b3⟩ := K s₁ rfl X₀
    exact ⟨t, o, a1, b1, b2, b3⟩
theorem lw_pre_spec {args : Array Value} {s : State} (h : (Jvm.Cond.and given_1 narrow_1).before args s = true) (hr : rest_1_c.before args s = true) : ∃ (b : Addr) (xs : List Int32), lw_P b xs args s := by
  have hs := flat_of_before _ h
  have hq := flat_of_before _ hr
  have hc : (Cond.count 1).before args s = true := hs _ (by decide +kernel)
  have harr : (Cond.arrayOf (.arg 0) .int).before args s = true := hs _ (by decide +kernel)
  have hle : (Cond.le (.length (.arg 0)) (.int 8)).before args s = true := hs _ (by decide +kernel)
  have hlen : (Cond.isInt (.length (.arg 0))).before args s = true := hq _ (by decide +kernel)
  have hall : (Cond.all (.arg 0) (.isInt (.elem (.arg 0) (.index 0)))).before args s = true := hq _ (by decide +kernel)
  obtain ⟨b, xs, hb, hx⟩ := State.ints_of_pre rfl harr hlen hall
  have hsm : xs.length < 2 ^ 31 := hx.choose_spec.2.2.2
  have hev : (Term.length (.arg 0)).eval args s none [] s = some (.int xs.length.toInt32) := hx.length_eval hb
  have hv := Cond.le_ints hev (show (Term.int 8).eval args s none [] s = some (.int 8) from rfl)
  have hd : xs.length.toInt32 ≤ 8 := by
    simpa [Cond.before, Cond.holds, hv] using hle
  have hN : xs.length ≤ 8 := (Int32.ofNat_le_ofNat hsm (by decide)).mp (show Int32.ofNat xs.length ≤ Int32.ofNat 8 from hd)
  exact ⟨b, xs, Cond.one_arg hc (show args[0]? = some (.ref b) from hb), hx, hN, h⟩
theorem lw_comes (l : Launch) (hflags : l.flags = flags0) : Comes l x (Jvm.Cond.code x code maxLocals ret :: tables_1) room_1 (fun tb e args s => Calls_1 tb e args s ∧ rest_1 tb e args s ∧ Pre_1 tb e args s)
    (fun _ _ args s o t => lw_Q args s o t) := by
  intro p e ha hc hk s m args below hf hfit hheap happ hpre
  obtain ⟨b, xs, hP⟩ := lw_pre_spec hpre.2.2 hpre.2.1
  obtain ⟨k, o, h1, h2, h3, hQ⟩ := lw_walk l hflags b xs p e ha hc hk s m args below hf ((Spec.applies_iff_loose hf).mp happ).1 hP trivial
  exact ⟨k, o, h1, h2, h3, hQ⟩
theorem lw_frame {s t : State} {o : Outcome} {args : Array Value} (h : Framed s o t [] 1200016 5502106) :
    Framed s o t (fieldLocs frame_1_writes args s ++ arrayLocs frame_1_arrays args s ++ staticLocs frame_1_statics s) 1200016 5502106 := h
theorem lw_limb (L : Cond) (hL : ∀ (args : Array Value) (s t : State), L.after args s (.returned (some (.int 1))) t = true) :
    ArmFor flags0 classFile x code maxLocals ret World_1 tables_1 room_1 Calls_1 rest_1 Pre_1
      (fun tb e a s o t => postC L tb e a s o t ∧ Framed s o t (fieldLocs frame_1_writes a s ++ arrayLocs frame_1_arrays a s ++ staticLocs frame_1_statics s) 1200016 5502106) := by
  intro l hflags _ _ p e ha hc hk s m args below hf hfit hheap happ hpre
  obtain ⟨k, o, h1, h2, h3, rfl, hF⟩ := lw_comes l hflags p e ha hc hk s m args below hf hfit hheap happ hpre
  exact ⟨k, _, h1, h2, h3, hL args s _, lw_frame hF⟩
theorem i_vc : Claimed_1_1 ∧ Claimed_1_2 := ⟨lw_limb limb_1_1 (fun args s t => by simp [limb_1_1, Cond.after, Cond.holds, Cond.value]), lw_limb limb_1_2 (fun args s t => Cond.after_iff.mpr (by
  first | (rw [show limb_1_2 = Cond.eq .result (.int 1) from rfl, Cond.eq_ints (x := 1) (y := 1) rfl rfl]; simp; done) | (simp [limb_1_2, Cond.value, Term.eval]; done)))⟩
end
