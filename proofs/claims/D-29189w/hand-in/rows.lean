section
-- ===== PART A: goes FIRST, ahead of the names: the tables' words, and 'selects' of the private methods out of them =====
/-- a private method of a class that the tables say can be made, by its rows of tables_1 -/
def lw_okq (q : MethodName × Nat) : Prop := (q.1.cls ≠ "java/lang/invoke/MethodHandle" ∧ q.1.cls ≠ "java/lang/invoke/VarHandle") ∧ Cond.instantiable q.1.cls q.2 ∈ tables_1 ∧ Cond.privateMethod q.1 ∈ tables_1 ∧ Cond.instanceMethod q.1 ∈ tables_1
set_option maxRecDepth 100000
theorem lw_t1 {w : Cond} (h : w ∈ tables_1_1) : w ∈ tables_1 := List.mem_append_left _ h
theorem lw_t2 {w : Cond} (h : w ∈ tables_1_2) : w ∈ tables_1 := List.mem_append_right _ h
theorem lw_p0 : lw_okq (⟨"java/lang/Throwable", "fillInStackTrace", "(I)Ljava/lang/Throwable;"⟩, 6) := ⟨⟨by decide +kernel, by decide +kernel⟩, lw_t1 (List.mem_of_getElem? (i := 171) rfl), lw_t1 (List.mem_of_getElem? (i := 169) rfl), lw_t1 (List.mem_of_getElem? (i := 170) rfl)⟩
def lw_privs_1 : List (MethodName × Nat) := [(⟨"java/lang/Throwable", "fillInStackTrace", "(I)Ljava/lang/Throwable;"⟩, 6)]
theorem lw_r1 : ∀ q ∈ lw_privs_1, lw_okq q := List.forall_mem_cons.mpr ⟨lw_p0, fun _ h => absurd h List.not_mem_nil⟩
def lw_privs : List (MethodName × Nat) := lw_privs_1
/-- the private methods of AbstractStringBuilder that a StringBuilder is asked for -/
def pd_sels : List Cond := [Cond.selects "java/lang/StringBuilder" ⟨"java/lang/AbstractStringBuilder", "ensureCapacityInternal", "(I)V"⟩ ⟨"java/lang/AbstractStringBuilder", "ensureCapacityInternal", "(I)V"⟩, Cond.selects "java/lang/StringBuilder" ⟨"java/lang/AbstractStringBuilder", "inflate", "()V"⟩ ⟨"java/lang/AbstractStringBuilder", "inflate", "()V"⟩]
def lw_tbl : List Cond := (k2_sels lw_privs ++ tables_1) ++ pd_sels
theorem lw_privs_ok : ∀ q ∈ lw_privs, lw_okq q := lw_r1
-- ===== ONE list of words for every method: the tables' words that hold all through a run =====
def lw_all : List Cond := lw_tbl.filter goodWord
/-- a word of the tables by its place: claim/WORDS.tsv -/
theorem lw_w {w : Cond} (i : Nat) (h : lw_tbl[i]? = some w) (g : goodWord w = true) : w ∈ lw_all := List.mem_filter.mpr ⟨List.mem_of_getElem? h, g⟩
theorem lw_all_tbl {w : Cond} (h : w ∈ lw_all) : w ∈ lw_tbl := (List.mem_filter.mp h).1
theorem lw_self : GoodIn lw_all lw_all := fun w h => ⟨h, good_of_word (List.mem_filter.mp h).2⟩
/-- a class's field words, by their places -/
theorem lw_in (ws : List Cond) (ps : List Nat) (hp : ws = ps.filterMap (fun i => lw_tbl[i]?)) (hg : ws.all goodWord = true) : ∀ w ∈ ws, w ∈ lw_all := by
  intro w h
  have h1 := List.all_eq_true.mp hg w h
  rw [hp] at h
  obtain ⟨i, -, hi⟩ := List.mem_filterMap.mp h
  exact lw_w i hi h1
/-- the words of a contract for the method y with code b, L locals, answer r -/
abbrev ws_ (y : MethodName) (b : ByteArray) (L : Nat) (r : Option FieldType) : List Cond := Cond.code y b L r :: lw_all
theorem lw_meth {y : MethodName} {b : ByteArray} {L : Nat} {r : Option FieldType} (h : Cond.code y b L r ∈ lw_all) : GoodIn lw_all (ws_ y b L r) := by
  intro w hw
  rcases List.mem_cons.mp hw with e | e
  · rw [e]
    exact lw_self _ h
  · exact lw_self _ e
theorem lw_app {a c : List Cond} (ha : ∀ w ∈ a, w ∈ lw_all) (hc : GoodIn lw_all c) : GoodIn lw_all (a ++ c) := by
  intro w hw
  rcases List.mem_append.mp hw with e | e
  · exact lw_self w (ha w e)
  · exact hc w e
/-- what a call through an object asks: cwV n hts (lw_V ..) -/
theorem lw_V {own : String} {idx : Nat} {C : String} {y : MethodName} {b : ByteArray} {L : Nat} {r : Option FieldType} (h1 : Cond.methodLink own idx y ∈ lw_all) (h2 : Cond.instanceMethod y ∈ lw_all) (h3 : Cond.selects C y y ∈ lw_all) (h4 : Cond.initialized C ∈ lw_all) (h5 : Cond.code y b L r ∈ lw_all) : GoodIn lw_all (wsV own idx C y (ws_ y b L r)) := by
  refine lw_app ?_ (lw_meth h5)
  intro w hw
  simp only [List.mem_cons, List.not_mem_nil, or_false] at hw
  rcases hw with e | e | e | e
  · rw [e]; exact h1
  · rw [e]; exact h2
  · rw [e]; exact h3
  · rw [e]; exact h4
/-- what a static call asks: va_cwS n hts (lw_S ..) -/
theorem lw_S {own : String} {idx : Nat} {y : MethodName} {b : ByteArray} {L : Nat} {r : Option FieldType} (h1 : Cond.methodLink own idx y ∈ lw_all) (h2 : Cond.static y ∈ lw_all) (h3 : Cond.initialized y.cls ∈ lw_all) (h4 : Cond.code y b L r ∈ lw_all) : GoodIn lw_all (va_wsS own idx y (ws_ y b L r)) := by
  refine lw_app ?_ (lw_meth h4)
  intro w hw
  simp only [List.mem_cons, List.not_mem_nil, or_false] at hw
  rcases hw with e | e | e
  · rw [e]; exact h1
  · rw [e]; exact h2
  · rw [e]; exact h3
/-- the words of a contract for a method WITH HANDLERS (hh: its table) -/
abbrev wsW_ (y : MethodName) (b : ByteArray) (L : Nat) (r : Option FieldType) (hh : List (Nat × Nat × Nat × Nat)) : List Cond := Cond.codeWith y b L r hh :: lw_all
theorem lw_methW {y : MethodName} {b : ByteArray} {L : Nat} {r : Option FieldType} {hh : List (Nat × Nat × Nat × Nat)} (h : Cond.codeWith y b L r hh ∈ lw_all) : GoodIn lw_all (wsW_ y b L r hh) := by
  intro w hw
  rcases List.mem_cons.mp hw with e | e
  · rw [e]
    exact lw_self _ h
  · exact lw_self _ e
/-- any list of words by their places (lw_in), good -/
theorem lw_good {ws : List Cond} (h : ∀ w ∈ ws, w ∈ lw_all) : GoodIn lw_all ws := fun w hw => lw_self w (h w hw)
/-- what a call of a method with handlers asks: vx_cwVW n hts (lw_VW ..), vx_cwSW n hts (lw_SW ..) -/
theorem lw_VW {own : String} {idx : Nat} {C : String} {y : MethodName} {b : ByteArray} {L : Nat} {r : Option FieldType} {hh : List (Nat × Nat × Nat × Nat)} (h1 : Cond.methodLink own idx y ∈ lw_all) (h2 : Cond.instanceMethod y ∈ lw_all) (h3 : Cond.selects C y y ∈ lw_all) (h4 : Cond.initialized C ∈ lw_all) (h5 : Cond.codeWith y b L r hh ∈ lw_all) : GoodIn lw_all (wsV own idx C y (wsW_ y b L r hh)) := by
  refine lw_app ?_ (lw_methW h5)
  intro w hw
  simp only [List.mem_cons, List.not_mem_nil, or_false] at hw
  rcases hw with e | e | e | e
  · rw [e]; exact h1
  · rw [e]; exact h2
  · rw [e]; exact h3
  · rw [e]; exact h4
theorem lw_SW {own : String} {idx : Nat} {y : MethodName} {b : ByteArray} {L : Nat} {r : Option FieldType} {hh : List (Nat × Nat × Nat × Nat)} (h1 : Cond.methodLink own idx y ∈ lw_all) (h2 : Cond.static y ∈ lw_all) (h3 : Cond.initialized y.cls ∈ lw_all) (h4 : Cond.codeWith y b L r hh ∈ lw_all) : GoodIn lw_all (va_wsS own idx y (wsW_ y b L r hh)) := by
  refine lw_app ?_ (lw_methW h4)
  intro w hw
  simp only [List.mem_cons, List.not_mem_nil, or_false] at hw
  rcases hw with e | e | e
  · rw [e]; exact h1
  · rw [e]; exact h2
  · rw [e]; exact h3
/-- a word by its place in its run of the tables -/
theorem lw_at {r : List Cond} (hr : ∀ w ∈ r, w ∈ lw_tbl) {w : Cond} (i : Nat) (h : r[i]? = some w) : w ∈ lw_tbl := hr w (List.mem_of_getElem? h)
theorem lw_g {w : Cond} (h : w ∈ lw_tbl) (g : goodWord w = true) : w ∈ lw_all := List.mem_filter.mpr ⟨h, g⟩
theorem lw_ms : ∀ w ∈ k2_sels lw_privs, w ∈ lw_tbl := fun w h => show w ∈ (k2_sels lw_privs ++ tables_1) ++ pd_sels from List.mem_append_left _ (List.mem_append_left _ h)
theorem lw_m1 : ∀ w ∈ tables_1_1, w ∈ lw_tbl := fun w h => show w ∈ (k2_sels lw_privs ++ tables_1) ++ pd_sels from List.mem_append_left _ (List.mem_append_right (k2_sels lw_privs) (show w ∈ tables_1 from List.mem_append_left _ h))
theorem lw_m2 : ∀ w ∈ tables_1_2, w ∈ lw_tbl := fun w h => show w ∈ (k2_sels lw_privs ++ tables_1) ++ pd_sels from List.mem_append_left _ (List.mem_append_right (k2_sels lw_privs) (show w ∈ tables_1 from List.mem_append_right _ h))
theorem qs0 : (Cond.selects "java/lang/Throwable" ⟨"java/lang/Throwable", "fillInStackTrace", "(I)Ljava/lang/Throwable;"⟩ ⟨"java/lang/Throwable", "fillInStackTrace", "(I)Ljava/lang/Throwable;"⟩) ∈ lw_all := lw_g (lw_at lw_ms 0 rfl) rfl
theorem lw_mp : ∀ w ∈ pd_sels, w ∈ lw_tbl := fun w h => show w ∈ (k2_sels lw_privs ++ tables_1) ++ pd_sels from List.mem_append_right _ h
theorem qp0 : (Cond.selects "java/lang/StringBuilder" ⟨"java/lang/AbstractStringBuilder", "ensureCapacityInternal", "(I)V"⟩ ⟨"java/lang/AbstractStringBuilder", "ensureCapacityInternal", "(I)V"⟩) ∈ lw_all := lw_g (lw_at lw_mp 0 rfl) rfl
theorem qp1 : (Cond.selects "java/lang/StringBuilder" ⟨"java/lang/AbstractStringBuilder", "inflate", "()V"⟩ ⟨"java/lang/AbstractStringBuilder", "inflate", "()V"⟩) ∈ lw_all := lw_g (lw_at lw_mp 1 rfl) rfl
/-- a private method is what is run, whatever the receiver's class -/
theorem pd_selp {C : String} {x y z : MethodName} {s : State} {args : Array Value} (hy : y.cls ≠ "java/lang/invoke/MethodHandle" ∧ y.cls ≠ "java/lang/invoke/VarHandle") (hz : z.cls = y.cls)
    (hsel : (Cond.selects C x z).before args s = true) (hpriv : (Cond.privateMethod y).before args s = true) (hinst : (Cond.instanceMethod y).before args s = true) : (Cond.selects C y y).before args s = true := by
  obtain ⟨c2, r2, m2, q1, q2, q3, q4, kP, hkP, hkPi⟩ := Cond.selects_spec hsel
  obtain ⟨mk, methM, hnamed, hmethM, -, -⟩ := Cond.instanceMethod_spec hinst
  have hfound : s.methodFound? y.cls y.name y.desc = some mk := State.methodFound?_of_named hnamed hy
  have hcls : mk.cls = m2.cls := Option.some.inj ((findClass_of_methodNamed hnamed).symm.trans (by rw [← hz]; exact findClass_of_methodNamed q3))
  have hs : selectMethod {} s.vm c2 mk = .method mk := selectMethod_private hmethM (Cond.privateMethod_at hpriv mk methM hnamed hmethM)
  simp only [Cond.before, Cond.holds, Cond.value, q1, hfound, hnamed, hs, hcls, hkP]
  simp; exact hkPi
theorem pd_hts {args : Array Value} {s : State} (h : ∀ w ∈ k2_sels lw_privs ++ tables_1, w.before args s = true) : ∀ w ∈ lw_tbl, w.before args s = true := by
  intro w hw
  rcases List.mem_append.mp (show w ∈ (k2_sels lw_privs ++ tables_1) ++ pd_sels from hw) with hw | hw
  · exact h w hw
  · have hL : (Cond.selects "java/lang/StringBuilder" ⟨"java/lang/AbstractStringBuilder", "isLatin1", "()Z"⟩ ⟨"java/lang/AbstractStringBuilder", "isLatin1", "()Z"⟩).before args s = true := h _ (List.mem_append_right _ (lw_t2 (List.mem_of_getElem? (i := 93) rfl)))
    have hp1 : (Cond.privateMethod ⟨"java/lang/AbstractStringBuilder", "ensureCapacityInternal", "(I)V"⟩).before args s = true := h _ (List.mem_append_right _ (lw_t2 (List.mem_of_getElem? (i := 58) rfl)))
    have hi1 : (Cond.instanceMethod ⟨"java/lang/AbstractStringBuilder", "ensureCapacityInternal", "(I)V"⟩).before args s = true := h _ (List.mem_append_right _ (lw_t2 (List.mem_of_getElem? (i := 59) rfl)))
    have hp2 : (Cond.privateMethod ⟨"java/lang/AbstractStringBuilder", "inflate", "()V"⟩).before args s = true := h _ (List.mem_append_right _ (lw_t2 (List.mem_of_getElem? (i := 99) rfl)))
    have hi2 : (Cond.instanceMethod ⟨"java/lang/AbstractStringBuilder", "inflate", "()V"⟩).before args s = true := h _ (List.mem_append_right _ (lw_t2 (List.mem_of_getElem? (i := 100) rfl)))
    simp only [pd_sels, List.mem_cons, List.not_mem_nil, or_false] at hw
    rcases hw with e | e
    · rw [e]
      exact pd_selp (x := ⟨"java/lang/AbstractStringBuilder", "isLatin1", "()Z"⟩) (z := ⟨"java/lang/AbstractStringBuilder", "isLatin1", "()Z"⟩) ⟨by decide, by decide⟩ rfl hL hp1 hi1
    · rw [e]
      exact pd_selp (x := ⟨"java/lang/AbstractStringBuilder", "isLatin1", "()Z"⟩) (z := ⟨"java/lang/AbstractStringBuilder", "isLatin1", "()Z"⟩) ⟨by decide, by decide⟩ rfl hL hp2 hi2
/-- what an inherited, overridden, super or interface call asks, in the one list -/
theorem lw_U {own : String} {idx : Nat} {C owner : String} {x y : MethodName} {b : ByteArray} {L : Nat} {r : Option FieldType} (h1 : Cond.methodLink own idx x ∈ lw_all) (h2 : Cond.sameMethod x.cls owner x.name x.desc ∈ lw_all) (h3 : Cond.selects C x y ∈ lw_all) (h4 : Cond.instanceMethod y ∈ lw_all) (h5 : Cond.initialized y.cls ∈ lw_all) (h6 : Cond.code y b L r ∈ lw_all) : GoodIn lw_all (va_wsU own idx C owner x y (ws_ y b L r)) := by
  refine lw_app ?_ (lw_meth h6)
  intro w hw
  simp only [List.mem_cons, List.not_mem_nil, or_false] at hw
  rcases hw with e | e | e | e | e
  · rw [e]; exact h1
  · rw [e]; exact h2
  · rw [e]; exact h3
  · rw [e]; exact h4
  · rw [e]; exact h5
theorem lw_O {own : String} {idx : Nat} {C owner : String} {x y : MethodName} {b : ByteArray} {L : Nat} {r : Option FieldType} (h1 : Cond.methodLink own idx x ∈ lw_all) (h2 : Cond.sameMethod x.cls owner x.name x.desc ∈ lw_all) (h0 : Cond.instanceMethod ⟨owner, x.name, x.desc⟩ ∈ lw_all) (h3 : Cond.selects C x y ∈ lw_all) (h4 : Cond.instanceMethod y ∈ lw_all) (h5 : Cond.initialized y.cls ∈ lw_all) (h6 : Cond.code y b L r ∈ lw_all) : GoodIn lw_all (va_wsO own idx C owner x y (ws_ y b L r)) := by
  refine lw_app ?_ (lw_meth h6)
  intro w hw
  simp only [List.mem_cons, List.not_mem_nil, or_false] at hw
  rcases hw with e | e | e | e | e | e
  · rw [e]; exact h1
  · rw [e]; exact h2
  · rw [e]; exact h0
  · rw [e]; exact h3
  · rw [e]; exact h4
  · rw [e]; exact h5
theorem lw_SU {own : String} {idx : Nat} {y : MethodName} {b : ByteArray} {L : Nat} {r : Option FieldType} (h1 : Cond.methodLink own idx y ∈ lw_all) (h2 : Cond.sameMethod y.cls y.cls y.name y.desc ∈ lw_all) (h3 : Cond.superclass own y.cls ∈ lw_all) (h4 : Cond.instanceMethod y ∈ lw_all) (h5 : Cond.initialized y.cls ∈ lw_all) (h6 : Cond.code y b L r ∈ lw_all) : GoodIn lw_all (va_wsSU own idx y (ws_ y b L r)) := by
  refine lw_app ?_ (lw_meth h6)
  intro w hw
  simp only [List.mem_cons, List.not_mem_nil, or_false] at hw
  rcases hw with e | e | e | e | e
  · rw [e]; exact h1
  · rw [e]; exact h2
  · rw [e]; exact h3
  · rw [e]; exact h4
  · rw [e]; exact h5
theorem lw_F {own : String} {idx : Nat} {C : String} {x y : MethodName} {b : ByteArray} {L : Nat} {r : Option FieldType} (h1 : Cond.methodLink own idx x ∈ lw_all) (h2 : Cond.selects C x y ∈ lw_all) (h3 : Cond.instanceMethod y ∈ lw_all) (h4 : Cond.initialized y.cls ∈ lw_all) (h5 : Cond.code y b L r ∈ lw_all) : GoodIn lw_all (va_wsF own idx C x y (ws_ y b L r)) := by
  refine lw_app ?_ (lw_meth h5)
  intro w hw
  simp only [List.mem_cons, List.not_mem_nil, or_false] at hw
  rcases hw with e | e | e | e
  · rw [e]; exact h1
  · rw [e]; exact h2
  · rw [e]; exact h3
  · rw [e]; exact h4
/-! DECODE ROWS BY BYTES: one lemma an opcode; a method's code is cut into short pieces once, and a row reads its own piece alone. -/
set_option maxRecDepth 100000
/-- the code has just these bytes from pc on -/
def DkAt (code : ByteArray) (pc : Nat) (bs : List UInt8) : Prop := ∀ (j : Nat) (b : UInt8), bs[j]? = some b → code.data.toList[pc + j]? = some b
/-- the piece W has the bytes bs from its place j on -/
def dkIn (W : List UInt8) (j : Nat) (bs : List UInt8) : Bool := decide ((W.drop j).take bs.length = bs)
theorem dk_seg {l W T : List UInt8} {o o2 : Nat} (h : l.drop o = W ++ T) (n : Nat) (hn : W.length = n) (ho : o + n = o2) : l.drop o2 = T := by
  subst ho
  rw [← List.drop_drop, h, List.drop_left' hn]
theorem dk_at {code : ByteArray} {W T bs : List UInt8} {o pc : Nat} (h : code.data.toList.drop o = W ++ T) (j : Nat) (hp : o + j = pc) (hw : dkIn W j bs = true) : DkAt code pc bs := by
  subst hp
  intro i b e
  have h1 := of_decide_eq_true hw
  have h2 : i < bs.length := (List.getElem?_eq_some_iff.mp e).1
  have h3 : W[j + i]? = some b := by
    rw [← h1, List.getElem?_take, if_pos h2, List.getElem?_drop] at e
    exact e
  have h4 : j + i < W.length := (List.getElem?_eq_some_iff.mp h3).1
  have h5 : (code.data.toList.drop o)[j + i]? = some b := by
    rw [h, List.getElem?_append_left h4]
    exact h3
  rw [List.getElem?_drop, ← Nat.add_assoc] at h5
  exact h5
theorem dk_u1 {A : ByteArray} {p : Nat} {b : UInt8} (h : A.data.toList[p]? = some b) : (Reader.u1 : Reader DecodeError Nat) A p = .ok (b.toNat, p + 1) := by
  obtain ⟨h1, h2⟩ := List.getElem?_eq_some_iff.mp h
  have h3 : p < A.size := by simpa using h1
  have h4 : A[p]'h3 = b := h2
  have e : (Reader.u1 : Reader DecodeError Nat) A p = (if h : p < A.size then .ok (A[p].toNat, p + 1) else .error (HasTruncated.truncated p)) := by
    show (do if h : p < A.size then do set (p + 1); Pure.pure A[p].toNat else MonadExcept.throw (HasTruncated.truncated p) : Reader DecodeError Nat) A p = _
    by_cases hi : p < A.size
    · rw [dif_pos hi, dif_pos hi]; rfl
    · rw [dif_neg hi, dif_neg hi]; rfl
  rw [e, dif_pos h3, h4]
theorem dk_bind {α β : Type} {r : Reader DecodeError α} {f : α → Reader DecodeError β} {A : ByteArray} {p s : Nat} {a : α} (h : r A p = .ok (a, s)) : (r >>= f) A p = f a A s := by
  show (do let (a, s) ← r A p; f a A s : Except DecodeError (β × Nat)) = _
  rw [h]
  rfl
theorem dk_map {α β : Type} {r : Reader DecodeError α} {g : α → β} {A : ByteArray} {p s : Nat} {a : α} (h : r A p = .ok (a, s)) : (g <$> r) A p = .ok (g a, s) := by
  show (do let (a, s) ← r A p; .ok (g a, s) : Except DecodeError (β × Nat)) = _
  rw [h]
  rfl
theorem dk_u2 {A : ByteArray} {p : Nat} {a b : UInt8} (h : A.data.toList[p]? = some a) (h2 : A.data.toList[p + 1]? = some b) : (Reader.u2 : Reader DecodeError Nat) A p = .ok (a.toNat * 256 + b.toNat, p + 2) := by
  show (Reader.u1 >>= fun hi => Reader.u1 >>= fun lo => Pure.pure (hi * 256 + lo) : Reader DecodeError Nat) A p = _
  rw [dk_bind (dk_u1 h), dk_bind (dk_u1 h2)]
  rfl
theorem dk_of {code : ByteArray} {pc n : Nat} {i : Instr} (h : Decoder.instr pc code pc = .ok (i, pc + n)) : decode code pc = .ok (i, n) := by
  have e : decode code pc = (match Decoder.instr pc code pc with | .error x => .error x | .ok (j, s) => .ok (j, s - pc)) := by
    show (do let (j, s) ← Decoder.instr pc code pc; Pure.pure (j, s - pc) : Except DecodeError (Instr × Nat)) = _
    cases Decoder.instr pc code pc <;> rfl
  rw [e, h]
  show Except.ok (i, pc + n - pc) = _
  rw [Nat.add_sub_cancel_left]
theorem dk_1 {code : ByteArray} {pc : Nat} (h : DkAt code pc [1]) : decode code pc = .ok (.aconst_null, 1) := dk_of ((dk_bind (dk_u1 (h 0 _ rfl))).trans rfl)
theorem dk_2 {code : ByteArray} {pc : Nat} (h : DkAt code pc [2]) : decode code pc = .ok (.iconst (-1), 1) := dk_of ((dk_bind (dk_u1 (h 0 _ rfl))).trans rfl)
theorem dk_3 {code : ByteArray} {pc : Nat} (h : DkAt code pc [3]) : decode code pc = .ok (.iconst 0, 1) := dk_of ((dk_bind (dk_u1 (h 0 _ rfl))).trans rfl)
theorem dk_4 {code : ByteArray} {pc : Nat} (h : DkAt code pc [4]) : decode code pc = .ok (.iconst 1, 1) := dk_of ((dk_bind (dk_u1 (h 0 _ rfl))).trans rfl)
theorem dk_5 {code : ByteArray} {pc : Nat} (h : DkAt code pc [5]) : decode code pc = .ok (.iconst 2, 1) := dk_of ((dk_bind (dk_u1 (h 0 _ rfl))).trans rfl)
theorem dk_6 {code : ByteArray} {pc : Nat} (h : DkAt code pc [6]) : decode code pc = .ok (.iconst 3, 1) := dk_of ((dk_bind (dk_u1 (h 0 _ rfl))).trans rfl)
theorem dk_16 {code : ByteArray} {pc : Nat} (a : UInt8) (h : DkAt code pc [16, a]) : decode code pc = .ok (.bipush (Reader.signed 8 a.toNat), 2) := dk_of ((dk_bind (dk_u1 (h 0 _ rfl))).trans ((dk_bind (dk_map (dk_u1 (h 1 _ rfl)))).trans rfl))
theorem dk_17 {code : ByteArray} {pc : Nat} (a b : UInt8) (h : DkAt code pc [17, a, b]) : decode code pc = .ok (.sipush (Reader.signed 16 (a.toNat * 256 + b.toNat)), 3) := dk_of ((dk_bind (dk_u1 (h 0 _ rfl))).trans ((dk_bind (dk_map (dk_u2 (h 1 _ rfl) (h 2 _ rfl)))).trans rfl))
theorem dk_18 {code : ByteArray} {pc : Nat} (a : UInt8) (h : DkAt code pc [18, a]) : decode code pc = .ok (.ldc a.toNat, 2) := dk_of ((dk_bind (dk_u1 (h 0 _ rfl))).trans ((dk_bind (dk_u1 (h 1 _ rfl))).trans rfl))
theorem dk_19 {code : ByteArray} {pc : Nat} (a b : UInt8) (h : DkAt code pc [19, a, b]) : decode code pc = .ok (.ldc_w (a.toNat * 256 + b.toNat), 3) := dk_of ((dk_bind (dk_u1 (h 0 _ rfl))).trans ((dk_bind (dk_u2 (h 1 _ rfl) (h 2 _ rfl))).trans rfl))
theorem dk_21 {code : ByteArray} {pc : Nat} (a : UInt8) (h : DkAt code pc [21, a]) : decode code pc = .ok (.iload a.toNat, 2) := dk_of ((dk_bind (dk_u1 (h 0 _ rfl))).trans ((dk_bind (dk_u1 (h 1 _ rfl))).trans rfl))
theorem dk_25 {code : ByteArray} {pc : Nat} (a : UInt8) (h : DkAt code pc [25, a]) : decode code pc = .ok (.aload a.toNat, 2) := dk_of ((dk_bind (dk_u1 (h 0 _ rfl))).trans ((dk_bind (dk_u1 (h 1 _ rfl))).trans rfl))
theorem dk_26 {code : ByteArray} {pc : Nat} (h : DkAt code pc [26]) : decode code pc = .ok (.iload_n 0, 1) := dk_of ((dk_bind (dk_u1 (h 0 _ rfl))).trans rfl)
theorem dk_27 {code : ByteArray} {pc : Nat} (h : DkAt code pc [27]) : decode code pc = .ok (.iload_n 1, 1) := dk_of ((dk_bind (dk_u1 (h 0 _ rfl))).trans rfl)
theorem dk_28 {code : ByteArray} {pc : Nat} (h : DkAt code pc [28]) : decode code pc = .ok (.iload_n 2, 1) := dk_of ((dk_bind (dk_u1 (h 0 _ rfl))).trans rfl)
theorem dk_29 {code : ByteArray} {pc : Nat} (h : DkAt code pc [29]) : decode code pc = .ok (.iload_n 3, 1) := dk_of ((dk_bind (dk_u1 (h 0 _ rfl))).trans rfl)
theorem dk_42 {code : ByteArray} {pc : Nat} (h : DkAt code pc [42]) : decode code pc = .ok (.aload_n 0, 1) := dk_of ((dk_bind (dk_u1 (h 0 _ rfl))).trans rfl)
theorem dk_43 {code : ByteArray} {pc : Nat} (h : DkAt code pc [43]) : decode code pc = .ok (.aload_n 1, 1) := dk_of ((dk_bind (dk_u1 (h 0 _ rfl))).trans rfl)
theorem dk_44 {code : ByteArray} {pc : Nat} (h : DkAt code pc [44]) : decode code pc = .ok (.aload_n 2, 1) := dk_of ((dk_bind (dk_u1 (h 0 _ rfl))).trans rfl)
theorem dk_45 {code : ByteArray} {pc : Nat} (h : DkAt code pc [45]) : decode code pc = .ok (.aload_n 3, 1) := dk_of ((dk_bind (dk_u1 (h 0 _ rfl))).trans rfl)
theorem dk_46 {code : ByteArray} {pc : Nat} (h : DkAt code pc [46]) : decode code pc = .ok (.iaload, 1) := dk_of ((dk_bind (dk_u1 (h 0 _ rfl))).trans rfl)
theorem dk_50 {code : ByteArray} {pc : Nat} (h : DkAt code pc [50]) : decode code pc = .ok (.aaload, 1) := dk_of ((dk_bind (dk_u1 (h 0 _ rfl))).trans rfl)
theorem dk_51 {code : ByteArray} {pc : Nat} (h : DkAt code pc [51]) : decode code pc = .ok (.baload, 1) := dk_of ((dk_bind (dk_u1 (h 0 _ rfl))).trans rfl)
theorem dk_52 {code : ByteArray} {pc : Nat} (h : DkAt code pc [52]) : decode code pc = .ok (.caload, 1) := dk_of ((dk_bind (dk_u1 (h 0 _ rfl))).trans rfl)
theorem dk_54 {code : ByteArray} {pc : Nat} (a : UInt8) (h : DkAt code pc [54, a]) : decode code pc = .ok (.istore a.toNat, 2) := dk_of ((dk_bind (dk_u1 (h 0 _ rfl))).trans ((dk_bind (dk_u1 (h 1 _ rfl))).trans rfl))
theorem dk_58 {code : ByteArray} {pc : Nat} (a : UInt8) (h : DkAt code pc [58, a]) : decode code pc = .ok (.astore a.toNat, 2) := dk_of ((dk_bind (dk_u1 (h 0 _ rfl))).trans ((dk_bind (dk_u1 (h 1 _ rfl))).trans rfl))
theorem dk_60 {code : ByteArray} {pc : Nat} (h : DkAt code pc [60]) : decode code pc = .ok (.istore_n 1, 1) := dk_of ((dk_bind (dk_u1 (h 0 _ rfl))).trans rfl)
theorem dk_61 {code : ByteArray} {pc : Nat} (h : DkAt code pc [61]) : decode code pc = .ok (.istore_n 2, 1) := dk_of ((dk_bind (dk_u1 (h 0 _ rfl))).trans rfl)
theorem dk_62 {code : ByteArray} {pc : Nat} (h : DkAt code pc [62]) : decode code pc = .ok (.istore_n 3, 1) := dk_of ((dk_bind (dk_u1 (h 0 _ rfl))).trans rfl)
theorem dk_76 {code : ByteArray} {pc : Nat} (h : DkAt code pc [76]) : decode code pc = .ok (.astore_n 1, 1) := dk_of ((dk_bind (dk_u1 (h 0 _ rfl))).trans rfl)
theorem dk_77 {code : ByteArray} {pc : Nat} (h : DkAt code pc [77]) : decode code pc = .ok (.astore_n 2, 1) := dk_of ((dk_bind (dk_u1 (h 0 _ rfl))).trans rfl)
theorem dk_78 {code : ByteArray} {pc : Nat} (h : DkAt code pc [78]) : decode code pc = .ok (.astore_n 3, 1) := dk_of ((dk_bind (dk_u1 (h 0 _ rfl))).trans rfl)
theorem dk_79 {code : ByteArray} {pc : Nat} (h : DkAt code pc [79]) : decode code pc = .ok (.iastore, 1) := dk_of ((dk_bind (dk_u1 (h 0 _ rfl))).trans rfl)
theorem dk_84 {code : ByteArray} {pc : Nat} (h : DkAt code pc [84]) : decode code pc = .ok (.bastore, 1) := dk_of ((dk_bind (dk_u1 (h 0 _ rfl))).trans rfl)
theorem dk_85 {code : ByteArray} {pc : Nat} (h : DkAt code pc [85]) : decode code pc = .ok (.castore, 1) := dk_of ((dk_bind (dk_u1 (h 0 _ rfl))).trans rfl)
theorem dk_87 {code : ByteArray} {pc : Nat} (h : DkAt code pc [87]) : decode code pc = .ok (.pop, 1) := dk_of ((dk_bind (dk_u1 (h 0 _ rfl))).trans rfl)
theorem dk_89 {code : ByteArray} {pc : Nat} (h : DkAt code pc [89]) : decode code pc = .ok (.dup, 1) := dk_of ((dk_bind (dk_u1 (h 0 _ rfl))).trans rfl)
theorem dk_90 {code : ByteArray} {pc : Nat} (h : DkAt code pc [90]) : decode code pc = .ok (.dup_x1, 1) := dk_of ((dk_bind (dk_u1 (h 0 _ rfl))).trans rfl)
theorem dk_96 {code : ByteArray} {pc : Nat} (h : DkAt code pc [96]) : decode code pc = .ok (.iadd, 1) := dk_of ((dk_bind (dk_u1 (h 0 _ rfl))).trans rfl)
theorem dk_100 {code : ByteArray} {pc : Nat} (h : DkAt code pc [100]) : decode code pc = .ok (.isub, 1) := dk_of ((dk_bind (dk_u1 (h 0 _ rfl))).trans rfl)
theorem dk_104 {code : ByteArray} {pc : Nat} (h : DkAt code pc [104]) : decode code pc = .ok (.imul, 1) := dk_of ((dk_bind (dk_u1 (h 0 _ rfl))).trans rfl)
theorem dk_112 {code : ByteArray} {pc : Nat} (h : DkAt code pc [112]) : decode code pc = .ok (.irem, 1) := dk_of ((dk_bind (dk_u1 (h 0 _ rfl))).trans rfl)
theorem dk_120 {code : ByteArray} {pc : Nat} (h : DkAt code pc [120]) : decode code pc = .ok (.ishl, 1) := dk_of ((dk_bind (dk_u1 (h 0 _ rfl))).trans rfl)
theorem dk_122 {code : ByteArray} {pc : Nat} (h : DkAt code pc [122]) : decode code pc = .ok (.ishr, 1) := dk_of ((dk_bind (dk_u1 (h 0 _ rfl))).trans rfl)
theorem dk_124 {code : ByteArray} {pc : Nat} (h : DkAt code pc [124]) : decode code pc = .ok (.iushr, 1) := dk_of ((dk_bind (dk_u1 (h 0 _ rfl))).trans rfl)
theorem dk_126 {code : ByteArray} {pc : Nat} (h : DkAt code pc [126]) : decode code pc = .ok (.iand, 1) := dk_of ((dk_bind (dk_u1 (h 0 _ rfl))).trans rfl)
theorem dk_128 {code : ByteArray} {pc : Nat} (h : DkAt code pc [128]) : decode code pc = .ok (.ior, 1) := dk_of ((dk_bind (dk_u1 (h 0 _ rfl))).trans rfl)
theorem dk_132 {code : ByteArray} {pc : Nat} (a b : UInt8) (h : DkAt code pc [132, a, b]) : decode code pc = .ok (.iinc a.toNat (Reader.signed 8 b.toNat), 3) := dk_of ((dk_bind (dk_u1 (h 0 _ rfl))).trans ((dk_bind (dk_u1 (h 1 _ rfl))).trans ((dk_bind (dk_map (dk_u1 (h 2 _ rfl)))).trans rfl)))
theorem dk_145 {code : ByteArray} {pc : Nat} (h : DkAt code pc [145]) : decode code pc = .ok (.i2b, 1) := dk_of ((dk_bind (dk_u1 (h 0 _ rfl))).trans rfl)
theorem dk_146 {code : ByteArray} {pc : Nat} (h : DkAt code pc [146]) : decode code pc = .ok (.i2c, 1) := dk_of ((dk_bind (dk_u1 (h 0 _ rfl))).trans rfl)
theorem dk_153 {code : ByteArray} {pc : Nat} (a b : UInt8) (h : DkAt code pc [153, a, b]) : decode code pc = .ok (.ifCond .eq (Reader.signed 16 (a.toNat * 256 + b.toNat)), 3) := dk_of ((dk_bind (dk_u1 (h 0 _ rfl))).trans ((dk_bind (dk_map (dk_u2 (h 1 _ rfl) (h 2 _ rfl)))).trans rfl))
theorem dk_154 {code : ByteArray} {pc : Nat} (a b : UInt8) (h : DkAt code pc [154, a, b]) : decode code pc = .ok (.ifCond .ne (Reader.signed 16 (a.toNat * 256 + b.toNat)), 3) := dk_of ((dk_bind (dk_u1 (h 0 _ rfl))).trans ((dk_bind (dk_map (dk_u2 (h 1 _ rfl) (h 2 _ rfl)))).trans rfl))
theorem dk_155 {code : ByteArray} {pc : Nat} (a b : UInt8) (h : DkAt code pc [155, a, b]) : decode code pc = .ok (.ifCond .lt (Reader.signed 16 (a.toNat * 256 + b.toNat)), 3) := dk_of ((dk_bind (dk_u1 (h 0 _ rfl))).trans ((dk_bind (dk_map (dk_u2 (h 1 _ rfl) (h 2 _ rfl)))).trans rfl))
theorem dk_156 {code : ByteArray} {pc : Nat} (a b : UInt8) (h : DkAt code pc [156, a, b]) : decode code pc = .ok (.ifCond .ge (Reader.signed 16 (a.toNat * 256 + b.toNat)), 3) := dk_of ((dk_bind (dk_u1 (h 0 _ rfl))).trans ((dk_bind (dk_map (dk_u2 (h 1 _ rfl) (h 2 _ rfl)))).trans rfl))
theorem dk_158 {code : ByteArray} {pc : Nat} (a b : UInt8) (h : DkAt code pc [158, a, b]) : decode code pc = .ok (.ifCond .le (Reader.signed 16 (a.toNat * 256 + b.toNat)), 3) := dk_of ((dk_bind (dk_u1 (h 0 _ rfl))).trans ((dk_bind (dk_map (dk_u2 (h 1 _ rfl) (h 2 _ rfl)))).trans rfl))
theorem dk_159 {code : ByteArray} {pc : Nat} (a b : UInt8) (h : DkAt code pc [159, a, b]) : decode code pc = .ok (.if_icmp .eq (Reader.signed 16 (a.toNat * 256 + b.toNat)), 3) := dk_of ((dk_bind (dk_u1 (h 0 _ rfl))).trans ((dk_bind (dk_map (dk_u2 (h 1 _ rfl) (h 2 _ rfl)))).trans rfl))
theorem dk_160 {code : ByteArray} {pc : Nat} (a b : UInt8) (h : DkAt code pc [160, a, b]) : decode code pc = .ok (.if_icmp .ne (Reader.signed 16 (a.toNat * 256 + b.toNat)), 3) := dk_of ((dk_bind (dk_u1 (h 0 _ rfl))).trans ((dk_bind (dk_map (dk_u2 (h 1 _ rfl) (h 2 _ rfl)))).trans rfl))
theorem dk_161 {code : ByteArray} {pc : Nat} (a b : UInt8) (h : DkAt code pc [161, a, b]) : decode code pc = .ok (.if_icmp .lt (Reader.signed 16 (a.toNat * 256 + b.toNat)), 3) := dk_of ((dk_bind (dk_u1 (h 0 _ rfl))).trans ((dk_bind (dk_map (dk_u2 (h 1 _ rfl) (h 2 _ rfl)))).trans rfl))
theorem dk_162 {code : ByteArray} {pc : Nat} (a b : UInt8) (h : DkAt code pc [162, a, b]) : decode code pc = .ok (.if_icmp .ge (Reader.signed 16 (a.toNat * 256 + b.toNat)), 3) := dk_of ((dk_bind (dk_u1 (h 0 _ rfl))).trans ((dk_bind (dk_map (dk_u2 (h 1 _ rfl) (h 2 _ rfl)))).trans rfl))
theorem dk_163 {code : ByteArray} {pc : Nat} (a b : UInt8) (h : DkAt code pc [163, a, b]) : decode code pc = .ok (.if_icmp .gt (Reader.signed 16 (a.toNat * 256 + b.toNat)), 3) := dk_of ((dk_bind (dk_u1 (h 0 _ rfl))).trans ((dk_bind (dk_map (dk_u2 (h 1 _ rfl) (h 2 _ rfl)))).trans rfl))
theorem dk_164 {code : ByteArray} {pc : Nat} (a b : UInt8) (h : DkAt code pc [164, a, b]) : decode code pc = .ok (.if_icmp .le (Reader.signed 16 (a.toNat * 256 + b.toNat)), 3) := dk_of ((dk_bind (dk_u1 (h 0 _ rfl))).trans ((dk_bind (dk_map (dk_u2 (h 1 _ rfl) (h 2 _ rfl)))).trans rfl))
theorem dk_167 {code : ByteArray} {pc : Nat} (a b : UInt8) (h : DkAt code pc [167, a, b]) : decode code pc = .ok (.goto (Reader.signed 16 (a.toNat * 256 + b.toNat)), 3) := dk_of ((dk_bind (dk_u1 (h 0 _ rfl))).trans ((dk_bind (dk_map (dk_u2 (h 1 _ rfl) (h 2 _ rfl)))).trans rfl))
theorem dk_172 {code : ByteArray} {pc : Nat} (h : DkAt code pc [172]) : decode code pc = .ok (.ireturn, 1) := dk_of ((dk_bind (dk_u1 (h 0 _ rfl))).trans rfl)
theorem dk_176 {code : ByteArray} {pc : Nat} (h : DkAt code pc [176]) : decode code pc = .ok (.areturn, 1) := dk_of ((dk_bind (dk_u1 (h 0 _ rfl))).trans rfl)
theorem dk_177 {code : ByteArray} {pc : Nat} (h : DkAt code pc [177]) : decode code pc = .ok (.return_, 1) := dk_of ((dk_bind (dk_u1 (h 0 _ rfl))).trans rfl)
theorem dk_178 {code : ByteArray} {pc : Nat} (a b : UInt8) (h : DkAt code pc [178, a, b]) : decode code pc = .ok (.getstatic (a.toNat * 256 + b.toNat), 3) := dk_of ((dk_bind (dk_u1 (h 0 _ rfl))).trans ((dk_bind (dk_u2 (h 1 _ rfl) (h 2 _ rfl))).trans rfl))
theorem dk_180 {code : ByteArray} {pc : Nat} (a b : UInt8) (h : DkAt code pc [180, a, b]) : decode code pc = .ok (.getfield (a.toNat * 256 + b.toNat), 3) := dk_of ((dk_bind (dk_u1 (h 0 _ rfl))).trans ((dk_bind (dk_u2 (h 1 _ rfl) (h 2 _ rfl))).trans rfl))
theorem dk_181 {code : ByteArray} {pc : Nat} (a b : UInt8) (h : DkAt code pc [181, a, b]) : decode code pc = .ok (.putfield (a.toNat * 256 + b.toNat), 3) := dk_of ((dk_bind (dk_u1 (h 0 _ rfl))).trans ((dk_bind (dk_u2 (h 1 _ rfl) (h 2 _ rfl))).trans rfl))
theorem dk_182 {code : ByteArray} {pc : Nat} (a b : UInt8) (h : DkAt code pc [182, a, b]) : decode code pc = .ok (.invokevirtual (a.toNat * 256 + b.toNat), 3) := dk_of ((dk_bind (dk_u1 (h 0 _ rfl))).trans ((dk_bind (dk_u2 (h 1 _ rfl) (h 2 _ rfl))).trans rfl))
theorem dk_183 {code : ByteArray} {pc : Nat} (a b : UInt8) (h : DkAt code pc [183, a, b]) : decode code pc = .ok (.invokespecial (a.toNat * 256 + b.toNat), 3) := dk_of ((dk_bind (dk_u1 (h 0 _ rfl))).trans ((dk_bind (dk_u2 (h 1 _ rfl) (h 2 _ rfl))).trans rfl))
theorem dk_184 {code : ByteArray} {pc : Nat} (a b : UInt8) (h : DkAt code pc [184, a, b]) : decode code pc = .ok (.invokestatic (a.toNat * 256 + b.toNat), 3) := dk_of ((dk_bind (dk_u1 (h 0 _ rfl))).trans ((dk_bind (dk_u2 (h 1 _ rfl) (h 2 _ rfl))).trans rfl))
theorem dk_187 {code : ByteArray} {pc : Nat} (a b : UInt8) (h : DkAt code pc [187, a, b]) : decode code pc = .ok (.new (a.toNat * 256 + b.toNat), 3) := dk_of ((dk_bind (dk_u1 (h 0 _ rfl))).trans ((dk_bind (dk_u2 (h 1 _ rfl) (h 2 _ rfl))).trans rfl))
theorem dk_188_5 {code : ByteArray} {pc : Nat} (h : DkAt code pc [188, 5]) : decode code pc = .ok (.newarray .char, 2) := dk_of ((dk_bind (dk_u1 (h 0 _ rfl))).trans ((dk_bind (dk_u1 (h 1 _ rfl))).trans rfl))
theorem dk_188_8 {code : ByteArray} {pc : Nat} (h : DkAt code pc [188, 8]) : decode code pc = .ok (.newarray .byte, 2) := dk_of ((dk_bind (dk_u1 (h 0 _ rfl))).trans ((dk_bind (dk_u1 (h 1 _ rfl))).trans rfl))
theorem dk_188_10 {code : ByteArray} {pc : Nat} (h : DkAt code pc [188, 10]) : decode code pc = .ok (.newarray .int, 2) := dk_of ((dk_bind (dk_u1 (h 0 _ rfl))).trans ((dk_bind (dk_u1 (h 1 _ rfl))).trans rfl))
theorem dk_190 {code : ByteArray} {pc : Nat} (h : DkAt code pc [190]) : decode code pc = .ok (.arraylength, 1) := dk_of ((dk_bind (dk_u1 (h 0 _ rfl))).trans rfl)
theorem dk_191 {code : ByteArray} {pc : Nat} (h : DkAt code pc [191]) : decode code pc = .ok (.athrow, 1) := dk_of ((dk_bind (dk_u1 (h 0 _ rfl))).trans rfl)
theorem dk_192 {code : ByteArray} {pc : Nat} (a b : UInt8) (h : DkAt code pc [192, a, b]) : decode code pc = .ok (.checkcast (a.toNat * 256 + b.toNat), 3) := dk_of ((dk_bind (dk_u1 (h 0 _ rfl))).trans ((dk_bind (dk_u2 (h 1 _ rfl) (h 2 _ rfl))).trans rfl))
end
section
/-! java/lang/Object -/
set_option maxRecDepth 100000
def RJ13 : String := "java/lang/Object"
abbrev cJ13_init : ByteArray := object_method_1_code
def yJ13_init : MethodName := ⟨RJ13, "<init>", "()V"⟩
theorem dJ13_init_0 : decode cJ13_init 0 = .ok (.return_, 1) := by decide +kernel
theorem q25 : (Jvm.Cond.instanceMethod ({ cls := "java/lang/Object", name := "<init>", desc := "()V" } : Jvm.MethodName)) ∈ lw_all := lw_g (lw_at lw_m1 24 rfl) rfl
theorem q26 : (Jvm.Cond.code ({ cls := "java/lang/Object", name := "<init>", desc := "()V" } : Jvm.MethodName) object_method_1_code (1 : Nat) (Option.none : Option Jvm.ClassFile.FieldType)) ∈ lw_all := lw_g (lw_at lw_m1 25 rfl) rfl
theorem q322 : (Jvm.Cond.native ({ cls := "java/lang/Object", name := "clone", desc := "()Ljava/lang/Object;" } : Jvm.MethodName)) ∈ lw_all := lw_g (lw_at lw_m2 81 rfl) rfl
theorem q323 : (Jvm.Cond.instanceMethod ({ cls := "java/lang/Object", name := "clone", desc := "()Ljava/lang/Object;" } : Jvm.MethodName)) ∈ lw_all := lw_g (lw_at lw_m2 82 rfl) rfl
theorem q449 : (Jvm.Cond.initialized "java/lang/Object") ∈ lw_all := lw_g (lw_at lw_m2 208 rfl) rfl
/-! jdk/internal/util/Preconditions -/
set_option maxRecDepth 100000
def RJ1 : String := "jdk/internal/util/Preconditions"
abbrev cJ1_checkFromIndexSize : ByteArray := prog_20_method_13_code
def yJ1_checkFromIndexSize : MethodName := ⟨RJ1, "checkFromIndexSize", "(IIILjava/util/function/BiFunction;)I"⟩
def dkwJ1_checkFromIndexSize_1 : List UInt8 := [172]
abbrev dktJ1_checkFromIndexSize_1 : List UInt8 := dkwJ1_checkFromIndexSize_1 ++ []
def dkwJ1_checkFromIndexSize_0 : List UInt8 := [28, 26, 128, 27, 128, 155, 0, 10, 27, 28, 26, 100, 164, 0, 11, 45, 26, 27, 28, 184, 0, 103, 191, 26]
abbrev dktJ1_checkFromIndexSize_0 : List UInt8 := dkwJ1_checkFromIndexSize_0 ++ dktJ1_checkFromIndexSize_1
theorem dksJ1_checkFromIndexSize_0 : cJ1_checkFromIndexSize.data.toList.drop 0 = dktJ1_checkFromIndexSize_0 := by decide +kernel
theorem dksJ1_checkFromIndexSize_1 : cJ1_checkFromIndexSize.data.toList.drop 24 = dktJ1_checkFromIndexSize_1 := dk_seg dksJ1_checkFromIndexSize_0 24 rfl rfl
theorem dJ1_checkFromIndexSize_0 : decode cJ1_checkFromIndexSize 0 = .ok (.iload_n 2, 1) := dk_28 (dk_at dksJ1_checkFromIndexSize_0 0 rfl rfl)
theorem dJ1_checkFromIndexSize_1 : decode cJ1_checkFromIndexSize 1 = .ok (.iload_n 0, 1) := dk_26 (dk_at dksJ1_checkFromIndexSize_0 1 rfl rfl)
theorem dJ1_checkFromIndexSize_2 : decode cJ1_checkFromIndexSize 2 = .ok (.ior, 1) := dk_128 (dk_at dksJ1_checkFromIndexSize_0 2 rfl rfl)
theorem dJ1_checkFromIndexSize_3 : decode cJ1_checkFromIndexSize 3 = .ok (.iload_n 1, 1) := dk_27 (dk_at dksJ1_checkFromIndexSize_0 3 rfl rfl)
theorem dJ1_checkFromIndexSize_4 : decode cJ1_checkFromIndexSize 4 = .ok (.ior, 1) := dk_128 (dk_at dksJ1_checkFromIndexSize_0 4 rfl rfl)
theorem dJ1_checkFromIndexSize_5 : decode cJ1_checkFromIndexSize 5 = .ok (.ifCond .lt 10, 3) := dk_155 0 10 (dk_at dksJ1_checkFromIndexSize_0 5 rfl rfl)
theorem dJ1_checkFromIndexSize_8 : decode cJ1_checkFromIndexSize 8 = .ok (.iload_n 1, 1) := dk_27 (dk_at dksJ1_checkFromIndexSize_0 8 rfl rfl)
theorem dJ1_checkFromIndexSize_9 : decode cJ1_checkFromIndexSize 9 = .ok (.iload_n 2, 1) := dk_28 (dk_at dksJ1_checkFromIndexSize_0 9 rfl rfl)
theorem dJ1_checkFromIndexSize_10 : decode cJ1_checkFromIndexSize 10 = .ok (.iload_n 0, 1) := dk_26 (dk_at dksJ1_checkFromIndexSize_0 10 rfl rfl)
theorem dJ1_checkFromIndexSize_11 : decode cJ1_checkFromIndexSize 11 = .ok (.isub, 1) := dk_100 (dk_at dksJ1_checkFromIndexSize_0 11 rfl rfl)
theorem dJ1_checkFromIndexSize_12 : decode cJ1_checkFromIndexSize 12 = .ok (.if_icmp .le 11, 3) := dk_164 0 11 (dk_at dksJ1_checkFromIndexSize_0 12 rfl rfl)
theorem dJ1_checkFromIndexSize_15 : decode cJ1_checkFromIndexSize 15 = .ok (.aload_n 3, 1) := dk_45 (dk_at dksJ1_checkFromIndexSize_0 15 rfl rfl)
theorem dJ1_checkFromIndexSize_16 : decode cJ1_checkFromIndexSize 16 = .ok (.iload_n 0, 1) := dk_26 (dk_at dksJ1_checkFromIndexSize_0 16 rfl rfl)
theorem dJ1_checkFromIndexSize_17 : decode cJ1_checkFromIndexSize 17 = .ok (.iload_n 1, 1) := dk_27 (dk_at dksJ1_checkFromIndexSize_0 17 rfl rfl)
theorem dJ1_checkFromIndexSize_18 : decode cJ1_checkFromIndexSize 18 = .ok (.iload_n 2, 1) := dk_28 (dk_at dksJ1_checkFromIndexSize_0 18 rfl rfl)
theorem dJ1_checkFromIndexSize_19 : decode cJ1_checkFromIndexSize 19 = .ok (.invokestatic 103, 3) := dk_184 0 103 (dk_at dksJ1_checkFromIndexSize_0 19 rfl rfl)
theorem dJ1_checkFromIndexSize_22 : decode cJ1_checkFromIndexSize 22 = .ok (.athrow, 1) := dk_191 (dk_at dksJ1_checkFromIndexSize_0 22 rfl rfl)
theorem dJ1_checkFromIndexSize_23 : decode cJ1_checkFromIndexSize 23 = .ok (.iload_n 0, 1) := dk_26 (dk_at dksJ1_checkFromIndexSize_0 23 rfl rfl)
theorem dJ1_checkFromIndexSize_24 : decode cJ1_checkFromIndexSize 24 = .ok (.ireturn, 1) := dk_172 (dk_at dksJ1_checkFromIndexSize_1 0 rfl rfl)
abbrev cJ1_checkIndex : ByteArray := prog_20_method_11_code
def yJ1_checkIndex : MethodName := ⟨RJ1, "checkIndex", "(IILjava/util/function/BiFunction;)I"⟩
def dkwJ1_checkIndex_0 : List UInt8 := [26, 155, 0, 8, 26, 27, 161, 0, 10, 44, 26, 27, 184, 0, 95, 191, 26, 172]
abbrev dktJ1_checkIndex_0 : List UInt8 := dkwJ1_checkIndex_0 ++ []
theorem dksJ1_checkIndex_0 : cJ1_checkIndex.data.toList.drop 0 = dktJ1_checkIndex_0 := by decide +kernel
theorem dJ1_checkIndex_0 : decode cJ1_checkIndex 0 = .ok (.iload_n 0, 1) := dk_26 (dk_at dksJ1_checkIndex_0 0 rfl rfl)
theorem dJ1_checkIndex_1 : decode cJ1_checkIndex 1 = .ok (.ifCond .lt 8, 3) := dk_155 0 8 (dk_at dksJ1_checkIndex_0 1 rfl rfl)
theorem dJ1_checkIndex_4 : decode cJ1_checkIndex 4 = .ok (.iload_n 0, 1) := dk_26 (dk_at dksJ1_checkIndex_0 4 rfl rfl)
theorem dJ1_checkIndex_5 : decode cJ1_checkIndex 5 = .ok (.iload_n 1, 1) := dk_27 (dk_at dksJ1_checkIndex_0 5 rfl rfl)
theorem dJ1_checkIndex_6 : decode cJ1_checkIndex 6 = .ok (.if_icmp .lt 10, 3) := dk_161 0 10 (dk_at dksJ1_checkIndex_0 6 rfl rfl)
theorem dJ1_checkIndex_9 : decode cJ1_checkIndex 9 = .ok (.aload_n 2, 1) := dk_44 (dk_at dksJ1_checkIndex_0 9 rfl rfl)
theorem dJ1_checkIndex_10 : decode cJ1_checkIndex 10 = .ok (.iload_n 0, 1) := dk_26 (dk_at dksJ1_checkIndex_0 10 rfl rfl)
theorem dJ1_checkIndex_11 : decode cJ1_checkIndex 11 = .ok (.iload_n 1, 1) := dk_27 (dk_at dksJ1_checkIndex_0 11 rfl rfl)
theorem dJ1_checkIndex_12 : decode cJ1_checkIndex 12 = .ok (.invokestatic 95, 3) := dk_184 0 95 (dk_at dksJ1_checkIndex_0 12 rfl rfl)
theorem dJ1_checkIndex_15 : decode cJ1_checkIndex 15 = .ok (.athrow, 1) := dk_191 (dk_at dksJ1_checkIndex_0 15 rfl rfl)
theorem dJ1_checkIndex_16 : decode cJ1_checkIndex 16 = .ok (.iload_n 0, 1) := dk_26 (dk_at dksJ1_checkIndex_0 16 rfl rfl)
theorem dJ1_checkIndex_17 : decode cJ1_checkIndex 17 = .ok (.ireturn, 1) := dk_172 (dk_at dksJ1_checkIndex_0 17 rfl rfl)
theorem q5 : (Jvm.Cond.initialized "jdk/internal/util/Preconditions") ∈ lw_all := lw_g (lw_at lw_m1 4 rfl) rfl
theorem q65 : (Jvm.Cond.laysStatic "jdk/internal/util/Preconditions" "SIOOBE_FORMATTER" "Ljava/util/function/BiFunction;") ∈ lw_tbl := lw_at lw_m1 64 rfl
theorem q67 : (Jvm.Cond.static ({ cls := "jdk/internal/util/Preconditions", name := "checkFromIndexSize", desc := "(IIILjava/util/function/BiFunction;)I" } : Jvm.MethodName)) ∈ lw_all := lw_g (lw_at lw_m1 66 rfl) rfl
theorem q68 : (Jvm.Cond.code ({ cls := "jdk/internal/util/Preconditions", name := "checkFromIndexSize", desc := "(IIILjava/util/function/BiFunction;)I" } : Jvm.MethodName) prog_20_method_13_code (4 : Nat) (Option.some Jvm.ClassFile.FieldType.int)) ∈ lw_all := lw_g (lw_at lw_m1 67 rfl) rfl
theorem q244 : (Jvm.Cond.static ({ cls := "jdk/internal/util/Preconditions", name := "checkIndex", desc := "(IILjava/util/function/BiFunction;)I" } : Jvm.MethodName)) ∈ lw_all := lw_g (lw_at lw_m2 3 rfl) rfl
theorem q245 : (Jvm.Cond.code ({ cls := "jdk/internal/util/Preconditions", name := "checkIndex", desc := "(IILjava/util/function/BiFunction;)I" } : Jvm.MethodName) prog_20_method_11_code (3 : Nat) (Option.some Jvm.ClassFile.FieldType.int)) ∈ lw_all := lw_g (lw_at lw_m2 4 rfl) rfl
/-! java/lang/String -/
set_option maxRecDepth 100000
def RJ0 : String := "java/lang/String"
def TJ0 : u_T := fun k => match k with
  | 0 => ("java/lang/String", "value", "[B", true)
  | 1 => ("java/lang/String", "coder", "B", true)
  | 2 => ("java/lang/String", "hash", "I", false)
  | _ => ("java/lang/String", "hashIsZero", "Z", false)
def tyJ0 : Nat → FieldType := fun k => match k with
  | 0 => .array .byte
  | 1 => .byte
  | 2 => .int
  | _ => .boolean
abbrev wsJ00 : List Cond := u_ws RJ0 TJ0 4
theorem nmJ0 : ∀ a, a < 4 → ∀ b, b < 4 → a ≠ b → (TJ0 a).2.1 ≠ (TJ0 b).2.1 := by decide +kernel
theorem tyJ0_ok : ∀ k, k < 4 → parseFieldDescriptor (TJ0 k).2.2.1 = some (tyJ0 k) := by decide +kernel
abbrev cJ0_init : ByteArray := prog_12_method_4_code
def yJ0_init : MethodName := ⟨RJ0, "<init>", "([CII)V"⟩
def dkwJ0_init_0 : List UInt8 := [42, 43, 28, 29, 43, 28, 29, 184, 0, 30, 183, 0, 27, 177]
abbrev dktJ0_init_0 : List UInt8 := dkwJ0_init_0 ++ []
theorem dksJ0_init_0 : cJ0_init.data.toList.drop 0 = dktJ0_init_0 := by decide +kernel
theorem dJ0_init_0 : decode cJ0_init 0 = .ok (.aload_n 0, 1) := dk_42 (dk_at dksJ0_init_0 0 rfl rfl)
theorem dJ0_init_1 : decode cJ0_init 1 = .ok (.aload_n 1, 1) := dk_43 (dk_at dksJ0_init_0 1 rfl rfl)
theorem dJ0_init_2 : decode cJ0_init 2 = .ok (.iload_n 2, 1) := dk_28 (dk_at dksJ0_init_0 2 rfl rfl)
theorem dJ0_init_3 : decode cJ0_init 3 = .ok (.iload_n 3, 1) := dk_29 (dk_at dksJ0_init_0 3 rfl rfl)
theorem dJ0_init_4 : decode cJ0_init 4 = .ok (.aload_n 1, 1) := dk_43 (dk_at dksJ0_init_0 4 rfl rfl)
theorem dJ0_init_5 : decode cJ0_init 5 = .ok (.iload_n 2, 1) := dk_28 (dk_at dksJ0_init_0 5 rfl rfl)
theorem dJ0_init_6 : decode cJ0_init 6 = .ok (.iload_n 3, 1) := dk_29 (dk_at dksJ0_init_0 6 rfl rfl)
theorem dJ0_init_7 : decode cJ0_init 7 = .ok (.invokestatic 30, 3) := dk_184 0 30 (dk_at dksJ0_init_0 7 rfl rfl)
theorem dJ0_init_10 : decode cJ0_init 10 = .ok (.invokespecial 27, 3) := dk_183 0 27 (dk_at dksJ0_init_0 10 rfl rfl)
theorem dJ0_init_13 : decode cJ0_init 13 = .ok (.return_, 1) := dk_177 (dk_at dksJ0_init_0 13 rfl rfl)
abbrev cJ0_rangeCheck : ByteArray := prog_12_method_5_code
def yJ0_rangeCheck : MethodName := ⟨RJ0, "rangeCheck", "([CII)Ljava/lang/Void;"⟩
def dkwJ0_rangeCheck_0 : List UInt8 := [27, 28, 42, 190, 184, 0, 34, 87, 1, 176]
abbrev dktJ0_rangeCheck_0 : List UInt8 := dkwJ0_rangeCheck_0 ++ []
theorem dksJ0_rangeCheck_0 : cJ0_rangeCheck.data.toList.drop 0 = dktJ0_rangeCheck_0 := by decide +kernel
theorem dJ0_rangeCheck_0 : decode cJ0_rangeCheck 0 = .ok (.iload_n 1, 1) := dk_27 (dk_at dksJ0_rangeCheck_0 0 rfl rfl)
theorem dJ0_rangeCheck_1 : decode cJ0_rangeCheck 1 = .ok (.iload_n 2, 1) := dk_28 (dk_at dksJ0_rangeCheck_0 1 rfl rfl)
theorem dJ0_rangeCheck_2 : decode cJ0_rangeCheck 2 = .ok (.aload_n 0, 1) := dk_42 (dk_at dksJ0_rangeCheck_0 2 rfl rfl)
theorem dJ0_rangeCheck_3 : decode cJ0_rangeCheck 3 = .ok (.arraylength, 1) := dk_190 (dk_at dksJ0_rangeCheck_0 3 rfl rfl)
theorem dJ0_rangeCheck_4 : decode cJ0_rangeCheck 4 = .ok (.invokestatic 34, 3) := dk_184 0 34 (dk_at dksJ0_rangeCheck_0 4 rfl rfl)
theorem dJ0_rangeCheck_7 : decode cJ0_rangeCheck 7 = .ok (.pop, 1) := dk_87 (dk_at dksJ0_rangeCheck_0 7 rfl rfl)
theorem dJ0_rangeCheck_8 : decode cJ0_rangeCheck 8 = .ok (.aconst_null, 1) := dk_1 (dk_at dksJ0_rangeCheck_0 8 rfl rfl)
theorem dJ0_rangeCheck_9 : decode cJ0_rangeCheck 9 = .ok (.areturn, 1) := dk_176 (dk_at dksJ0_rangeCheck_0 9 rfl rfl)
abbrev cJ0_checkBoundsOffCount : ByteArray := prog_12_method_157_code
def yJ0_checkBoundsOffCount : MethodName := ⟨RJ0, "checkBoundsOffCount", "(III)I"⟩
def dkwJ0_checkBoundsOffCount_0 : List UInt8 := [26, 27, 28, 178, 4, 29, 184, 4, 41, 172]
abbrev dktJ0_checkBoundsOffCount_0 : List UInt8 := dkwJ0_checkBoundsOffCount_0 ++ []
theorem dksJ0_checkBoundsOffCount_0 : cJ0_checkBoundsOffCount.data.toList.drop 0 = dktJ0_checkBoundsOffCount_0 := by decide +kernel
theorem dJ0_checkBoundsOffCount_0 : decode cJ0_checkBoundsOffCount 0 = .ok (.iload_n 0, 1) := dk_26 (dk_at dksJ0_checkBoundsOffCount_0 0 rfl rfl)
theorem dJ0_checkBoundsOffCount_1 : decode cJ0_checkBoundsOffCount 1 = .ok (.iload_n 1, 1) := dk_27 (dk_at dksJ0_checkBoundsOffCount_0 1 rfl rfl)
theorem dJ0_checkBoundsOffCount_2 : decode cJ0_checkBoundsOffCount 2 = .ok (.iload_n 2, 1) := dk_28 (dk_at dksJ0_checkBoundsOffCount_0 2 rfl rfl)
theorem dJ0_checkBoundsOffCount_3 : decode cJ0_checkBoundsOffCount 3 = .ok (.getstatic 1053, 3) := dk_178 4 29 (dk_at dksJ0_checkBoundsOffCount_0 3 rfl rfl)
theorem dJ0_checkBoundsOffCount_6 : decode cJ0_checkBoundsOffCount 6 = .ok (.invokestatic 1065, 3) := dk_184 4 41 (dk_at dksJ0_checkBoundsOffCount_0 6 rfl rfl)
theorem dJ0_checkBoundsOffCount_9 : decode cJ0_checkBoundsOffCount 9 = .ok (.ireturn, 1) := dk_172 (dk_at dksJ0_checkBoundsOffCount_0 9 rfl rfl)
abbrev cJ0_init_2 : ByteArray := prog_12_method_149_code
def yJ0_init_2 : MethodName := ⟨RJ0, "<init>", "([CIILjava/lang/Void;)V"⟩
def dkwJ0_init_2_3 : List UInt8 := [184, 0, 180, 181, 0, 9, 177]
abbrev dktJ0_init_2_3 : List UInt8 := dkwJ0_init_2_3 ++ []
def dkwJ0_init_2_2 : List UInt8 := [184, 0, 47, 181, 0, 15, 42, 25, 5, 181, 0, 9, 177, 42, 4, 181, 0, 15, 42, 43, 28, 29]
abbrev dktJ0_init_2_2 : List UInt8 := dkwJ0_init_2_2 ++ dktJ0_init_2_3
def dkwJ0_init_2_1 : List UInt8 := [181, 0, 15, 177, 178, 0, 38, 153, 0, 28, 43, 28, 29, 184, 0, 177, 58, 5, 42, 25, 5, 29]
abbrev dktJ0_init_2_1 : List UInt8 := dkwJ0_init_2_1 ++ dktJ0_init_2_2
def dkwJ0_init_2_0 : List UInt8 := [42, 183, 0, 1, 29, 154, 0, 22, 42, 18, 7, 180, 0, 9, 181, 0, 9, 42, 18, 7, 180, 0, 15]
abbrev dktJ0_init_2_0 : List UInt8 := dkwJ0_init_2_0 ++ dktJ0_init_2_1
theorem dksJ0_init_2_0 : cJ0_init_2.data.toList.drop 0 = dktJ0_init_2_0 := by decide +kernel
theorem dksJ0_init_2_1 : cJ0_init_2.data.toList.drop 23 = dktJ0_init_2_1 := dk_seg dksJ0_init_2_0 23 rfl rfl
theorem dksJ0_init_2_2 : cJ0_init_2.data.toList.drop 45 = dktJ0_init_2_2 := dk_seg dksJ0_init_2_1 22 rfl rfl
theorem dksJ0_init_2_3 : cJ0_init_2.data.toList.drop 67 = dktJ0_init_2_3 := dk_seg dksJ0_init_2_2 22 rfl rfl
theorem dJ0_init_2_0 : decode cJ0_init_2 0 = .ok (.aload_n 0, 1) := dk_42 (dk_at dksJ0_init_2_0 0 rfl rfl)
theorem dJ0_init_2_1 : decode cJ0_init_2 1 = .ok (.invokespecial 1, 3) := dk_183 0 1 (dk_at dksJ0_init_2_0 1 rfl rfl)
theorem dJ0_init_2_4 : decode cJ0_init_2 4 = .ok (.iload_n 3, 1) := dk_29 (dk_at dksJ0_init_2_0 4 rfl rfl)
theorem dJ0_init_2_5 : decode cJ0_init_2 5 = .ok (.ifCond .ne 22, 3) := dk_154 0 22 (dk_at dksJ0_init_2_0 5 rfl rfl)
theorem dJ0_init_2_8 : decode cJ0_init_2 8 = .ok (.aload_n 0, 1) := dk_42 (dk_at dksJ0_init_2_0 8 rfl rfl)
theorem dJ0_init_2_9 : decode cJ0_init_2 9 = .ok (.ldc 7, 2) := dk_18 7 (dk_at dksJ0_init_2_0 9 rfl rfl)
theorem dJ0_init_2_11 : decode cJ0_init_2 11 = .ok (.getfield 9, 3) := dk_180 0 9 (dk_at dksJ0_init_2_0 11 rfl rfl)
theorem dJ0_init_2_14 : decode cJ0_init_2 14 = .ok (.putfield 9, 3) := dk_181 0 9 (dk_at dksJ0_init_2_0 14 rfl rfl)
theorem dJ0_init_2_17 : decode cJ0_init_2 17 = .ok (.aload_n 0, 1) := dk_42 (dk_at dksJ0_init_2_0 17 rfl rfl)
theorem dJ0_init_2_18 : decode cJ0_init_2 18 = .ok (.ldc 7, 2) := dk_18 7 (dk_at dksJ0_init_2_0 18 rfl rfl)
theorem dJ0_init_2_20 : decode cJ0_init_2 20 = .ok (.getfield 15, 3) := dk_180 0 15 (dk_at dksJ0_init_2_0 20 rfl rfl)
theorem dJ0_init_2_23 : decode cJ0_init_2 23 = .ok (.putfield 15, 3) := dk_181 0 15 (dk_at dksJ0_init_2_1 0 rfl rfl)
theorem dJ0_init_2_26 : decode cJ0_init_2 26 = .ok (.return_, 1) := dk_177 (dk_at dksJ0_init_2_1 3 rfl rfl)
theorem dJ0_init_2_27 : decode cJ0_init_2 27 = .ok (.getstatic 38, 3) := dk_178 0 38 (dk_at dksJ0_init_2_1 4 rfl rfl)
theorem dJ0_init_2_30 : decode cJ0_init_2 30 = .ok (.ifCond .eq 28, 3) := dk_153 0 28 (dk_at dksJ0_init_2_1 7 rfl rfl)
theorem dJ0_init_2_33 : decode cJ0_init_2 33 = .ok (.aload_n 1, 1) := dk_43 (dk_at dksJ0_init_2_1 10 rfl rfl)
theorem dJ0_init_2_34 : decode cJ0_init_2 34 = .ok (.iload_n 2, 1) := dk_28 (dk_at dksJ0_init_2_1 11 rfl rfl)
theorem dJ0_init_2_35 : decode cJ0_init_2 35 = .ok (.iload_n 3, 1) := dk_29 (dk_at dksJ0_init_2_1 12 rfl rfl)
theorem dJ0_init_2_36 : decode cJ0_init_2 36 = .ok (.invokestatic 177, 3) := dk_184 0 177 (dk_at dksJ0_init_2_1 13 rfl rfl)
theorem dJ0_init_2_39 : decode cJ0_init_2 39 = .ok (.astore 5, 2) := dk_58 5 (dk_at dksJ0_init_2_1 16 rfl rfl)
theorem dJ0_init_2_41 : decode cJ0_init_2 41 = .ok (.aload_n 0, 1) := dk_42 (dk_at dksJ0_init_2_1 18 rfl rfl)
theorem dJ0_init_2_42 : decode cJ0_init_2 42 = .ok (.aload 5, 2) := dk_25 5 (dk_at dksJ0_init_2_1 19 rfl rfl)
theorem dJ0_init_2_44 : decode cJ0_init_2 44 = .ok (.iload_n 3, 1) := dk_29 (dk_at dksJ0_init_2_1 21 rfl rfl)
theorem dJ0_init_2_45 : decode cJ0_init_2 45 = .ok (.invokestatic 47, 3) := dk_184 0 47 (dk_at dksJ0_init_2_2 0 rfl rfl)
theorem dJ0_init_2_48 : decode cJ0_init_2 48 = .ok (.putfield 15, 3) := dk_181 0 15 (dk_at dksJ0_init_2_2 3 rfl rfl)
theorem dJ0_init_2_51 : decode cJ0_init_2 51 = .ok (.aload_n 0, 1) := dk_42 (dk_at dksJ0_init_2_2 6 rfl rfl)
theorem dJ0_init_2_52 : decode cJ0_init_2 52 = .ok (.aload 5, 2) := dk_25 5 (dk_at dksJ0_init_2_2 7 rfl rfl)
theorem dJ0_init_2_54 : decode cJ0_init_2 54 = .ok (.putfield 9, 3) := dk_181 0 9 (dk_at dksJ0_init_2_2 9 rfl rfl)
theorem dJ0_init_2_57 : decode cJ0_init_2 57 = .ok (.return_, 1) := dk_177 (dk_at dksJ0_init_2_2 12 rfl rfl)
theorem dJ0_init_2_58 : decode cJ0_init_2 58 = .ok (.aload_n 0, 1) := dk_42 (dk_at dksJ0_init_2_2 13 rfl rfl)
theorem dJ0_init_2_59 : decode cJ0_init_2 59 = .ok (.iconst 1, 1) := dk_4 (dk_at dksJ0_init_2_2 14 rfl rfl)
theorem dJ0_init_2_60 : decode cJ0_init_2 60 = .ok (.putfield 15, 3) := dk_181 0 15 (dk_at dksJ0_init_2_2 15 rfl rfl)
theorem dJ0_init_2_63 : decode cJ0_init_2 63 = .ok (.aload_n 0, 1) := dk_42 (dk_at dksJ0_init_2_2 18 rfl rfl)
theorem dJ0_init_2_64 : decode cJ0_init_2 64 = .ok (.aload_n 1, 1) := dk_43 (dk_at dksJ0_init_2_2 19 rfl rfl)
theorem dJ0_init_2_65 : decode cJ0_init_2 65 = .ok (.iload_n 2, 1) := dk_28 (dk_at dksJ0_init_2_2 20 rfl rfl)
theorem dJ0_init_2_66 : decode cJ0_init_2 66 = .ok (.iload_n 3, 1) := dk_29 (dk_at dksJ0_init_2_2 21 rfl rfl)
theorem dJ0_init_2_67 : decode cJ0_init_2 67 = .ok (.invokestatic 180, 3) := dk_184 0 180 (dk_at dksJ0_init_2_3 0 rfl rfl)
theorem dJ0_init_2_70 : decode cJ0_init_2 70 = .ok (.putfield 9, 3) := dk_181 0 9 (dk_at dksJ0_init_2_3 3 rfl rfl)
theorem dJ0_init_2_73 : decode cJ0_init_2 73 = .ok (.return_, 1) := dk_177 (dk_at dksJ0_init_2_3 6 rfl rfl)
abbrev cJ0_length : ByteArray := prog_12_method_54_code
def yJ0_length : MethodName := ⟨RJ0, "length", "()I"⟩
def dkwJ0_length_0 : List UInt8 := [42, 180, 0, 9, 190, 42, 182, 1, 79, 122, 172]
abbrev dktJ0_length_0 : List UInt8 := dkwJ0_length_0 ++ []
theorem dksJ0_length_0 : cJ0_length.data.toList.drop 0 = dktJ0_length_0 := by decide +kernel
theorem dJ0_length_0 : decode cJ0_length 0 = .ok (.aload_n 0, 1) := dk_42 (dk_at dksJ0_length_0 0 rfl rfl)
theorem dJ0_length_1 : decode cJ0_length 1 = .ok (.getfield 9, 3) := dk_180 0 9 (dk_at dksJ0_length_0 1 rfl rfl)
theorem dJ0_length_4 : decode cJ0_length 4 = .ok (.arraylength, 1) := dk_190 (dk_at dksJ0_length_0 4 rfl rfl)
theorem dJ0_length_5 : decode cJ0_length 5 = .ok (.aload_n 0, 1) := dk_42 (dk_at dksJ0_length_0 5 rfl rfl)
theorem dJ0_length_6 : decode cJ0_length 6 = .ok (.invokevirtual 335, 3) := dk_182 1 79 (dk_at dksJ0_length_0 6 rfl rfl)
theorem dJ0_length_9 : decode cJ0_length 9 = .ok (.ishr, 1) := dk_122 (dk_at dksJ0_length_0 9 rfl rfl)
theorem dJ0_length_10 : decode cJ0_length 10 = .ok (.ireturn, 1) := dk_172 (dk_at dksJ0_length_0 10 rfl rfl)
abbrev cJ0_coder : ByteArray := prog_12_method_152_code
def yJ0_coder : MethodName := ⟨RJ0, "coder", "()B"⟩
def dkwJ0_coder_0 : List UInt8 := [178, 0, 38, 153, 0, 10, 42, 180, 0, 15, 167, 0, 4, 4, 172]
abbrev dktJ0_coder_0 : List UInt8 := dkwJ0_coder_0 ++ []
theorem dksJ0_coder_0 : cJ0_coder.data.toList.drop 0 = dktJ0_coder_0 := by decide +kernel
theorem dJ0_coder_0 : decode cJ0_coder 0 = .ok (.getstatic 38, 3) := dk_178 0 38 (dk_at dksJ0_coder_0 0 rfl rfl)
theorem dJ0_coder_3 : decode cJ0_coder 3 = .ok (.ifCond .eq 10, 3) := dk_153 0 10 (dk_at dksJ0_coder_0 3 rfl rfl)
theorem dJ0_coder_6 : decode cJ0_coder 6 = .ok (.aload_n 0, 1) := dk_42 (dk_at dksJ0_coder_0 6 rfl rfl)
theorem dJ0_coder_7 : decode cJ0_coder 7 = .ok (.getfield 15, 3) := dk_180 0 15 (dk_at dksJ0_coder_0 7 rfl rfl)
theorem dJ0_coder_10 : decode cJ0_coder 10 = .ok (.goto 4, 3) := dk_167 0 4 (dk_at dksJ0_coder_0 10 rfl rfl)
theorem dJ0_coder_13 : decode cJ0_coder 13 = .ok (.iconst 1, 1) := dk_4 (dk_at dksJ0_coder_0 13 rfl rfl)
theorem dJ0_coder_14 : decode cJ0_coder 14 = .ok (.ireturn, 1) := dk_172 (dk_at dksJ0_coder_0 14 rfl rfl)
abbrev cJ0_charAt : ByteArray := prog_12_method_56_code
def yJ0_charAt : MethodName := ⟨RJ0, "charAt", "(I)C"⟩
def dkwJ0_charAt_1 : List UInt8 := [172]
abbrev dktJ0_charAt_1 : List UInt8 := dkwJ0_charAt_1 ++ []
def dkwJ0_charAt_0 : List UInt8 := [42, 182, 1, 236, 153, 0, 12, 42, 180, 0, 9, 27, 184, 1, 239, 172, 42, 180, 0, 9, 27, 184, 1, 242]
abbrev dktJ0_charAt_0 : List UInt8 := dkwJ0_charAt_0 ++ dktJ0_charAt_1
theorem dksJ0_charAt_0 : cJ0_charAt.data.toList.drop 0 = dktJ0_charAt_0 := by decide +kernel
theorem dksJ0_charAt_1 : cJ0_charAt.data.toList.drop 24 = dktJ0_charAt_1 := dk_seg dksJ0_charAt_0 24 rfl rfl
theorem dJ0_charAt_0 : decode cJ0_charAt 0 = .ok (.aload_n 0, 1) := dk_42 (dk_at dksJ0_charAt_0 0 rfl rfl)
theorem dJ0_charAt_1 : decode cJ0_charAt 1 = .ok (.invokevirtual 492, 3) := dk_182 1 236 (dk_at dksJ0_charAt_0 1 rfl rfl)
theorem dJ0_charAt_4 : decode cJ0_charAt 4 = .ok (.ifCond .eq 12, 3) := dk_153 0 12 (dk_at dksJ0_charAt_0 4 rfl rfl)
theorem dJ0_charAt_7 : decode cJ0_charAt 7 = .ok (.aload_n 0, 1) := dk_42 (dk_at dksJ0_charAt_0 7 rfl rfl)
theorem dJ0_charAt_8 : decode cJ0_charAt 8 = .ok (.getfield 9, 3) := dk_180 0 9 (dk_at dksJ0_charAt_0 8 rfl rfl)
theorem dJ0_charAt_11 : decode cJ0_charAt 11 = .ok (.iload_n 1, 1) := dk_27 (dk_at dksJ0_charAt_0 11 rfl rfl)
theorem dJ0_charAt_12 : decode cJ0_charAt 12 = .ok (.invokestatic 495, 3) := dk_184 1 239 (dk_at dksJ0_charAt_0 12 rfl rfl)
theorem dJ0_charAt_15 : decode cJ0_charAt 15 = .ok (.ireturn, 1) := dk_172 (dk_at dksJ0_charAt_0 15 rfl rfl)
theorem dJ0_charAt_16 : decode cJ0_charAt 16 = .ok (.aload_n 0, 1) := dk_42 (dk_at dksJ0_charAt_0 16 rfl rfl)
theorem dJ0_charAt_17 : decode cJ0_charAt 17 = .ok (.getfield 9, 3) := dk_180 0 9 (dk_at dksJ0_charAt_0 17 rfl rfl)
theorem dJ0_charAt_20 : decode cJ0_charAt 20 = .ok (.iload_n 1, 1) := dk_27 (dk_at dksJ0_charAt_0 20 rfl rfl)
theorem dJ0_charAt_21 : decode cJ0_charAt 21 = .ok (.invokestatic 498, 3) := dk_184 1 242 (dk_at dksJ0_charAt_0 21 rfl rfl)
theorem dJ0_charAt_24 : decode cJ0_charAt 24 = .ok (.ireturn, 1) := dk_172 (dk_at dksJ0_charAt_1 0 rfl rfl)
abbrev cJ0_isLatin1 : ByteArray := prog_12_method_154_code
def yJ0_isLatin1 : MethodName := ⟨RJ0, "isLatin1", "()Z"⟩
def dkwJ0_isLatin1_0 : List UInt8 := [178, 0, 38, 153, 0, 14, 42, 180, 0, 15, 154, 0, 7, 4, 167, 0, 4, 3, 172]
abbrev dktJ0_isLatin1_0 : List UInt8 := dkwJ0_isLatin1_0 ++ []
theorem dksJ0_isLatin1_0 : cJ0_isLatin1.data.toList.drop 0 = dktJ0_isLatin1_0 := by decide +kernel
theorem dJ0_isLatin1_0 : decode cJ0_isLatin1 0 = .ok (.getstatic 38, 3) := dk_178 0 38 (dk_at dksJ0_isLatin1_0 0 rfl rfl)
theorem dJ0_isLatin1_3 : decode cJ0_isLatin1 3 = .ok (.ifCond .eq 14, 3) := dk_153 0 14 (dk_at dksJ0_isLatin1_0 3 rfl rfl)
theorem dJ0_isLatin1_6 : decode cJ0_isLatin1 6 = .ok (.aload_n 0, 1) := dk_42 (dk_at dksJ0_isLatin1_0 6 rfl rfl)
theorem dJ0_isLatin1_7 : decode cJ0_isLatin1 7 = .ok (.getfield 15, 3) := dk_180 0 15 (dk_at dksJ0_isLatin1_0 7 rfl rfl)
theorem dJ0_isLatin1_10 : decode cJ0_isLatin1 10 = .ok (.ifCond .ne 7, 3) := dk_154 0 7 (dk_at dksJ0_isLatin1_0 10 rfl rfl)
theorem dJ0_isLatin1_13 : decode cJ0_isLatin1 13 = .ok (.iconst 1, 1) := dk_4 (dk_at dksJ0_isLatin1_0 13 rfl rfl)
theorem dJ0_isLatin1_14 : decode cJ0_isLatin1 14 = .ok (.goto 4, 3) := dk_167 0 4 (dk_at dksJ0_isLatin1_0 14 rfl rfl)
theorem dJ0_isLatin1_17 : decode cJ0_isLatin1 17 = .ok (.iconst 0, 1) := dk_3 (dk_at dksJ0_isLatin1_0 17 rfl rfl)
theorem dJ0_isLatin1_18 : decode cJ0_isLatin1 18 = .ok (.ireturn, 1) := dk_172 (dk_at dksJ0_isLatin1_0 18 rfl rfl)
abbrev cJ0_checkIndex : ByteArray := prog_12_method_155_code
def yJ0_checkIndex : MethodName := ⟨RJ0, "checkIndex", "(II)V"⟩
def dkwJ0_checkIndex_0 : List UInt8 := [26, 27, 178, 4, 29, 184, 4, 35, 87, 177]
abbrev dktJ0_checkIndex_0 : List UInt8 := dkwJ0_checkIndex_0 ++ []
theorem dksJ0_checkIndex_0 : cJ0_checkIndex.data.toList.drop 0 = dktJ0_checkIndex_0 := by decide +kernel
theorem dJ0_checkIndex_0 : decode cJ0_checkIndex 0 = .ok (.iload_n 0, 1) := dk_26 (dk_at dksJ0_checkIndex_0 0 rfl rfl)
theorem dJ0_checkIndex_1 : decode cJ0_checkIndex 1 = .ok (.iload_n 1, 1) := dk_27 (dk_at dksJ0_checkIndex_0 1 rfl rfl)
theorem dJ0_checkIndex_2 : decode cJ0_checkIndex 2 = .ok (.getstatic 1053, 3) := dk_178 4 29 (dk_at dksJ0_checkIndex_0 2 rfl rfl)
theorem dJ0_checkIndex_5 : decode cJ0_checkIndex 5 = .ok (.invokestatic 1059, 3) := dk_184 4 35 (dk_at dksJ0_checkIndex_0 5 rfl rfl)
theorem dJ0_checkIndex_8 : decode cJ0_checkIndex 8 = .ok (.pop, 1) := dk_87 (dk_at dksJ0_checkIndex_0 8 rfl rfl)
theorem dJ0_checkIndex_9 : decode cJ0_checkIndex 9 = .ok (.return_, 1) := dk_177 (dk_at dksJ0_checkIndex_0 9 rfl rfl)
abbrev cJ0_init_3 : ByteArray := prog_12_method_53_code
def yJ0_init_3 : MethodName := ⟨RJ0, "<init>", "(Ljava/lang/StringBuilder;)V"⟩
def dkwJ0_init_3_0 : List UInt8 := [42, 43, 1, 183, 1, 233, 177]
abbrev dktJ0_init_3_0 : List UInt8 := dkwJ0_init_3_0 ++ []
theorem dksJ0_init_3_0 : cJ0_init_3.data.toList.drop 0 = dktJ0_init_3_0 := by decide +kernel
theorem dJ0_init_3_0 : decode cJ0_init_3 0 = .ok (.aload_n 0, 1) := dk_42 (dk_at dksJ0_init_3_0 0 rfl rfl)
theorem dJ0_init_3_1 : decode cJ0_init_3 1 = .ok (.aload_n 1, 1) := dk_43 (dk_at dksJ0_init_3_0 1 rfl rfl)
theorem dJ0_init_3_2 : decode cJ0_init_3 2 = .ok (.aconst_null, 1) := dk_1 (dk_at dksJ0_init_3_0 2 rfl rfl)
theorem dJ0_init_3_3 : decode cJ0_init_3 3 = .ok (.invokespecial 489, 3) := dk_183 1 233 (dk_at dksJ0_init_3_0 3 rfl rfl)
theorem dJ0_init_3_6 : decode cJ0_init_3 6 = .ok (.return_, 1) := dk_177 (dk_at dksJ0_init_3_0 6 rfl rfl)
abbrev cJ0_init_4 : ByteArray := prog_12_method_150_code
def yJ0_init_4 : MethodName := ⟨RJ0, "<init>", "(Ljava/lang/AbstractStringBuilder;Ljava/lang/Void;)V"⟩
def dkwJ0_init_4_4 : List UInt8 := [181, 0, 9, 177]
abbrev dktJ0_init_4_4 : List UInt8 := dkwJ0_init_4_4 ++ []
def dkwJ0_init_4_3 : List UInt8 := [184, 0, 47, 181, 0, 15, 177, 42, 4, 181, 0, 15, 42, 45, 3, 21, 4, 4, 120, 184, 0, 54]
abbrev dktJ0_init_4_3 : List UInt8 := dkwJ0_init_4_3 ++ dktJ0_init_4_4
def dkwJ0_init_4_2 : List UInt8 := [180, 4, 24, 153, 0, 28, 42, 45, 3, 21, 4, 184, 4, 27, 181, 0, 9, 42, 42, 180, 0, 9, 21, 4]
abbrev dktJ0_init_4_2 : List UInt8 := dkwJ0_init_4_2 ++ dktJ0_init_4_3
def dkwJ0_init_4_1 : List UInt8 := [181, 0, 15, 42, 45, 3, 21, 4, 184, 0, 54, 181, 0, 9, 167, 0, 59, 178, 0, 38, 153, 0, 35, 43]
abbrev dktJ0_init_4_1 : List UInt8 := dkwJ0_init_4_1 ++ dktJ0_init_4_2
def dkwJ0_init_4_0 : List UInt8 := [42, 183, 0, 1, 43, 182, 2, 40, 78, 43, 182, 2, 37, 54, 4, 43, 182, 4, 23, 153, 0, 22, 42, 3]
abbrev dktJ0_init_4_0 : List UInt8 := dkwJ0_init_4_0 ++ dktJ0_init_4_1
theorem dksJ0_init_4_0 : cJ0_init_4.data.toList.drop 0 = dktJ0_init_4_0 := by decide +kernel
theorem dksJ0_init_4_1 : cJ0_init_4.data.toList.drop 24 = dktJ0_init_4_1 := dk_seg dksJ0_init_4_0 24 rfl rfl
theorem dksJ0_init_4_2 : cJ0_init_4.data.toList.drop 48 = dktJ0_init_4_2 := dk_seg dksJ0_init_4_1 24 rfl rfl
theorem dksJ0_init_4_3 : cJ0_init_4.data.toList.drop 72 = dktJ0_init_4_3 := dk_seg dksJ0_init_4_2 24 rfl rfl
theorem dksJ0_init_4_4 : cJ0_init_4.data.toList.drop 94 = dktJ0_init_4_4 := dk_seg dksJ0_init_4_3 22 rfl rfl
theorem dJ0_init_4_0 : decode cJ0_init_4 0 = .ok (.aload_n 0, 1) := dk_42 (dk_at dksJ0_init_4_0 0 rfl rfl)
theorem dJ0_init_4_1 : decode cJ0_init_4 1 = .ok (.invokespecial 1, 3) := dk_183 0 1 (dk_at dksJ0_init_4_0 1 rfl rfl)
theorem dJ0_init_4_4 : decode cJ0_init_4 4 = .ok (.aload_n 1, 1) := dk_43 (dk_at dksJ0_init_4_0 4 rfl rfl)
theorem dJ0_init_4_5 : decode cJ0_init_4 5 = .ok (.invokevirtual 552, 3) := dk_182 2 40 (dk_at dksJ0_init_4_0 5 rfl rfl)
theorem dJ0_init_4_8 : decode cJ0_init_4 8 = .ok (.astore_n 3, 1) := dk_78 (dk_at dksJ0_init_4_0 8 rfl rfl)
theorem dJ0_init_4_9 : decode cJ0_init_4 9 = .ok (.aload_n 1, 1) := dk_43 (dk_at dksJ0_init_4_0 9 rfl rfl)
theorem dJ0_init_4_10 : decode cJ0_init_4 10 = .ok (.invokevirtual 549, 3) := dk_182 2 37 (dk_at dksJ0_init_4_0 10 rfl rfl)
theorem dJ0_init_4_13 : decode cJ0_init_4 13 = .ok (.istore 4, 2) := dk_54 4 (dk_at dksJ0_init_4_0 13 rfl rfl)
theorem dJ0_init_4_15 : decode cJ0_init_4 15 = .ok (.aload_n 1, 1) := dk_43 (dk_at dksJ0_init_4_0 15 rfl rfl)
theorem dJ0_init_4_16 : decode cJ0_init_4 16 = .ok (.invokevirtual 1047, 3) := dk_182 4 23 (dk_at dksJ0_init_4_0 16 rfl rfl)
theorem dJ0_init_4_19 : decode cJ0_init_4 19 = .ok (.ifCond .eq 22, 3) := dk_153 0 22 (dk_at dksJ0_init_4_0 19 rfl rfl)
theorem dJ0_init_4_22 : decode cJ0_init_4 22 = .ok (.aload_n 0, 1) := dk_42 (dk_at dksJ0_init_4_0 22 rfl rfl)
theorem dJ0_init_4_23 : decode cJ0_init_4 23 = .ok (.iconst 0, 1) := dk_3 (dk_at dksJ0_init_4_0 23 rfl rfl)
theorem dJ0_init_4_24 : decode cJ0_init_4 24 = .ok (.putfield 15, 3) := dk_181 0 15 (dk_at dksJ0_init_4_1 0 rfl rfl)
theorem dJ0_init_4_27 : decode cJ0_init_4 27 = .ok (.aload_n 0, 1) := dk_42 (dk_at dksJ0_init_4_1 3 rfl rfl)
theorem dJ0_init_4_28 : decode cJ0_init_4 28 = .ok (.aload_n 3, 1) := dk_45 (dk_at dksJ0_init_4_1 4 rfl rfl)
theorem dJ0_init_4_29 : decode cJ0_init_4 29 = .ok (.iconst 0, 1) := dk_3 (dk_at dksJ0_init_4_1 5 rfl rfl)
theorem dJ0_init_4_30 : decode cJ0_init_4 30 = .ok (.iload 4, 2) := dk_21 4 (dk_at dksJ0_init_4_1 6 rfl rfl)
theorem dJ0_init_4_32 : decode cJ0_init_4 32 = .ok (.invokestatic 54, 3) := dk_184 0 54 (dk_at dksJ0_init_4_1 8 rfl rfl)
theorem dJ0_init_4_35 : decode cJ0_init_4 35 = .ok (.putfield 9, 3) := dk_181 0 9 (dk_at dksJ0_init_4_1 11 rfl rfl)
theorem dJ0_init_4_38 : decode cJ0_init_4 38 = .ok (.goto 59, 3) := dk_167 0 59 (dk_at dksJ0_init_4_1 14 rfl rfl)
theorem dJ0_init_4_41 : decode cJ0_init_4 41 = .ok (.getstatic 38, 3) := dk_178 0 38 (dk_at dksJ0_init_4_1 17 rfl rfl)
theorem dJ0_init_4_44 : decode cJ0_init_4 44 = .ok (.ifCond .eq 35, 3) := dk_153 0 35 (dk_at dksJ0_init_4_1 20 rfl rfl)
theorem dJ0_init_4_47 : decode cJ0_init_4 47 = .ok (.aload_n 1, 1) := dk_43 (dk_at dksJ0_init_4_1 23 rfl rfl)
theorem dJ0_init_4_48 : decode cJ0_init_4 48 = .ok (.getfield 1048, 3) := dk_180 4 24 (dk_at dksJ0_init_4_2 0 rfl rfl)
theorem dJ0_init_4_51 : decode cJ0_init_4 51 = .ok (.ifCond .eq 28, 3) := dk_153 0 28 (dk_at dksJ0_init_4_2 3 rfl rfl)
theorem dJ0_init_4_54 : decode cJ0_init_4 54 = .ok (.aload_n 0, 1) := dk_42 (dk_at dksJ0_init_4_2 6 rfl rfl)
theorem dJ0_init_4_55 : decode cJ0_init_4 55 = .ok (.aload_n 3, 1) := dk_45 (dk_at dksJ0_init_4_2 7 rfl rfl)
theorem dJ0_init_4_56 : decode cJ0_init_4 56 = .ok (.iconst 0, 1) := dk_3 (dk_at dksJ0_init_4_2 8 rfl rfl)
theorem dJ0_init_4_57 : decode cJ0_init_4 57 = .ok (.iload 4, 2) := dk_21 4 (dk_at dksJ0_init_4_2 9 rfl rfl)
theorem dJ0_init_4_59 : decode cJ0_init_4 59 = .ok (.invokestatic 1051, 3) := dk_184 4 27 (dk_at dksJ0_init_4_2 11 rfl rfl)
theorem dJ0_init_4_62 : decode cJ0_init_4 62 = .ok (.putfield 9, 3) := dk_181 0 9 (dk_at dksJ0_init_4_2 14 rfl rfl)
theorem dJ0_init_4_65 : decode cJ0_init_4 65 = .ok (.aload_n 0, 1) := dk_42 (dk_at dksJ0_init_4_2 17 rfl rfl)
theorem dJ0_init_4_66 : decode cJ0_init_4 66 = .ok (.aload_n 0, 1) := dk_42 (dk_at dksJ0_init_4_2 18 rfl rfl)
theorem dJ0_init_4_67 : decode cJ0_init_4 67 = .ok (.getfield 9, 3) := dk_180 0 9 (dk_at dksJ0_init_4_2 19 rfl rfl)
theorem dJ0_init_4_70 : decode cJ0_init_4 70 = .ok (.iload 4, 2) := dk_21 4 (dk_at dksJ0_init_4_2 22 rfl rfl)
theorem dJ0_init_4_72 : decode cJ0_init_4 72 = .ok (.invokestatic 47, 3) := dk_184 0 47 (dk_at dksJ0_init_4_3 0 rfl rfl)
theorem dJ0_init_4_75 : decode cJ0_init_4 75 = .ok (.putfield 15, 3) := dk_181 0 15 (dk_at dksJ0_init_4_3 3 rfl rfl)
theorem dJ0_init_4_78 : decode cJ0_init_4 78 = .ok (.return_, 1) := dk_177 (dk_at dksJ0_init_4_3 6 rfl rfl)
theorem dJ0_init_4_79 : decode cJ0_init_4 79 = .ok (.aload_n 0, 1) := dk_42 (dk_at dksJ0_init_4_3 7 rfl rfl)
theorem dJ0_init_4_80 : decode cJ0_init_4 80 = .ok (.iconst 1, 1) := dk_4 (dk_at dksJ0_init_4_3 8 rfl rfl)
theorem dJ0_init_4_81 : decode cJ0_init_4 81 = .ok (.putfield 15, 3) := dk_181 0 15 (dk_at dksJ0_init_4_3 9 rfl rfl)
theorem dJ0_init_4_84 : decode cJ0_init_4 84 = .ok (.aload_n 0, 1) := dk_42 (dk_at dksJ0_init_4_3 12 rfl rfl)
theorem dJ0_init_4_85 : decode cJ0_init_4 85 = .ok (.aload_n 3, 1) := dk_45 (dk_at dksJ0_init_4_3 13 rfl rfl)
theorem dJ0_init_4_86 : decode cJ0_init_4 86 = .ok (.iconst 0, 1) := dk_3 (dk_at dksJ0_init_4_3 14 rfl rfl)
theorem dJ0_init_4_87 : decode cJ0_init_4 87 = .ok (.iload 4, 2) := dk_21 4 (dk_at dksJ0_init_4_3 15 rfl rfl)
theorem dJ0_init_4_89 : decode cJ0_init_4 89 = .ok (.iconst 1, 1) := dk_4 (dk_at dksJ0_init_4_3 17 rfl rfl)
theorem dJ0_init_4_90 : decode cJ0_init_4 90 = .ok (.ishl, 1) := dk_120 (dk_at dksJ0_init_4_3 18 rfl rfl)
theorem dJ0_init_4_91 : decode cJ0_init_4 91 = .ok (.invokestatic 54, 3) := dk_184 0 54 (dk_at dksJ0_init_4_3 19 rfl rfl)
theorem dJ0_init_4_94 : decode cJ0_init_4 94 = .ok (.putfield 9, 3) := dk_181 0 9 (dk_at dksJ0_init_4_4 0 rfl rfl)
theorem dJ0_init_4_97 : decode cJ0_init_4 97 = .ok (.return_, 1) := dk_177 (dk_at dksJ0_init_4_4 3 rfl rfl)
theorem q4 : (Jvm.Cond.initialized "java/lang/String") ∈ lw_all := lw_g (lw_at lw_m1 3 rfl) rfl
theorem q54 : (Jvm.Cond.instantiable "java/lang/String" (4 : Nat)) ∈ lw_all := lw_g (lw_at lw_m1 53 rfl) rfl
theorem q56 : (Jvm.Cond.instanceMethod ({ cls := "java/lang/String", name := "<init>", desc := "([CII)V" } : Jvm.MethodName)) ∈ lw_all := lw_g (lw_at lw_m1 55 rfl) rfl
theorem q57 : (Jvm.Cond.code ({ cls := "java/lang/String", name := "<init>", desc := "([CII)V" } : Jvm.MethodName) prog_12_method_4_code (4 : Nat) (Option.none : Option Jvm.ClassFile.FieldType)) ∈ lw_all := lw_g (lw_at lw_m1 56 rfl) rfl
theorem q58 : (Jvm.Cond.methodLink "java/lang/String" (30 : Nat) ({ cls := "java/lang/String", name := "rangeCheck", desc := "([CII)Ljava/lang/Void;" } : Jvm.MethodName)) ∈ lw_all := lw_g (lw_at lw_m1 57 rfl) rfl
theorem q59 : (Jvm.Cond.static ({ cls := "java/lang/String", name := "rangeCheck", desc := "([CII)Ljava/lang/Void;" } : Jvm.MethodName)) ∈ lw_all := lw_g (lw_at lw_m1 58 rfl) rfl
theorem q60 : (Jvm.Cond.code ({ cls := "java/lang/String", name := "rangeCheck", desc := "([CII)Ljava/lang/Void;" } : Jvm.MethodName) prog_12_method_5_code (3 : Nat) (Option.some (Jvm.ClassFile.FieldType.object "java/lang/Void"))) ∈ lw_all := lw_g (lw_at lw_m1 59 rfl) rfl
theorem q61 : (Jvm.Cond.methodLink "java/lang/String" (34 : Nat) ({ cls := "java/lang/String", name := "checkBoundsOffCount", desc := "(III)I" } : Jvm.MethodName)) ∈ lw_all := lw_g (lw_at lw_m1 60 rfl) rfl
theorem q62 : (Jvm.Cond.static ({ cls := "java/lang/String", name := "checkBoundsOffCount", desc := "(III)I" } : Jvm.MethodName)) ∈ lw_all := lw_g (lw_at lw_m1 61 rfl) rfl
theorem q63 : (Jvm.Cond.code ({ cls := "java/lang/String", name := "checkBoundsOffCount", desc := "(III)I" } : Jvm.MethodName) prog_12_method_157_code (3 : Nat) (Option.some Jvm.ClassFile.FieldType.int)) ∈ lw_all := lw_g (lw_at lw_m1 62 rfl) rfl
theorem q64 : (Jvm.Cond.fieldLink "java/lang/String" (1053 : Nat) "jdk/internal/util/Preconditions" "SIOOBE_FORMATTER" "Ljava/util/function/BiFunction;") ∈ lw_all := lw_g (lw_at lw_m1 63 rfl) rfl
theorem q66 : (Jvm.Cond.methodLink "java/lang/String" (1065 : Nat) ({ cls := "jdk/internal/util/Preconditions", name := "checkFromIndexSize", desc := "(IIILjava/util/function/BiFunction;)I" } : Jvm.MethodName)) ∈ lw_all := lw_g (lw_at lw_m1 65 rfl) rfl
theorem q69 : (Jvm.Cond.methodLink "java/lang/String" (27 : Nat) ({ cls := "java/lang/String", name := "<init>", desc := "([CIILjava/lang/Void;)V" } : Jvm.MethodName)) ∈ lw_all := lw_g (lw_at lw_m1 68 rfl) rfl
theorem q70 : (Jvm.Cond.instanceMethod ({ cls := "java/lang/String", name := "<init>", desc := "([CIILjava/lang/Void;)V" } : Jvm.MethodName)) ∈ lw_all := lw_g (lw_at lw_m1 69 rfl) rfl
theorem q71 : (Jvm.Cond.code ({ cls := "java/lang/String", name := "<init>", desc := "([CIILjava/lang/Void;)V" } : Jvm.MethodName) prog_12_method_149_code (6 : Nat) (Option.none : Option Jvm.ClassFile.FieldType)) ∈ lw_all := lw_g (lw_at lw_m1 70 rfl) rfl
theorem q72 : (Jvm.Cond.methodLink "java/lang/String" (1 : Nat) ({ cls := "java/lang/Object", name := "<init>", desc := "()V" } : Jvm.MethodName)) ∈ lw_all := lw_g (lw_at lw_m1 71 rfl) rfl
theorem q73 : (Jvm.Cond.stringRef "java/lang/String" (7 : Nat) "") ∈ lw_tbl := lw_at lw_m1 72 rfl
theorem q74 : (Jvm.Cond.fieldLink "java/lang/String" (38 : Nat) "java/lang/String" "COMPACT_STRINGS" "Z") ∈ lw_all := lw_g (lw_at lw_m1 73 rfl) rfl
theorem q75 : (Jvm.Cond.laysStatic "java/lang/String" "COMPACT_STRINGS" "Z") ∈ lw_tbl := lw_at lw_m1 74 rfl
theorem q76 : (Jvm.Cond.methodLink "java/lang/String" (177 : Nat) ({ cls := "java/lang/StringUTF16", name := "compress", desc := "([CII)[B" } : Jvm.MethodName)) ∈ lw_all := lw_g (lw_at lw_m1 75 rfl) rfl
theorem q114 : (Jvm.Cond.methodLink "java/lang/String" (47 : Nat) ({ cls := "java/lang/StringUTF16", name := "coderFromArrayLen", desc := "([BI)B" } : Jvm.MethodName)) ∈ lw_all := lw_g (lw_at lw_m1 113 rfl) rfl
theorem q117 : (Jvm.Cond.methodLink "java/lang/String" (180 : Nat) ({ cls := "java/lang/StringUTF16", name := "toBytes", desc := "([CII)[B" } : Jvm.MethodName)) ∈ lw_all := lw_g (lw_at lw_m1 116 rfl) rfl
theorem q118 : (Jvm.Cond.fieldLink "java/lang/String" (9 : Nat) "java/lang/String" "value" "[B") ∈ lw_all := lw_g (lw_at lw_m1 117 rfl) rfl
theorem q119 : (Jvm.Cond.fieldLink "java/lang/String" (15 : Nat) "java/lang/String" "coder" "B") ∈ lw_all := lw_g (lw_at lw_m1 118 rfl) rfl
theorem q120 : (Jvm.Cond.laysFinal "java/lang/String" "java/lang/String" "value" "[B") ∈ lw_all := lw_g (lw_at lw_m1 119 rfl) rfl
theorem q121 : (Jvm.Cond.soleField "java/lang/String" "value") ∈ lw_all := lw_g (lw_at lw_m1 120 rfl) rfl
theorem q122 : (Jvm.Cond.laysFinal "java/lang/String" "java/lang/String" "coder" "B") ∈ lw_all := lw_g (lw_at lw_m1 121 rfl) rfl
theorem q123 : (Jvm.Cond.soleField "java/lang/String" "coder") ∈ lw_all := lw_g (lw_at lw_m1 122 rfl) rfl
theorem q124 : (Jvm.Cond.lays "java/lang/String" "java/lang/String" "hash" "I") ∈ lw_all := lw_g (lw_at lw_m1 123 rfl) rfl
theorem q125 : (Jvm.Cond.soleField "java/lang/String" "hash") ∈ lw_all := lw_g (lw_at lw_m1 124 rfl) rfl
theorem q126 : (Jvm.Cond.lays "java/lang/String" "java/lang/String" "hashIsZero" "Z") ∈ lw_all := lw_g (lw_at lw_m1 125 rfl) rfl
theorem q127 : (Jvm.Cond.soleField "java/lang/String" "hashIsZero") ∈ lw_all := lw_g (lw_at lw_m1 126 rfl) rfl
theorem q128 : (Jvm.Cond.superclass "java/lang/String" "java/lang/Object") ∈ lw_all := lw_g (lw_at lw_m1 127 rfl) rfl
theorem q204 : (Jvm.Cond.castable "java/lang/String" "java/lang/CharSequence") ∈ lw_tbl := lw_at lw_m1 203 rfl
theorem q205 : (Jvm.Cond.selects "java/lang/String" ({ cls := "java/lang/CharSequence", name := "length", desc := "()I" } : Jvm.MethodName) ({ cls := "java/lang/String", name := "length", desc := "()I" } : Jvm.MethodName)) ∈ lw_all := lw_g (lw_at lw_m1 204 rfl) rfl
theorem q206 : (Jvm.Cond.unhidden "java/lang/String" "length" "()I") ∈ lw_tbl := lw_at lw_m1 205 rfl
theorem q207 : (Jvm.Cond.instanceMethod ({ cls := "java/lang/String", name := "length", desc := "()I" } : Jvm.MethodName)) ∈ lw_all := lw_g (lw_at lw_m1 206 rfl) rfl
theorem q208 : (Jvm.Cond.publicMethod ({ cls := "java/lang/String", name := "length", desc := "()I" } : Jvm.MethodName)) ∈ lw_tbl := lw_at lw_m1 207 rfl
theorem q209 : (Jvm.Cond.code ({ cls := "java/lang/String", name := "length", desc := "()I" } : Jvm.MethodName) prog_12_method_54_code (1 : Nat) (Option.some Jvm.ClassFile.FieldType.int)) ∈ lw_all := lw_g (lw_at lw_m1 208 rfl) rfl
theorem q210 : (Jvm.Cond.methodLink "java/lang/String" (335 : Nat) ({ cls := "java/lang/String", name := "coder", desc := "()B" } : Jvm.MethodName)) ∈ lw_all := lw_g (lw_at lw_m1 209 rfl) rfl
theorem q211 : (Jvm.Cond.instanceMethod ({ cls := "java/lang/String", name := "coder", desc := "()B" } : Jvm.MethodName)) ∈ lw_all := lw_g (lw_at lw_m1 210 rfl) rfl
theorem q212 : (Jvm.Cond.selects "java/lang/String" ({ cls := "java/lang/String", name := "coder", desc := "()B" } : Jvm.MethodName) ({ cls := "java/lang/String", name := "coder", desc := "()B" } : Jvm.MethodName)) ∈ lw_all := lw_g (lw_at lw_m1 211 rfl) rfl
theorem q213 : (Jvm.Cond.code ({ cls := "java/lang/String", name := "coder", desc := "()B" } : Jvm.MethodName) prog_12_method_152_code (1 : Nat) (Option.some Jvm.ClassFile.FieldType.byte)) ∈ lw_all := lw_g (lw_at lw_m1 212 rfl) rfl
theorem q228 : (Jvm.Cond.selects "java/lang/String" ({ cls := "java/lang/CharSequence", name := "charAt", desc := "(I)C" } : Jvm.MethodName) ({ cls := "java/lang/String", name := "charAt", desc := "(I)C" } : Jvm.MethodName)) ∈ lw_all := lw_g (lw_at lw_m1 227 rfl) rfl
theorem q229 : (Jvm.Cond.unhidden "java/lang/String" "charAt" "(I)C") ∈ lw_tbl := lw_at lw_m1 228 rfl
theorem q230 : (Jvm.Cond.instanceMethod ({ cls := "java/lang/String", name := "charAt", desc := "(I)C" } : Jvm.MethodName)) ∈ lw_all := lw_g (lw_at lw_m1 229 rfl) rfl
theorem q231 : (Jvm.Cond.publicMethod ({ cls := "java/lang/String", name := "charAt", desc := "(I)C" } : Jvm.MethodName)) ∈ lw_tbl := lw_at lw_m1 230 rfl
theorem q232 : (Jvm.Cond.code ({ cls := "java/lang/String", name := "charAt", desc := "(I)C" } : Jvm.MethodName) prog_12_method_56_code (2 : Nat) (Option.some Jvm.ClassFile.FieldType.char)) ∈ lw_all := lw_g (lw_at lw_m1 231 rfl) rfl
theorem q233 : (Jvm.Cond.methodLink "java/lang/String" (492 : Nat) ({ cls := "java/lang/String", name := "isLatin1", desc := "()Z" } : Jvm.MethodName)) ∈ lw_all := lw_g (lw_at lw_m1 232 rfl) rfl
theorem q234 : (Jvm.Cond.instanceMethod ({ cls := "java/lang/String", name := "isLatin1", desc := "()Z" } : Jvm.MethodName)) ∈ lw_all := lw_g (lw_at lw_m1 233 rfl) rfl
theorem q235 : (Jvm.Cond.selects "java/lang/String" ({ cls := "java/lang/String", name := "isLatin1", desc := "()Z" } : Jvm.MethodName) ({ cls := "java/lang/String", name := "isLatin1", desc := "()Z" } : Jvm.MethodName)) ∈ lw_all := lw_g (lw_at lw_m1 234 rfl) rfl
theorem q236 : (Jvm.Cond.code ({ cls := "java/lang/String", name := "isLatin1", desc := "()Z" } : Jvm.MethodName) prog_12_method_154_code (1 : Nat) (Option.some Jvm.ClassFile.FieldType.boolean)) ∈ lw_all := lw_g (lw_at lw_m1 235 rfl) rfl
theorem q237 : (Jvm.Cond.methodLink "java/lang/String" (495 : Nat) ({ cls := "java/lang/StringLatin1", name := "charAt", desc := "([BI)C" } : Jvm.MethodName)) ∈ lw_all := lw_g (lw_at lw_m1 236 rfl) rfl
theorem q241 : (Jvm.Cond.static ({ cls := "java/lang/String", name := "checkIndex", desc := "(II)V" } : Jvm.MethodName)) ∈ lw_all := lw_g (lw_at lw_m2 0 rfl) rfl
theorem q242 : (Jvm.Cond.code ({ cls := "java/lang/String", name := "checkIndex", desc := "(II)V" } : Jvm.MethodName) prog_12_method_155_code (2 : Nat) (Option.none : Option Jvm.ClassFile.FieldType)) ∈ lw_all := lw_g (lw_at lw_m2 1 rfl) rfl
theorem q243 : (Jvm.Cond.methodLink "java/lang/String" (1059 : Nat) ({ cls := "jdk/internal/util/Preconditions", name := "checkIndex", desc := "(IILjava/util/function/BiFunction;)I" } : Jvm.MethodName)) ∈ lw_all := lw_g (lw_at lw_m2 2 rfl) rfl
theorem q246 : (Jvm.Cond.methodLink "java/lang/String" (498 : Nat) ({ cls := "java/lang/StringUTF16", name := "charAt", desc := "([BI)C" } : Jvm.MethodName)) ∈ lw_all := lw_g (lw_at lw_m2 5 rfl) rfl
theorem q281 : (Jvm.Cond.fieldLink "java/lang/String" (1048 : Nat) "java/lang/AbstractStringBuilder" "maybeLatin1" "Z") ∈ lw_all := lw_g (lw_at lw_m2 40 rfl) rfl
theorem q358 : (Jvm.Cond.instanceMethod ({ cls := "java/lang/String", name := "<init>", desc := "(Ljava/lang/StringBuilder;)V" } : Jvm.MethodName)) ∈ lw_all := lw_g (lw_at lw_m2 117 rfl) rfl
theorem q359 : (Jvm.Cond.code ({ cls := "java/lang/String", name := "<init>", desc := "(Ljava/lang/StringBuilder;)V" } : Jvm.MethodName) prog_12_method_53_code (2 : Nat) (Option.none : Option Jvm.ClassFile.FieldType)) ∈ lw_all := lw_g (lw_at lw_m2 118 rfl) rfl
theorem q360 : (Jvm.Cond.methodLink "java/lang/String" (489 : Nat) ({ cls := "java/lang/String", name := "<init>", desc := "(Ljava/lang/AbstractStringBuilder;Ljava/lang/Void;)V" } : Jvm.MethodName)) ∈ lw_all := lw_g (lw_at lw_m2 119 rfl) rfl
theorem q361 : (Jvm.Cond.instanceMethod ({ cls := "java/lang/String", name := "<init>", desc := "(Ljava/lang/AbstractStringBuilder;Ljava/lang/Void;)V" } : Jvm.MethodName)) ∈ lw_all := lw_g (lw_at lw_m2 120 rfl) rfl
theorem q362 : (Jvm.Cond.code ({ cls := "java/lang/String", name := "<init>", desc := "(Ljava/lang/AbstractStringBuilder;Ljava/lang/Void;)V" } : Jvm.MethodName) prog_12_method_150_code (5 : Nat) (Option.none : Option Jvm.ClassFile.FieldType)) ∈ lw_all := lw_g (lw_at lw_m2 121 rfl) rfl
theorem q363 : (Jvm.Cond.methodLink "java/lang/String" (552 : Nat) ({ cls := "java/lang/AbstractStringBuilder", name := "getValue", desc := "()[B" } : Jvm.MethodName)) ∈ lw_all := lw_g (lw_at lw_m2 122 rfl) rfl
theorem q368 : (Jvm.Cond.methodLink "java/lang/String" (549 : Nat) ({ cls := "java/lang/AbstractStringBuilder", name := "length", desc := "()I" } : Jvm.MethodName)) ∈ lw_all := lw_g (lw_at lw_m2 127 rfl) rfl
theorem q369 : (Jvm.Cond.methodLink "java/lang/String" (1047 : Nat) ({ cls := "java/lang/AbstractStringBuilder", name := "isLatin1", desc := "()Z" } : Jvm.MethodName)) ∈ lw_all := lw_g (lw_at lw_m2 128 rfl) rfl
theorem q370 : (Jvm.Cond.methodLink "java/lang/String" (54 : Nat) ({ cls := "java/util/Arrays", name := "copyOfRange", desc := "([BII)[B" } : Jvm.MethodName)) ∈ lw_all := lw_g (lw_at lw_m2 129 rfl) rfl
theorem q379 : (Jvm.Cond.methodLink "java/lang/String" (1051 : Nat) ({ cls := "java/lang/StringUTF16", name := "compress", desc := "([BII)[B" } : Jvm.MethodName)) ∈ lw_all := lw_g (lw_at lw_m2 138 rfl) rfl
theorem q447 : (Jvm.Cond.selects "java/lang/String" ({ cls := "java/lang/String", name := "length", desc := "()I" } : Jvm.MethodName) ({ cls := "java/lang/String", name := "length", desc := "()I" } : Jvm.MethodName)) ∈ lw_all := lw_g (lw_at lw_m2 206 rfl) rfl
theorem q448 : (Jvm.Cond.selects "java/lang/String" ({ cls := "java/lang/String", name := "charAt", desc := "(I)C" } : Jvm.MethodName) ({ cls := "java/lang/String", name := "charAt", desc := "(I)C" } : Jvm.MethodName)) ∈ lw_all := lw_g (lw_at lw_m2 207 rfl) rfl
theorem in_J0 : ∀ w ∈ wsJ00, w ∈ lw_all := lw_in wsJ00 [120, 122, 124, 126] (by decide +kernel) (by decide +kernel)
/-! java/lang/StringUTF16 -/
set_option maxRecDepth 100000
def RJ2 : String := "java/lang/StringUTF16"
abbrev cJ2_compress : ByteArray := prog_15_method_16_code
def yJ2_compress : MethodName := ⟨RJ2, "compress", "([CII)[B"⟩
def dkwJ2_compress_2 : List UInt8 := [184, 0, 123, 28, 159, 0, 6, 25, 5, 176, 45, 176]
abbrev dktJ2_compress_2 : List UInt8 := dkwJ2_compress_2 ++ []
def dkwJ2_compress_1 : List UInt8 := [184, 0, 119, 58, 5, 25, 5, 21, 4, 184, 0, 71, 17, 0, 255, 163, 0, 16, 25, 5, 3, 45, 3, 28]
abbrev dktJ2_compress_1 : List UInt8 := dkwJ2_compress_1 ++ dktJ2_compress_2
def dkwJ2_compress_0 : List UInt8 := [28, 188, 8, 78, 42, 27, 45, 3, 28, 184, 0, 115, 54, 4, 21, 4, 28, 159, 0, 40, 42, 27, 28]
abbrev dktJ2_compress_0 : List UInt8 := dkwJ2_compress_0 ++ dktJ2_compress_1
theorem dksJ2_compress_0 : cJ2_compress.data.toList.drop 0 = dktJ2_compress_0 := by decide +kernel
theorem dksJ2_compress_1 : cJ2_compress.data.toList.drop 23 = dktJ2_compress_1 := dk_seg dksJ2_compress_0 23 rfl rfl
theorem dksJ2_compress_2 : cJ2_compress.data.toList.drop 47 = dktJ2_compress_2 := dk_seg dksJ2_compress_1 24 rfl rfl
theorem dJ2_compress_0 : decode cJ2_compress 0 = .ok (.iload_n 2, 1) := dk_28 (dk_at dksJ2_compress_0 0 rfl rfl)
theorem dJ2_compress_1 : decode cJ2_compress 1 = .ok (.newarray .byte, 2) := dk_188_8 (dk_at dksJ2_compress_0 1 rfl rfl)
theorem dJ2_compress_3 : decode cJ2_compress 3 = .ok (.astore_n 3, 1) := dk_78 (dk_at dksJ2_compress_0 3 rfl rfl)
theorem dJ2_compress_4 : decode cJ2_compress 4 = .ok (.aload_n 0, 1) := dk_42 (dk_at dksJ2_compress_0 4 rfl rfl)
theorem dJ2_compress_5 : decode cJ2_compress 5 = .ok (.iload_n 1, 1) := dk_27 (dk_at dksJ2_compress_0 5 rfl rfl)
theorem dJ2_compress_6 : decode cJ2_compress 6 = .ok (.aload_n 3, 1) := dk_45 (dk_at dksJ2_compress_0 6 rfl rfl)
theorem dJ2_compress_7 : decode cJ2_compress 7 = .ok (.iconst 0, 1) := dk_3 (dk_at dksJ2_compress_0 7 rfl rfl)
theorem dJ2_compress_8 : decode cJ2_compress 8 = .ok (.iload_n 2, 1) := dk_28 (dk_at dksJ2_compress_0 8 rfl rfl)
theorem dJ2_compress_9 : decode cJ2_compress 9 = .ok (.invokestatic 115, 3) := dk_184 0 115 (dk_at dksJ2_compress_0 9 rfl rfl)
theorem dJ2_compress_12 : decode cJ2_compress 12 = .ok (.istore 4, 2) := dk_54 4 (dk_at dksJ2_compress_0 12 rfl rfl)
theorem dJ2_compress_14 : decode cJ2_compress 14 = .ok (.iload 4, 2) := dk_21 4 (dk_at dksJ2_compress_0 14 rfl rfl)
theorem dJ2_compress_16 : decode cJ2_compress 16 = .ok (.iload_n 2, 1) := dk_28 (dk_at dksJ2_compress_0 16 rfl rfl)
theorem dJ2_compress_17 : decode cJ2_compress 17 = .ok (.if_icmp .eq 40, 3) := dk_159 0 40 (dk_at dksJ2_compress_0 17 rfl rfl)
theorem dJ2_compress_20 : decode cJ2_compress 20 = .ok (.aload_n 0, 1) := dk_42 (dk_at dksJ2_compress_0 20 rfl rfl)
theorem dJ2_compress_21 : decode cJ2_compress 21 = .ok (.iload_n 1, 1) := dk_27 (dk_at dksJ2_compress_0 21 rfl rfl)
theorem dJ2_compress_22 : decode cJ2_compress 22 = .ok (.iload_n 2, 1) := dk_28 (dk_at dksJ2_compress_0 22 rfl rfl)
theorem dJ2_compress_23 : decode cJ2_compress 23 = .ok (.invokestatic 119, 3) := dk_184 0 119 (dk_at dksJ2_compress_1 0 rfl rfl)
theorem dJ2_compress_26 : decode cJ2_compress 26 = .ok (.astore 5, 2) := dk_58 5 (dk_at dksJ2_compress_1 3 rfl rfl)
theorem dJ2_compress_28 : decode cJ2_compress 28 = .ok (.aload 5, 2) := dk_25 5 (dk_at dksJ2_compress_1 5 rfl rfl)
theorem dJ2_compress_30 : decode cJ2_compress 30 = .ok (.iload 4, 2) := dk_21 4 (dk_at dksJ2_compress_1 7 rfl rfl)
theorem dJ2_compress_32 : decode cJ2_compress 32 = .ok (.invokestatic 71, 3) := dk_184 0 71 (dk_at dksJ2_compress_1 9 rfl rfl)
theorem dJ2_compress_35 : decode cJ2_compress 35 = .ok (.sipush 255, 3) := dk_17 0 255 (dk_at dksJ2_compress_1 12 rfl rfl)
theorem dJ2_compress_38 : decode cJ2_compress 38 = .ok (.if_icmp .gt 16, 3) := dk_163 0 16 (dk_at dksJ2_compress_1 15 rfl rfl)
theorem dJ2_compress_41 : decode cJ2_compress 41 = .ok (.aload 5, 2) := dk_25 5 (dk_at dksJ2_compress_1 18 rfl rfl)
theorem dJ2_compress_43 : decode cJ2_compress 43 = .ok (.iconst 0, 1) := dk_3 (dk_at dksJ2_compress_1 20 rfl rfl)
theorem dJ2_compress_44 : decode cJ2_compress 44 = .ok (.aload_n 3, 1) := dk_45 (dk_at dksJ2_compress_1 21 rfl rfl)
theorem dJ2_compress_45 : decode cJ2_compress 45 = .ok (.iconst 0, 1) := dk_3 (dk_at dksJ2_compress_1 22 rfl rfl)
theorem dJ2_compress_46 : decode cJ2_compress 46 = .ok (.iload_n 2, 1) := dk_28 (dk_at dksJ2_compress_1 23 rfl rfl)
theorem dJ2_compress_47 : decode cJ2_compress 47 = .ok (.invokestatic 123, 3) := dk_184 0 123 (dk_at dksJ2_compress_2 0 rfl rfl)
theorem dJ2_compress_50 : decode cJ2_compress 50 = .ok (.iload_n 2, 1) := dk_28 (dk_at dksJ2_compress_2 3 rfl rfl)
theorem dJ2_compress_51 : decode cJ2_compress 51 = .ok (.if_icmp .eq 6, 3) := dk_159 0 6 (dk_at dksJ2_compress_2 4 rfl rfl)
theorem dJ2_compress_54 : decode cJ2_compress 54 = .ok (.aload 5, 2) := dk_25 5 (dk_at dksJ2_compress_2 7 rfl rfl)
theorem dJ2_compress_56 : decode cJ2_compress 56 = .ok (.areturn, 1) := dk_176 (dk_at dksJ2_compress_2 9 rfl rfl)
theorem dJ2_compress_57 : decode cJ2_compress 57 = .ok (.aload_n 3, 1) := dk_45 (dk_at dksJ2_compress_2 10 rfl rfl)
theorem dJ2_compress_58 : decode cJ2_compress 58 = .ok (.areturn, 1) := dk_176 (dk_at dksJ2_compress_2 11 rfl rfl)
abbrev cJ2_compress_2 : ByteArray := prog_15_method_21_code
def yJ2_compress_2 : MethodName := ⟨RJ2, "compress", "([CI[BII)I"⟩
def dkwJ2_compress_2_1 : List UInt8 := [21, 5, 172, 44, 29, 21, 6, 145, 84, 132, 1, 1, 132, 3, 1, 132, 5, 1, 167, 255, 218, 21, 4, 172]
abbrev dktJ2_compress_2_1 : List UInt8 := dkwJ2_compress_2_1 ++ []
def dkwJ2_compress_2_0 : List UInt8 := [3, 54, 5, 21, 5, 21, 4, 162, 0, 37, 42, 27, 52, 54, 6, 21, 6, 17, 0, 255, 164, 0, 6]
abbrev dktJ2_compress_2_0 : List UInt8 := dkwJ2_compress_2_0 ++ dktJ2_compress_2_1
theorem dksJ2_compress_2_0 : cJ2_compress_2.data.toList.drop 0 = dktJ2_compress_2_0 := by decide +kernel
theorem dksJ2_compress_2_1 : cJ2_compress_2.data.toList.drop 23 = dktJ2_compress_2_1 := dk_seg dksJ2_compress_2_0 23 rfl rfl
theorem dJ2_compress_2_0 : decode cJ2_compress_2 0 = .ok (.iconst 0, 1) := dk_3 (dk_at dksJ2_compress_2_0 0 rfl rfl)
theorem dJ2_compress_2_1 : decode cJ2_compress_2 1 = .ok (.istore 5, 2) := dk_54 5 (dk_at dksJ2_compress_2_0 1 rfl rfl)
theorem dJ2_compress_2_3 : decode cJ2_compress_2 3 = .ok (.iload 5, 2) := dk_21 5 (dk_at dksJ2_compress_2_0 3 rfl rfl)
theorem dJ2_compress_2_5 : decode cJ2_compress_2 5 = .ok (.iload 4, 2) := dk_21 4 (dk_at dksJ2_compress_2_0 5 rfl rfl)
theorem dJ2_compress_2_7 : decode cJ2_compress_2 7 = .ok (.if_icmp .ge 37, 3) := dk_162 0 37 (dk_at dksJ2_compress_2_0 7 rfl rfl)
theorem dJ2_compress_2_10 : decode cJ2_compress_2 10 = .ok (.aload_n 0, 1) := dk_42 (dk_at dksJ2_compress_2_0 10 rfl rfl)
theorem dJ2_compress_2_11 : decode cJ2_compress_2 11 = .ok (.iload_n 1, 1) := dk_27 (dk_at dksJ2_compress_2_0 11 rfl rfl)
theorem dJ2_compress_2_12 : decode cJ2_compress_2 12 = .ok (.caload, 1) := dk_52 (dk_at dksJ2_compress_2_0 12 rfl rfl)
theorem dJ2_compress_2_13 : decode cJ2_compress_2 13 = .ok (.istore 6, 2) := dk_54 6 (dk_at dksJ2_compress_2_0 13 rfl rfl)
theorem dJ2_compress_2_15 : decode cJ2_compress_2 15 = .ok (.iload 6, 2) := dk_21 6 (dk_at dksJ2_compress_2_0 15 rfl rfl)
theorem dJ2_compress_2_17 : decode cJ2_compress_2 17 = .ok (.sipush 255, 3) := dk_17 0 255 (dk_at dksJ2_compress_2_0 17 rfl rfl)
theorem dJ2_compress_2_20 : decode cJ2_compress_2 20 = .ok (.if_icmp .le 6, 3) := dk_164 0 6 (dk_at dksJ2_compress_2_0 20 rfl rfl)
theorem dJ2_compress_2_23 : decode cJ2_compress_2 23 = .ok (.iload 5, 2) := dk_21 5 (dk_at dksJ2_compress_2_1 0 rfl rfl)
theorem dJ2_compress_2_25 : decode cJ2_compress_2 25 = .ok (.ireturn, 1) := dk_172 (dk_at dksJ2_compress_2_1 2 rfl rfl)
theorem dJ2_compress_2_26 : decode cJ2_compress_2 26 = .ok (.aload_n 2, 1) := dk_44 (dk_at dksJ2_compress_2_1 3 rfl rfl)
theorem dJ2_compress_2_27 : decode cJ2_compress_2 27 = .ok (.iload_n 3, 1) := dk_29 (dk_at dksJ2_compress_2_1 4 rfl rfl)
theorem dJ2_compress_2_28 : decode cJ2_compress_2 28 = .ok (.iload 6, 2) := dk_21 6 (dk_at dksJ2_compress_2_1 5 rfl rfl)
theorem dJ2_compress_2_30 : decode cJ2_compress_2 30 = .ok (.i2b, 1) := dk_145 (dk_at dksJ2_compress_2_1 7 rfl rfl)
theorem dJ2_compress_2_31 : decode cJ2_compress_2 31 = .ok (.bastore, 1) := dk_84 (dk_at dksJ2_compress_2_1 8 rfl rfl)
theorem dJ2_compress_2_32 : decode cJ2_compress_2 32 = .ok (.iinc 1 1, 3) := dk_132 1 1 (dk_at dksJ2_compress_2_1 9 rfl rfl)
theorem dJ2_compress_2_35 : decode cJ2_compress_2 35 = .ok (.iinc 3 1, 3) := dk_132 3 1 (dk_at dksJ2_compress_2_1 12 rfl rfl)
theorem dJ2_compress_2_38 : decode cJ2_compress_2 38 = .ok (.iinc 5 1, 3) := dk_132 5 1 (dk_at dksJ2_compress_2_1 15 rfl rfl)
theorem dJ2_compress_2_41 : decode cJ2_compress_2 41 = .ok (.goto (-38), 3) := dk_167 255 218 (dk_at dksJ2_compress_2_1 18 rfl rfl)
theorem dJ2_compress_2_44 : decode cJ2_compress_2 44 = .ok (.iload 4, 2) := dk_21 4 (dk_at dksJ2_compress_2_1 21 rfl rfl)
theorem dJ2_compress_2_46 : decode cJ2_compress_2 46 = .ok (.ireturn, 1) := dk_172 (dk_at dksJ2_compress_2_1 23 rfl rfl)
abbrev cJ2_toBytes : ByteArray := prog_15_method_14_code
def yJ2_toBytes : MethodName := ⟨RJ2, "toBytes", "([CII)[B"⟩
def dkwJ2_toBytes_1 : List UInt8 := [132, 1, 1, 132, 4, 1, 167, 255, 235, 45, 176]
abbrev dktJ2_toBytes_1 : List UInt8 := dkwJ2_toBytes_1 ++ []
def dkwJ2_toBytes_0 : List UInt8 := [28, 184, 0, 107, 78, 3, 54, 4, 21, 4, 28, 162, 0, 21, 45, 21, 4, 42, 27, 52, 184, 0, 111]
abbrev dktJ2_toBytes_0 : List UInt8 := dkwJ2_toBytes_0 ++ dktJ2_toBytes_1
theorem dksJ2_toBytes_0 : cJ2_toBytes.data.toList.drop 0 = dktJ2_toBytes_0 := by decide +kernel
theorem dksJ2_toBytes_1 : cJ2_toBytes.data.toList.drop 23 = dktJ2_toBytes_1 := dk_seg dksJ2_toBytes_0 23 rfl rfl
theorem dJ2_toBytes_0 : decode cJ2_toBytes 0 = .ok (.iload_n 2, 1) := dk_28 (dk_at dksJ2_toBytes_0 0 rfl rfl)
theorem dJ2_toBytes_1 : decode cJ2_toBytes 1 = .ok (.invokestatic 107, 3) := dk_184 0 107 (dk_at dksJ2_toBytes_0 1 rfl rfl)
theorem dJ2_toBytes_4 : decode cJ2_toBytes 4 = .ok (.astore_n 3, 1) := dk_78 (dk_at dksJ2_toBytes_0 4 rfl rfl)
theorem dJ2_toBytes_5 : decode cJ2_toBytes 5 = .ok (.iconst 0, 1) := dk_3 (dk_at dksJ2_toBytes_0 5 rfl rfl)
theorem dJ2_toBytes_6 : decode cJ2_toBytes 6 = .ok (.istore 4, 2) := dk_54 4 (dk_at dksJ2_toBytes_0 6 rfl rfl)
theorem dJ2_toBytes_8 : decode cJ2_toBytes 8 = .ok (.iload 4, 2) := dk_21 4 (dk_at dksJ2_toBytes_0 8 rfl rfl)
theorem dJ2_toBytes_10 : decode cJ2_toBytes 10 = .ok (.iload_n 2, 1) := dk_28 (dk_at dksJ2_toBytes_0 10 rfl rfl)
theorem dJ2_toBytes_11 : decode cJ2_toBytes 11 = .ok (.if_icmp .ge 21, 3) := dk_162 0 21 (dk_at dksJ2_toBytes_0 11 rfl rfl)
theorem dJ2_toBytes_14 : decode cJ2_toBytes 14 = .ok (.aload_n 3, 1) := dk_45 (dk_at dksJ2_toBytes_0 14 rfl rfl)
theorem dJ2_toBytes_15 : decode cJ2_toBytes 15 = .ok (.iload 4, 2) := dk_21 4 (dk_at dksJ2_toBytes_0 15 rfl rfl)
theorem dJ2_toBytes_17 : decode cJ2_toBytes 17 = .ok (.aload_n 0, 1) := dk_42 (dk_at dksJ2_toBytes_0 17 rfl rfl)
theorem dJ2_toBytes_18 : decode cJ2_toBytes 18 = .ok (.iload_n 1, 1) := dk_27 (dk_at dksJ2_toBytes_0 18 rfl rfl)
theorem dJ2_toBytes_19 : decode cJ2_toBytes 19 = .ok (.caload, 1) := dk_52 (dk_at dksJ2_toBytes_0 19 rfl rfl)
theorem dJ2_toBytes_20 : decode cJ2_toBytes 20 = .ok (.invokestatic 111, 3) := dk_184 0 111 (dk_at dksJ2_toBytes_0 20 rfl rfl)
theorem dJ2_toBytes_23 : decode cJ2_toBytes 23 = .ok (.iinc 1 1, 3) := dk_132 1 1 (dk_at dksJ2_toBytes_1 0 rfl rfl)
theorem dJ2_toBytes_26 : decode cJ2_toBytes 26 = .ok (.iinc 4 1, 3) := dk_132 4 1 (dk_at dksJ2_toBytes_1 3 rfl rfl)
theorem dJ2_toBytes_29 : decode cJ2_toBytes 29 = .ok (.goto (-21), 3) := dk_167 255 235 (dk_at dksJ2_toBytes_1 6 rfl rfl)
theorem dJ2_toBytes_32 : decode cJ2_toBytes 32 = .ok (.aload_n 3, 1) := dk_45 (dk_at dksJ2_toBytes_1 9 rfl rfl)
theorem dJ2_toBytes_33 : decode cJ2_toBytes 33 = .ok (.areturn, 1) := dk_176 (dk_at dksJ2_toBytes_1 10 rfl rfl)
abbrev cJ2_newBytesFor : ByteArray := prog_15_method_2_code
def yJ2_newBytesFor : MethodName := ⟨RJ2, "newBytesFor", "(I)[B"⟩
def dkwJ2_newBytesFor_0 : List UInt8 := [26, 184, 0, 11, 188, 8, 176]
abbrev dktJ2_newBytesFor_0 : List UInt8 := dkwJ2_newBytesFor_0 ++ []
theorem dksJ2_newBytesFor_0 : cJ2_newBytesFor.data.toList.drop 0 = dktJ2_newBytesFor_0 := by decide +kernel
theorem dJ2_newBytesFor_0 : decode cJ2_newBytesFor 0 = .ok (.iload_n 0, 1) := dk_26 (dk_at dksJ2_newBytesFor_0 0 rfl rfl)
theorem dJ2_newBytesFor_1 : decode cJ2_newBytesFor 1 = .ok (.invokestatic 11, 3) := dk_184 0 11 (dk_at dksJ2_newBytesFor_0 1 rfl rfl)
theorem dJ2_newBytesFor_4 : decode cJ2_newBytesFor 4 = .ok (.newarray .byte, 2) := dk_188_8 (dk_at dksJ2_newBytesFor_0 4 rfl rfl)
theorem dJ2_newBytesFor_6 : decode cJ2_newBytesFor 6 = .ok (.areturn, 1) := dk_176 (dk_at dksJ2_newBytesFor_0 6 rfl rfl)
abbrev cJ2_newBytesLength : ByteArray := prog_15_method_3_code
def yJ2_newBytesLength : MethodName := ⟨RJ2, "newBytesLength", "(I)I"⟩
def dkwJ2_newBytesLength_2 : List UInt8 := [182, 0, 32, 182, 0, 37, 183, 0, 41, 191, 26, 4, 120, 172]
abbrev dktJ2_newBytesLength_2 : List UInt8 := dkwJ2_newBytesLength_2 ++ []
def dkwJ2_newBytesLength_1 : List UInt8 := [187, 0, 23, 89, 183, 0, 25, 18, 26, 182, 0, 28, 26, 182, 0, 32, 18, 35, 182, 0, 28, 18, 20]
abbrev dktJ2_newBytesLength_1 : List UInt8 := dkwJ2_newBytesLength_1 ++ dktJ2_newBytesLength_2
def dkwJ2_newBytesLength_0 : List UInt8 := [26, 156, 0, 11, 187, 0, 17, 89, 183, 0, 19, 191, 26, 18, 20, 161, 0, 40, 187, 0, 21, 89]
abbrev dktJ2_newBytesLength_0 : List UInt8 := dkwJ2_newBytesLength_0 ++ dktJ2_newBytesLength_1
theorem dksJ2_newBytesLength_0 : cJ2_newBytesLength.data.toList.drop 0 = dktJ2_newBytesLength_0 := by decide +kernel
theorem dksJ2_newBytesLength_1 : cJ2_newBytesLength.data.toList.drop 22 = dktJ2_newBytesLength_1 := dk_seg dksJ2_newBytesLength_0 22 rfl rfl
theorem dksJ2_newBytesLength_2 : cJ2_newBytesLength.data.toList.drop 45 = dktJ2_newBytesLength_2 := dk_seg dksJ2_newBytesLength_1 23 rfl rfl
theorem dJ2_newBytesLength_0 : decode cJ2_newBytesLength 0 = .ok (.iload_n 0, 1) := dk_26 (dk_at dksJ2_newBytesLength_0 0 rfl rfl)
theorem dJ2_newBytesLength_1 : decode cJ2_newBytesLength 1 = .ok (.ifCond .ge 11, 3) := dk_156 0 11 (dk_at dksJ2_newBytesLength_0 1 rfl rfl)
theorem dJ2_newBytesLength_4 : decode cJ2_newBytesLength 4 = .ok (.new 17, 3) := dk_187 0 17 (dk_at dksJ2_newBytesLength_0 4 rfl rfl)
theorem dJ2_newBytesLength_7 : decode cJ2_newBytesLength 7 = .ok (.dup, 1) := dk_89 (dk_at dksJ2_newBytesLength_0 7 rfl rfl)
theorem dJ2_newBytesLength_8 : decode cJ2_newBytesLength 8 = .ok (.invokespecial 19, 3) := dk_183 0 19 (dk_at dksJ2_newBytesLength_0 8 rfl rfl)
theorem dJ2_newBytesLength_11 : decode cJ2_newBytesLength 11 = .ok (.athrow, 1) := dk_191 (dk_at dksJ2_newBytesLength_0 11 rfl rfl)
theorem dJ2_newBytesLength_12 : decode cJ2_newBytesLength 12 = .ok (.iload_n 0, 1) := dk_26 (dk_at dksJ2_newBytesLength_0 12 rfl rfl)
theorem dJ2_newBytesLength_13 : decode cJ2_newBytesLength 13 = .ok (.ldc 20, 2) := dk_18 20 (dk_at dksJ2_newBytesLength_0 13 rfl rfl)
theorem dJ2_newBytesLength_15 : decode cJ2_newBytesLength 15 = .ok (.if_icmp .lt 40, 3) := dk_161 0 40 (dk_at dksJ2_newBytesLength_0 15 rfl rfl)
theorem dJ2_newBytesLength_18 : decode cJ2_newBytesLength 18 = .ok (.new 21, 3) := dk_187 0 21 (dk_at dksJ2_newBytesLength_0 18 rfl rfl)
theorem dJ2_newBytesLength_21 : decode cJ2_newBytesLength 21 = .ok (.dup, 1) := dk_89 (dk_at dksJ2_newBytesLength_0 21 rfl rfl)
theorem dJ2_newBytesLength_22 : decode cJ2_newBytesLength 22 = .ok (.new 23, 3) := dk_187 0 23 (dk_at dksJ2_newBytesLength_1 0 rfl rfl)
theorem dJ2_newBytesLength_25 : decode cJ2_newBytesLength 25 = .ok (.dup, 1) := dk_89 (dk_at dksJ2_newBytesLength_1 3 rfl rfl)
theorem dJ2_newBytesLength_26 : decode cJ2_newBytesLength 26 = .ok (.invokespecial 25, 3) := dk_183 0 25 (dk_at dksJ2_newBytesLength_1 4 rfl rfl)
theorem dJ2_newBytesLength_29 : decode cJ2_newBytesLength 29 = .ok (.ldc 26, 2) := dk_18 26 (dk_at dksJ2_newBytesLength_1 7 rfl rfl)
theorem dJ2_newBytesLength_31 : decode cJ2_newBytesLength 31 = .ok (.invokevirtual 28, 3) := dk_182 0 28 (dk_at dksJ2_newBytesLength_1 9 rfl rfl)
theorem dJ2_newBytesLength_34 : decode cJ2_newBytesLength 34 = .ok (.iload_n 0, 1) := dk_26 (dk_at dksJ2_newBytesLength_1 12 rfl rfl)
theorem dJ2_newBytesLength_35 : decode cJ2_newBytesLength 35 = .ok (.invokevirtual 32, 3) := dk_182 0 32 (dk_at dksJ2_newBytesLength_1 13 rfl rfl)
theorem dJ2_newBytesLength_38 : decode cJ2_newBytesLength 38 = .ok (.ldc 35, 2) := dk_18 35 (dk_at dksJ2_newBytesLength_1 16 rfl rfl)
theorem dJ2_newBytesLength_40 : decode cJ2_newBytesLength 40 = .ok (.invokevirtual 28, 3) := dk_182 0 28 (dk_at dksJ2_newBytesLength_1 18 rfl rfl)
theorem dJ2_newBytesLength_43 : decode cJ2_newBytesLength 43 = .ok (.ldc 20, 2) := dk_18 20 (dk_at dksJ2_newBytesLength_1 21 rfl rfl)
theorem dJ2_newBytesLength_45 : decode cJ2_newBytesLength 45 = .ok (.invokevirtual 32, 3) := dk_182 0 32 (dk_at dksJ2_newBytesLength_2 0 rfl rfl)
theorem dJ2_newBytesLength_48 : decode cJ2_newBytesLength 48 = .ok (.invokevirtual 37, 3) := dk_182 0 37 (dk_at dksJ2_newBytesLength_2 3 rfl rfl)
theorem dJ2_newBytesLength_51 : decode cJ2_newBytesLength 51 = .ok (.invokespecial 41, 3) := dk_183 0 41 (dk_at dksJ2_newBytesLength_2 6 rfl rfl)
theorem dJ2_newBytesLength_54 : decode cJ2_newBytesLength 54 = .ok (.athrow, 1) := dk_191 (dk_at dksJ2_newBytesLength_2 9 rfl rfl)
theorem dJ2_newBytesLength_55 : decode cJ2_newBytesLength 55 = .ok (.iload_n 0, 1) := dk_26 (dk_at dksJ2_newBytesLength_2 10 rfl rfl)
theorem dJ2_newBytesLength_56 : decode cJ2_newBytesLength 56 = .ok (.iconst 1, 1) := dk_4 (dk_at dksJ2_newBytesLength_2 11 rfl rfl)
theorem dJ2_newBytesLength_57 : decode cJ2_newBytesLength 57 = .ok (.ishl, 1) := dk_120 (dk_at dksJ2_newBytesLength_2 12 rfl rfl)
theorem dJ2_newBytesLength_58 : decode cJ2_newBytesLength 58 = .ok (.ireturn, 1) := dk_172 (dk_at dksJ2_newBytesLength_2 13 rfl rfl)
abbrev cJ2_putChar : ByteArray := prog_15_method_4_code
def yJ2_putChar : MethodName := ⟨RJ2, "putChar", "([BII)V"⟩
def dkwJ2_putChar_2 : List UInt8 := [178, 0, 63, 122, 145, 84, 177]
abbrev dktJ2_putChar_2 : List UInt8 := dkwJ2_putChar_2 ++ []
def dkwJ2_putChar_1 : List UInt8 := [183, 0, 56, 191, 27, 4, 120, 60, 42, 27, 132, 1, 1, 28, 178, 0, 59, 122, 145, 84, 42, 27, 28]
abbrev dktJ2_putChar_1 : List UInt8 := dkwJ2_putChar_1 ++ dktJ2_putChar_2
def dkwJ2_putChar_0 : List UInt8 := [178, 0, 44, 154, 0, 25, 27, 155, 0, 11, 27, 42, 184, 0, 48, 161, 0, 13, 187, 0, 52, 89, 18, 54]
abbrev dktJ2_putChar_0 : List UInt8 := dkwJ2_putChar_0 ++ dktJ2_putChar_1
theorem dksJ2_putChar_0 : cJ2_putChar.data.toList.drop 0 = dktJ2_putChar_0 := by decide +kernel
theorem dksJ2_putChar_1 : cJ2_putChar.data.toList.drop 24 = dktJ2_putChar_1 := dk_seg dksJ2_putChar_0 24 rfl rfl
theorem dksJ2_putChar_2 : cJ2_putChar.data.toList.drop 47 = dktJ2_putChar_2 := dk_seg dksJ2_putChar_1 23 rfl rfl
theorem dJ2_putChar_0 : decode cJ2_putChar 0 = .ok (.getstatic 44, 3) := dk_178 0 44 (dk_at dksJ2_putChar_0 0 rfl rfl)
theorem dJ2_putChar_3 : decode cJ2_putChar 3 = .ok (.ifCond .ne 25, 3) := dk_154 0 25 (dk_at dksJ2_putChar_0 3 rfl rfl)
theorem dJ2_putChar_6 : decode cJ2_putChar 6 = .ok (.iload_n 1, 1) := dk_27 (dk_at dksJ2_putChar_0 6 rfl rfl)
theorem dJ2_putChar_7 : decode cJ2_putChar 7 = .ok (.ifCond .lt 11, 3) := dk_155 0 11 (dk_at dksJ2_putChar_0 7 rfl rfl)
theorem dJ2_putChar_10 : decode cJ2_putChar 10 = .ok (.iload_n 1, 1) := dk_27 (dk_at dksJ2_putChar_0 10 rfl rfl)
theorem dJ2_putChar_11 : decode cJ2_putChar 11 = .ok (.aload_n 0, 1) := dk_42 (dk_at dksJ2_putChar_0 11 rfl rfl)
theorem dJ2_putChar_12 : decode cJ2_putChar 12 = .ok (.invokestatic 48, 3) := dk_184 0 48 (dk_at dksJ2_putChar_0 12 rfl rfl)
theorem dJ2_putChar_15 : decode cJ2_putChar 15 = .ok (.if_icmp .lt 13, 3) := dk_161 0 13 (dk_at dksJ2_putChar_0 15 rfl rfl)
theorem dJ2_putChar_18 : decode cJ2_putChar 18 = .ok (.new 52, 3) := dk_187 0 52 (dk_at dksJ2_putChar_0 18 rfl rfl)
theorem dJ2_putChar_21 : decode cJ2_putChar 21 = .ok (.dup, 1) := dk_89 (dk_at dksJ2_putChar_0 21 rfl rfl)
theorem dJ2_putChar_22 : decode cJ2_putChar 22 = .ok (.ldc 54, 2) := dk_18 54 (dk_at dksJ2_putChar_0 22 rfl rfl)
theorem dJ2_putChar_24 : decode cJ2_putChar 24 = .ok (.invokespecial 56, 3) := dk_183 0 56 (dk_at dksJ2_putChar_1 0 rfl rfl)
theorem dJ2_putChar_27 : decode cJ2_putChar 27 = .ok (.athrow, 1) := dk_191 (dk_at dksJ2_putChar_1 3 rfl rfl)
theorem dJ2_putChar_28 : decode cJ2_putChar 28 = .ok (.iload_n 1, 1) := dk_27 (dk_at dksJ2_putChar_1 4 rfl rfl)
theorem dJ2_putChar_29 : decode cJ2_putChar 29 = .ok (.iconst 1, 1) := dk_4 (dk_at dksJ2_putChar_1 5 rfl rfl)
theorem dJ2_putChar_30 : decode cJ2_putChar 30 = .ok (.ishl, 1) := dk_120 (dk_at dksJ2_putChar_1 6 rfl rfl)
theorem dJ2_putChar_31 : decode cJ2_putChar 31 = .ok (.istore_n 1, 1) := dk_60 (dk_at dksJ2_putChar_1 7 rfl rfl)
theorem dJ2_putChar_32 : decode cJ2_putChar 32 = .ok (.aload_n 0, 1) := dk_42 (dk_at dksJ2_putChar_1 8 rfl rfl)
theorem dJ2_putChar_33 : decode cJ2_putChar 33 = .ok (.iload_n 1, 1) := dk_27 (dk_at dksJ2_putChar_1 9 rfl rfl)
theorem dJ2_putChar_34 : decode cJ2_putChar 34 = .ok (.iinc 1 1, 3) := dk_132 1 1 (dk_at dksJ2_putChar_1 10 rfl rfl)
theorem dJ2_putChar_37 : decode cJ2_putChar 37 = .ok (.iload_n 2, 1) := dk_28 (dk_at dksJ2_putChar_1 13 rfl rfl)
theorem dJ2_putChar_38 : decode cJ2_putChar 38 = .ok (.getstatic 59, 3) := dk_178 0 59 (dk_at dksJ2_putChar_1 14 rfl rfl)
theorem dJ2_putChar_41 : decode cJ2_putChar 41 = .ok (.ishr, 1) := dk_122 (dk_at dksJ2_putChar_1 17 rfl rfl)
theorem dJ2_putChar_42 : decode cJ2_putChar 42 = .ok (.i2b, 1) := dk_145 (dk_at dksJ2_putChar_1 18 rfl rfl)
theorem dJ2_putChar_43 : decode cJ2_putChar 43 = .ok (.bastore, 1) := dk_84 (dk_at dksJ2_putChar_1 19 rfl rfl)
theorem dJ2_putChar_44 : decode cJ2_putChar 44 = .ok (.aload_n 0, 1) := dk_42 (dk_at dksJ2_putChar_1 20 rfl rfl)
theorem dJ2_putChar_45 : decode cJ2_putChar 45 = .ok (.iload_n 1, 1) := dk_27 (dk_at dksJ2_putChar_1 21 rfl rfl)
theorem dJ2_putChar_46 : decode cJ2_putChar 46 = .ok (.iload_n 2, 1) := dk_28 (dk_at dksJ2_putChar_1 22 rfl rfl)
theorem dJ2_putChar_47 : decode cJ2_putChar 47 = .ok (.getstatic 63, 3) := dk_178 0 63 (dk_at dksJ2_putChar_2 0 rfl rfl)
theorem dJ2_putChar_50 : decode cJ2_putChar 50 = .ok (.ishr, 1) := dk_122 (dk_at dksJ2_putChar_2 3 rfl rfl)
theorem dJ2_putChar_51 : decode cJ2_putChar 51 = .ok (.i2b, 1) := dk_145 (dk_at dksJ2_putChar_2 4 rfl rfl)
theorem dJ2_putChar_52 : decode cJ2_putChar 52 = .ok (.bastore, 1) := dk_84 (dk_at dksJ2_putChar_2 5 rfl rfl)
theorem dJ2_putChar_53 : decode cJ2_putChar 53 = .ok (.return_, 1) := dk_177 (dk_at dksJ2_putChar_2 6 rfl rfl)
abbrev cJ2_length : ByteArray := prog_15_method_6_code
def yJ2_length : MethodName := ⟨RJ2, "length", "([B)I"⟩
def dkwJ2_length_0 : List UInt8 := [42, 190, 4, 122, 172]
abbrev dktJ2_length_0 : List UInt8 := dkwJ2_length_0 ++ []
theorem dksJ2_length_0 : cJ2_length.data.toList.drop 0 = dktJ2_length_0 := by decide +kernel
theorem dJ2_length_0 : decode cJ2_length 0 = .ok (.aload_n 0, 1) := dk_42 (dk_at dksJ2_length_0 0 rfl rfl)
theorem dJ2_length_1 : decode cJ2_length 1 = .ok (.arraylength, 1) := dk_190 (dk_at dksJ2_length_0 1 rfl rfl)
theorem dJ2_length_2 : decode cJ2_length 2 = .ok (.iconst 1, 1) := dk_4 (dk_at dksJ2_length_0 2 rfl rfl)
theorem dJ2_length_3 : decode cJ2_length 3 = .ok (.ishr, 1) := dk_122 (dk_at dksJ2_length_0 3 rfl rfl)
theorem dJ2_length_4 : decode cJ2_length 4 = .ok (.ireturn, 1) := dk_172 (dk_at dksJ2_length_0 4 rfl rfl)
abbrev cJ2_getChar : ByteArray := prog_15_method_5_code
def yJ2_getChar : MethodName := ⟨RJ2, "getChar", "([BI)C"⟩
def dkwJ2_getChar_2 : List UInt8 := [51, 17, 0, 255, 126, 178, 0, 63, 120, 128, 146, 172]
abbrev dktJ2_getChar_2 : List UInt8 := dkwJ2_getChar_2 ++ []
def dkwJ2_getChar_1 : List UInt8 := [183, 0, 56, 191, 27, 4, 120, 60, 42, 27, 132, 1, 1, 51, 17, 0, 255, 126, 178, 0, 59, 120, 42, 27]
abbrev dktJ2_getChar_1 : List UInt8 := dkwJ2_getChar_1 ++ dktJ2_getChar_2
def dkwJ2_getChar_0 : List UInt8 := [178, 0, 44, 154, 0, 25, 27, 155, 0, 11, 27, 42, 184, 0, 48, 161, 0, 13, 187, 0, 52, 89, 18, 54]
abbrev dktJ2_getChar_0 : List UInt8 := dkwJ2_getChar_0 ++ dktJ2_getChar_1
theorem dksJ2_getChar_0 : cJ2_getChar.data.toList.drop 0 = dktJ2_getChar_0 := by decide +kernel
theorem dksJ2_getChar_1 : cJ2_getChar.data.toList.drop 24 = dktJ2_getChar_1 := dk_seg dksJ2_getChar_0 24 rfl rfl
theorem dksJ2_getChar_2 : cJ2_getChar.data.toList.drop 48 = dktJ2_getChar_2 := dk_seg dksJ2_getChar_1 24 rfl rfl
theorem dJ2_getChar_0 : decode cJ2_getChar 0 = .ok (.getstatic 44, 3) := dk_178 0 44 (dk_at dksJ2_getChar_0 0 rfl rfl)
theorem dJ2_getChar_3 : decode cJ2_getChar 3 = .ok (.ifCond .ne 25, 3) := dk_154 0 25 (dk_at dksJ2_getChar_0 3 rfl rfl)
theorem dJ2_getChar_6 : decode cJ2_getChar 6 = .ok (.iload_n 1, 1) := dk_27 (dk_at dksJ2_getChar_0 6 rfl rfl)
theorem dJ2_getChar_7 : decode cJ2_getChar 7 = .ok (.ifCond .lt 11, 3) := dk_155 0 11 (dk_at dksJ2_getChar_0 7 rfl rfl)
theorem dJ2_getChar_10 : decode cJ2_getChar 10 = .ok (.iload_n 1, 1) := dk_27 (dk_at dksJ2_getChar_0 10 rfl rfl)
theorem dJ2_getChar_11 : decode cJ2_getChar 11 = .ok (.aload_n 0, 1) := dk_42 (dk_at dksJ2_getChar_0 11 rfl rfl)
theorem dJ2_getChar_12 : decode cJ2_getChar 12 = .ok (.invokestatic 48, 3) := dk_184 0 48 (dk_at dksJ2_getChar_0 12 rfl rfl)
theorem dJ2_getChar_15 : decode cJ2_getChar 15 = .ok (.if_icmp .lt 13, 3) := dk_161 0 13 (dk_at dksJ2_getChar_0 15 rfl rfl)
theorem dJ2_getChar_18 : decode cJ2_getChar 18 = .ok (.new 52, 3) := dk_187 0 52 (dk_at dksJ2_getChar_0 18 rfl rfl)
theorem dJ2_getChar_21 : decode cJ2_getChar 21 = .ok (.dup, 1) := dk_89 (dk_at dksJ2_getChar_0 21 rfl rfl)
theorem dJ2_getChar_22 : decode cJ2_getChar 22 = .ok (.ldc 54, 2) := dk_18 54 (dk_at dksJ2_getChar_0 22 rfl rfl)
theorem dJ2_getChar_24 : decode cJ2_getChar 24 = .ok (.invokespecial 56, 3) := dk_183 0 56 (dk_at dksJ2_getChar_1 0 rfl rfl)
theorem dJ2_getChar_27 : decode cJ2_getChar 27 = .ok (.athrow, 1) := dk_191 (dk_at dksJ2_getChar_1 3 rfl rfl)
theorem dJ2_getChar_28 : decode cJ2_getChar 28 = .ok (.iload_n 1, 1) := dk_27 (dk_at dksJ2_getChar_1 4 rfl rfl)
theorem dJ2_getChar_29 : decode cJ2_getChar 29 = .ok (.iconst 1, 1) := dk_4 (dk_at dksJ2_getChar_1 5 rfl rfl)
theorem dJ2_getChar_30 : decode cJ2_getChar 30 = .ok (.ishl, 1) := dk_120 (dk_at dksJ2_getChar_1 6 rfl rfl)
theorem dJ2_getChar_31 : decode cJ2_getChar 31 = .ok (.istore_n 1, 1) := dk_60 (dk_at dksJ2_getChar_1 7 rfl rfl)
theorem dJ2_getChar_32 : decode cJ2_getChar 32 = .ok (.aload_n 0, 1) := dk_42 (dk_at dksJ2_getChar_1 8 rfl rfl)
theorem dJ2_getChar_33 : decode cJ2_getChar 33 = .ok (.iload_n 1, 1) := dk_27 (dk_at dksJ2_getChar_1 9 rfl rfl)
theorem dJ2_getChar_34 : decode cJ2_getChar 34 = .ok (.iinc 1 1, 3) := dk_132 1 1 (dk_at dksJ2_getChar_1 10 rfl rfl)
theorem dJ2_getChar_37 : decode cJ2_getChar 37 = .ok (.baload, 1) := dk_51 (dk_at dksJ2_getChar_1 13 rfl rfl)
theorem dJ2_getChar_38 : decode cJ2_getChar 38 = .ok (.sipush 255, 3) := dk_17 0 255 (dk_at dksJ2_getChar_1 14 rfl rfl)
theorem dJ2_getChar_41 : decode cJ2_getChar 41 = .ok (.iand, 1) := dk_126 (dk_at dksJ2_getChar_1 17 rfl rfl)
theorem dJ2_getChar_42 : decode cJ2_getChar 42 = .ok (.getstatic 59, 3) := dk_178 0 59 (dk_at dksJ2_getChar_1 18 rfl rfl)
theorem dJ2_getChar_45 : decode cJ2_getChar 45 = .ok (.ishl, 1) := dk_120 (dk_at dksJ2_getChar_1 21 rfl rfl)
theorem dJ2_getChar_46 : decode cJ2_getChar 46 = .ok (.aload_n 0, 1) := dk_42 (dk_at dksJ2_getChar_1 22 rfl rfl)
theorem dJ2_getChar_47 : decode cJ2_getChar 47 = .ok (.iload_n 1, 1) := dk_27 (dk_at dksJ2_getChar_1 23 rfl rfl)
theorem dJ2_getChar_48 : decode cJ2_getChar 48 = .ok (.baload, 1) := dk_51 (dk_at dksJ2_getChar_2 0 rfl rfl)
theorem dJ2_getChar_49 : decode cJ2_getChar 49 = .ok (.sipush 255, 3) := dk_17 0 255 (dk_at dksJ2_getChar_2 1 rfl rfl)
theorem dJ2_getChar_52 : decode cJ2_getChar 52 = .ok (.iand, 1) := dk_126 (dk_at dksJ2_getChar_2 4 rfl rfl)
theorem dJ2_getChar_53 : decode cJ2_getChar 53 = .ok (.getstatic 63, 3) := dk_178 0 63 (dk_at dksJ2_getChar_2 5 rfl rfl)
theorem dJ2_getChar_56 : decode cJ2_getChar 56 = .ok (.ishl, 1) := dk_120 (dk_at dksJ2_getChar_2 8 rfl rfl)
theorem dJ2_getChar_57 : decode cJ2_getChar 57 = .ok (.ior, 1) := dk_128 (dk_at dksJ2_getChar_2 9 rfl rfl)
theorem dJ2_getChar_58 : decode cJ2_getChar 58 = .ok (.i2c, 1) := dk_146 (dk_at dksJ2_getChar_2 10 rfl rfl)
theorem dJ2_getChar_59 : decode cJ2_getChar 59 = .ok (.ireturn, 1) := dk_172 (dk_at dksJ2_getChar_2 11 rfl rfl)
abbrev cJ2_compress_3 : ByteArray := prog_15_method_22_code
def yJ2_compress_3 : MethodName := ⟨RJ2, "compress", "([BI[BII)I"⟩
def dkwJ2_compress_3_2 : List UInt8 := [132, 5, 1, 167, 255, 216, 21, 4, 172]
abbrev dktJ2_compress_3_2 : List UInt8 := dkwJ2_compress_3_2 ++ []
def dkwJ2_compress_3_1 : List UInt8 := [21, 6, 17, 0, 255, 164, 0, 6, 21, 5, 172, 44, 29, 21, 6, 145, 84, 132, 1, 1, 132, 3, 1]
abbrev dktJ2_compress_3_1 : List UInt8 := dkwJ2_compress_3_1 ++ dktJ2_compress_3_2
def dkwJ2_compress_3_0 : List UInt8 := [27, 21, 4, 42, 184, 0, 173, 3, 54, 5, 21, 5, 21, 4, 162, 0, 39, 42, 27, 184, 0, 71, 54, 6]
abbrev dktJ2_compress_3_0 : List UInt8 := dkwJ2_compress_3_0 ++ dktJ2_compress_3_1
theorem dksJ2_compress_3_0 : cJ2_compress_3.data.toList.drop 0 = dktJ2_compress_3_0 := by decide +kernel
theorem dksJ2_compress_3_1 : cJ2_compress_3.data.toList.drop 24 = dktJ2_compress_3_1 := dk_seg dksJ2_compress_3_0 24 rfl rfl
theorem dksJ2_compress_3_2 : cJ2_compress_3.data.toList.drop 47 = dktJ2_compress_3_2 := dk_seg dksJ2_compress_3_1 23 rfl rfl
theorem dJ2_compress_3_0 : decode cJ2_compress_3 0 = .ok (.iload_n 1, 1) := dk_27 (dk_at dksJ2_compress_3_0 0 rfl rfl)
theorem dJ2_compress_3_1 : decode cJ2_compress_3 1 = .ok (.iload 4, 2) := dk_21 4 (dk_at dksJ2_compress_3_0 1 rfl rfl)
theorem dJ2_compress_3_3 : decode cJ2_compress_3 3 = .ok (.aload_n 0, 1) := dk_42 (dk_at dksJ2_compress_3_0 3 rfl rfl)
theorem dJ2_compress_3_4 : decode cJ2_compress_3 4 = .ok (.invokestatic 173, 3) := dk_184 0 173 (dk_at dksJ2_compress_3_0 4 rfl rfl)
theorem dJ2_compress_3_7 : decode cJ2_compress_3 7 = .ok (.iconst 0, 1) := dk_3 (dk_at dksJ2_compress_3_0 7 rfl rfl)
theorem dJ2_compress_3_8 : decode cJ2_compress_3 8 = .ok (.istore 5, 2) := dk_54 5 (dk_at dksJ2_compress_3_0 8 rfl rfl)
theorem dJ2_compress_3_10 : decode cJ2_compress_3 10 = .ok (.iload 5, 2) := dk_21 5 (dk_at dksJ2_compress_3_0 10 rfl rfl)
theorem dJ2_compress_3_12 : decode cJ2_compress_3 12 = .ok (.iload 4, 2) := dk_21 4 (dk_at dksJ2_compress_3_0 12 rfl rfl)
theorem dJ2_compress_3_14 : decode cJ2_compress_3 14 = .ok (.if_icmp .ge 39, 3) := dk_162 0 39 (dk_at dksJ2_compress_3_0 14 rfl rfl)
theorem dJ2_compress_3_17 : decode cJ2_compress_3 17 = .ok (.aload_n 0, 1) := dk_42 (dk_at dksJ2_compress_3_0 17 rfl rfl)
theorem dJ2_compress_3_18 : decode cJ2_compress_3 18 = .ok (.iload_n 1, 1) := dk_27 (dk_at dksJ2_compress_3_0 18 rfl rfl)
theorem dJ2_compress_3_19 : decode cJ2_compress_3 19 = .ok (.invokestatic 71, 3) := dk_184 0 71 (dk_at dksJ2_compress_3_0 19 rfl rfl)
theorem dJ2_compress_3_22 : decode cJ2_compress_3 22 = .ok (.istore 6, 2) := dk_54 6 (dk_at dksJ2_compress_3_0 22 rfl rfl)
theorem dJ2_compress_3_24 : decode cJ2_compress_3 24 = .ok (.iload 6, 2) := dk_21 6 (dk_at dksJ2_compress_3_1 0 rfl rfl)
theorem dJ2_compress_3_26 : decode cJ2_compress_3 26 = .ok (.sipush 255, 3) := dk_17 0 255 (dk_at dksJ2_compress_3_1 2 rfl rfl)
theorem dJ2_compress_3_29 : decode cJ2_compress_3 29 = .ok (.if_icmp .le 6, 3) := dk_164 0 6 (dk_at dksJ2_compress_3_1 5 rfl rfl)
theorem dJ2_compress_3_32 : decode cJ2_compress_3 32 = .ok (.iload 5, 2) := dk_21 5 (dk_at dksJ2_compress_3_1 8 rfl rfl)
theorem dJ2_compress_3_34 : decode cJ2_compress_3 34 = .ok (.ireturn, 1) := dk_172 (dk_at dksJ2_compress_3_1 10 rfl rfl)
theorem dJ2_compress_3_35 : decode cJ2_compress_3 35 = .ok (.aload_n 2, 1) := dk_44 (dk_at dksJ2_compress_3_1 11 rfl rfl)
theorem dJ2_compress_3_36 : decode cJ2_compress_3 36 = .ok (.iload_n 3, 1) := dk_29 (dk_at dksJ2_compress_3_1 12 rfl rfl)
theorem dJ2_compress_3_37 : decode cJ2_compress_3 37 = .ok (.iload 6, 2) := dk_21 6 (dk_at dksJ2_compress_3_1 13 rfl rfl)
theorem dJ2_compress_3_39 : decode cJ2_compress_3 39 = .ok (.i2b, 1) := dk_145 (dk_at dksJ2_compress_3_1 15 rfl rfl)
theorem dJ2_compress_3_40 : decode cJ2_compress_3 40 = .ok (.bastore, 1) := dk_84 (dk_at dksJ2_compress_3_1 16 rfl rfl)
theorem dJ2_compress_3_41 : decode cJ2_compress_3 41 = .ok (.iinc 1 1, 3) := dk_132 1 1 (dk_at dksJ2_compress_3_1 17 rfl rfl)
theorem dJ2_compress_3_44 : decode cJ2_compress_3 44 = .ok (.iinc 3 1, 3) := dk_132 3 1 (dk_at dksJ2_compress_3_1 20 rfl rfl)
theorem dJ2_compress_3_47 : decode cJ2_compress_3 47 = .ok (.iinc 5 1, 3) := dk_132 5 1 (dk_at dksJ2_compress_3_2 0 rfl rfl)
theorem dJ2_compress_3_50 : decode cJ2_compress_3 50 = .ok (.goto (-40), 3) := dk_167 255 216 (dk_at dksJ2_compress_3_2 3 rfl rfl)
theorem dJ2_compress_3_53 : decode cJ2_compress_3 53 = .ok (.iload 4, 2) := dk_21 4 (dk_at dksJ2_compress_3_2 6 rfl rfl)
theorem dJ2_compress_3_55 : decode cJ2_compress_3 55 = .ok (.ireturn, 1) := dk_172 (dk_at dksJ2_compress_3_2 8 rfl rfl)
abbrev cJ2_checkBoundsOffCount : ByteArray := prog_15_method_94_code
def yJ2_checkBoundsOffCount : MethodName := ⟨RJ2, "checkBoundsOffCount", "(II[B)V"⟩
def dkwJ2_checkBoundsOffCount_0 : List UInt8 := [26, 27, 44, 184, 0, 48, 184, 1, 163, 87, 177]
abbrev dktJ2_checkBoundsOffCount_0 : List UInt8 := dkwJ2_checkBoundsOffCount_0 ++ []
theorem dksJ2_checkBoundsOffCount_0 : cJ2_checkBoundsOffCount.data.toList.drop 0 = dktJ2_checkBoundsOffCount_0 := by decide +kernel
theorem dJ2_checkBoundsOffCount_0 : decode cJ2_checkBoundsOffCount 0 = .ok (.iload_n 0, 1) := dk_26 (dk_at dksJ2_checkBoundsOffCount_0 0 rfl rfl)
theorem dJ2_checkBoundsOffCount_1 : decode cJ2_checkBoundsOffCount 1 = .ok (.iload_n 1, 1) := dk_27 (dk_at dksJ2_checkBoundsOffCount_0 1 rfl rfl)
theorem dJ2_checkBoundsOffCount_2 : decode cJ2_checkBoundsOffCount 2 = .ok (.aload_n 2, 1) := dk_44 (dk_at dksJ2_checkBoundsOffCount_0 2 rfl rfl)
theorem dJ2_checkBoundsOffCount_3 : decode cJ2_checkBoundsOffCount 3 = .ok (.invokestatic 48, 3) := dk_184 0 48 (dk_at dksJ2_checkBoundsOffCount_0 3 rfl rfl)
theorem dJ2_checkBoundsOffCount_6 : decode cJ2_checkBoundsOffCount 6 = .ok (.invokestatic 419, 3) := dk_184 1 163 (dk_at dksJ2_checkBoundsOffCount_0 6 rfl rfl)
theorem dJ2_checkBoundsOffCount_9 : decode cJ2_checkBoundsOffCount 9 = .ok (.pop, 1) := dk_87 (dk_at dksJ2_checkBoundsOffCount_0 9 rfl rfl)
theorem dJ2_checkBoundsOffCount_10 : decode cJ2_checkBoundsOffCount 10 = .ok (.return_, 1) := dk_177 (dk_at dksJ2_checkBoundsOffCount_0 10 rfl rfl)
abbrev cJ2_coderFromArrayLen : ByteArray := prog_15_method_15_code
def yJ2_coderFromArrayLen : MethodName := ⟨RJ2, "coderFromArrayLen", "([BI)B"⟩
def dkwJ2_coderFromArrayLen_0 : List UInt8 := [27, 42, 190, 100, 16, 31, 124, 145, 172]
abbrev dktJ2_coderFromArrayLen_0 : List UInt8 := dkwJ2_coderFromArrayLen_0 ++ []
theorem dksJ2_coderFromArrayLen_0 : cJ2_coderFromArrayLen.data.toList.drop 0 = dktJ2_coderFromArrayLen_0 := by decide +kernel
theorem dJ2_coderFromArrayLen_0 : decode cJ2_coderFromArrayLen 0 = .ok (.iload_n 1, 1) := dk_27 (dk_at dksJ2_coderFromArrayLen_0 0 rfl rfl)
theorem dJ2_coderFromArrayLen_1 : decode cJ2_coderFromArrayLen 1 = .ok (.aload_n 0, 1) := dk_42 (dk_at dksJ2_coderFromArrayLen_0 1 rfl rfl)
theorem dJ2_coderFromArrayLen_2 : decode cJ2_coderFromArrayLen 2 = .ok (.arraylength, 1) := dk_190 (dk_at dksJ2_coderFromArrayLen_0 2 rfl rfl)
theorem dJ2_coderFromArrayLen_3 : decode cJ2_coderFromArrayLen 3 = .ok (.isub, 1) := dk_100 (dk_at dksJ2_coderFromArrayLen_0 3 rfl rfl)
theorem dJ2_coderFromArrayLen_4 : decode cJ2_coderFromArrayLen 4 = .ok (.bipush 31, 2) := dk_16 31 (dk_at dksJ2_coderFromArrayLen_0 4 rfl rfl)
theorem dJ2_coderFromArrayLen_6 : decode cJ2_coderFromArrayLen 6 = .ok (.iushr, 1) := dk_124 (dk_at dksJ2_coderFromArrayLen_0 6 rfl rfl)
theorem dJ2_coderFromArrayLen_7 : decode cJ2_coderFromArrayLen 7 = .ok (.i2b, 1) := dk_145 (dk_at dksJ2_coderFromArrayLen_0 7 rfl rfl)
theorem dJ2_coderFromArrayLen_8 : decode cJ2_coderFromArrayLen 8 = .ok (.ireturn, 1) := dk_172 (dk_at dksJ2_coderFromArrayLen_0 8 rfl rfl)
abbrev cJ2_charAt : ByteArray := prog_15_method_83_code
def yJ2_charAt : MethodName := ⟨RJ2, "charAt", "([BI)C"⟩
def dkwJ2_charAt_0 : List UInt8 := [27, 42, 184, 0, 67, 42, 27, 184, 0, 71, 172]
abbrev dktJ2_charAt_0 : List UInt8 := dkwJ2_charAt_0 ++ []
theorem dksJ2_charAt_0 : cJ2_charAt.data.toList.drop 0 = dktJ2_charAt_0 := by decide +kernel
theorem dJ2_charAt_0 : decode cJ2_charAt 0 = .ok (.iload_n 1, 1) := dk_27 (dk_at dksJ2_charAt_0 0 rfl rfl)
theorem dJ2_charAt_1 : decode cJ2_charAt 1 = .ok (.aload_n 0, 1) := dk_42 (dk_at dksJ2_charAt_0 1 rfl rfl)
theorem dJ2_charAt_2 : decode cJ2_charAt 2 = .ok (.invokestatic 67, 3) := dk_184 0 67 (dk_at dksJ2_charAt_0 2 rfl rfl)
theorem dJ2_charAt_5 : decode cJ2_charAt 5 = .ok (.aload_n 0, 1) := dk_42 (dk_at dksJ2_charAt_0 5 rfl rfl)
theorem dJ2_charAt_6 : decode cJ2_charAt 6 = .ok (.iload_n 1, 1) := dk_27 (dk_at dksJ2_charAt_0 6 rfl rfl)
theorem dJ2_charAt_7 : decode cJ2_charAt 7 = .ok (.invokestatic 71, 3) := dk_184 0 71 (dk_at dksJ2_charAt_0 7 rfl rfl)
theorem dJ2_charAt_10 : decode cJ2_charAt 10 = .ok (.ireturn, 1) := dk_172 (dk_at dksJ2_charAt_0 10 rfl rfl)
abbrev cJ2_checkIndex : ByteArray := prog_15_method_91_code
def yJ2_checkIndex : MethodName := ⟨RJ2, "checkIndex", "(I[B)V"⟩
def dkwJ2_checkIndex_0 : List UInt8 := [26, 43, 184, 0, 48, 184, 1, 158, 177]
abbrev dktJ2_checkIndex_0 : List UInt8 := dkwJ2_checkIndex_0 ++ []
theorem dksJ2_checkIndex_0 : cJ2_checkIndex.data.toList.drop 0 = dktJ2_checkIndex_0 := by decide +kernel
theorem dJ2_checkIndex_0 : decode cJ2_checkIndex 0 = .ok (.iload_n 0, 1) := dk_26 (dk_at dksJ2_checkIndex_0 0 rfl rfl)
theorem dJ2_checkIndex_1 : decode cJ2_checkIndex 1 = .ok (.aload_n 1, 1) := dk_43 (dk_at dksJ2_checkIndex_0 1 rfl rfl)
theorem dJ2_checkIndex_2 : decode cJ2_checkIndex 2 = .ok (.invokestatic 48, 3) := dk_184 0 48 (dk_at dksJ2_checkIndex_0 2 rfl rfl)
theorem dJ2_checkIndex_5 : decode cJ2_checkIndex 5 = .ok (.invokestatic 414, 3) := dk_184 1 158 (dk_at dksJ2_checkIndex_0 5 rfl rfl)
theorem dJ2_checkIndex_8 : decode cJ2_checkIndex 8 = .ok (.return_, 1) := dk_177 (dk_at dksJ2_checkIndex_0 8 rfl rfl)
abbrev cJ2_inflate : ByteArray := prog_15_method_86_code
def yJ2_inflate : MethodName := ⟨RJ2, "inflate", "([BI[BII)V"⟩
def dkwJ2_inflate_1 : List UInt8 := [132, 1, 1, 51, 17, 0, 255, 126, 184, 0, 111, 132, 5, 1, 167, 255, 228, 177]
abbrev dktJ2_inflate_1 : List UInt8 := dkwJ2_inflate_1 ++ []
def dkwJ2_inflate_0 : List UInt8 := [29, 21, 4, 44, 184, 0, 173, 3, 54, 5, 21, 5, 21, 4, 162, 0, 27, 44, 29, 132, 3, 1, 42, 27]
abbrev dktJ2_inflate_0 : List UInt8 := dkwJ2_inflate_0 ++ dktJ2_inflate_1
theorem dksJ2_inflate_0 : cJ2_inflate.data.toList.drop 0 = dktJ2_inflate_0 := by decide +kernel
theorem dksJ2_inflate_1 : cJ2_inflate.data.toList.drop 24 = dktJ2_inflate_1 := dk_seg dksJ2_inflate_0 24 rfl rfl
theorem dJ2_inflate_0 : decode cJ2_inflate 0 = .ok (.iload_n 3, 1) := dk_29 (dk_at dksJ2_inflate_0 0 rfl rfl)
theorem dJ2_inflate_1 : decode cJ2_inflate 1 = .ok (.iload 4, 2) := dk_21 4 (dk_at dksJ2_inflate_0 1 rfl rfl)
theorem dJ2_inflate_3 : decode cJ2_inflate 3 = .ok (.aload_n 2, 1) := dk_44 (dk_at dksJ2_inflate_0 3 rfl rfl)
theorem dJ2_inflate_4 : decode cJ2_inflate 4 = .ok (.invokestatic 173, 3) := dk_184 0 173 (dk_at dksJ2_inflate_0 4 rfl rfl)
theorem dJ2_inflate_7 : decode cJ2_inflate 7 = .ok (.iconst 0, 1) := dk_3 (dk_at dksJ2_inflate_0 7 rfl rfl)
theorem dJ2_inflate_8 : decode cJ2_inflate 8 = .ok (.istore 5, 2) := dk_54 5 (dk_at dksJ2_inflate_0 8 rfl rfl)
theorem dJ2_inflate_10 : decode cJ2_inflate 10 = .ok (.iload 5, 2) := dk_21 5 (dk_at dksJ2_inflate_0 10 rfl rfl)
theorem dJ2_inflate_12 : decode cJ2_inflate 12 = .ok (.iload 4, 2) := dk_21 4 (dk_at dksJ2_inflate_0 12 rfl rfl)
theorem dJ2_inflate_14 : decode cJ2_inflate 14 = .ok (.if_icmp .ge 27, 3) := dk_162 0 27 (dk_at dksJ2_inflate_0 14 rfl rfl)
theorem dJ2_inflate_17 : decode cJ2_inflate 17 = .ok (.aload_n 2, 1) := dk_44 (dk_at dksJ2_inflate_0 17 rfl rfl)
theorem dJ2_inflate_18 : decode cJ2_inflate 18 = .ok (.iload_n 3, 1) := dk_29 (dk_at dksJ2_inflate_0 18 rfl rfl)
theorem dJ2_inflate_19 : decode cJ2_inflate 19 = .ok (.iinc 3 1, 3) := dk_132 3 1 (dk_at dksJ2_inflate_0 19 rfl rfl)
theorem dJ2_inflate_22 : decode cJ2_inflate 22 = .ok (.aload_n 0, 1) := dk_42 (dk_at dksJ2_inflate_0 22 rfl rfl)
theorem dJ2_inflate_23 : decode cJ2_inflate 23 = .ok (.iload_n 1, 1) := dk_27 (dk_at dksJ2_inflate_0 23 rfl rfl)
theorem dJ2_inflate_24 : decode cJ2_inflate 24 = .ok (.iinc 1 1, 3) := dk_132 1 1 (dk_at dksJ2_inflate_1 0 rfl rfl)
theorem dJ2_inflate_27 : decode cJ2_inflate 27 = .ok (.baload, 1) := dk_51 (dk_at dksJ2_inflate_1 3 rfl rfl)
theorem dJ2_inflate_28 : decode cJ2_inflate 28 = .ok (.sipush 255, 3) := dk_17 0 255 (dk_at dksJ2_inflate_1 4 rfl rfl)
theorem dJ2_inflate_31 : decode cJ2_inflate 31 = .ok (.iand, 1) := dk_126 (dk_at dksJ2_inflate_1 7 rfl rfl)
theorem dJ2_inflate_32 : decode cJ2_inflate 32 = .ok (.invokestatic 111, 3) := dk_184 0 111 (dk_at dksJ2_inflate_1 8 rfl rfl)
theorem dJ2_inflate_35 : decode cJ2_inflate 35 = .ok (.iinc 5 1, 3) := dk_132 5 1 (dk_at dksJ2_inflate_1 11 rfl rfl)
theorem dJ2_inflate_38 : decode cJ2_inflate 38 = .ok (.goto (-28), 3) := dk_167 255 228 (dk_at dksJ2_inflate_1 14 rfl rfl)
theorem dJ2_inflate_41 : decode cJ2_inflate 41 = .ok (.return_, 1) := dk_177 (dk_at dksJ2_inflate_1 17 rfl rfl)
abbrev cJ2_putCharSB : ByteArray := prog_15_method_71_code
def yJ2_putCharSB : MethodName := ⟨RJ2, "putCharSB", "([BII)V"⟩
def dkwJ2_putCharSB_0 : List UInt8 := [27, 42, 184, 0, 67, 42, 27, 28, 184, 0, 111, 177]
abbrev dktJ2_putCharSB_0 : List UInt8 := dkwJ2_putCharSB_0 ++ []
theorem dksJ2_putCharSB_0 : cJ2_putCharSB.data.toList.drop 0 = dktJ2_putCharSB_0 := by decide +kernel
theorem dJ2_putCharSB_0 : decode cJ2_putCharSB 0 = .ok (.iload_n 1, 1) := dk_27 (dk_at dksJ2_putCharSB_0 0 rfl rfl)
theorem dJ2_putCharSB_1 : decode cJ2_putCharSB 1 = .ok (.aload_n 0, 1) := dk_42 (dk_at dksJ2_putCharSB_0 1 rfl rfl)
theorem dJ2_putCharSB_2 : decode cJ2_putCharSB 2 = .ok (.invokestatic 67, 3) := dk_184 0 67 (dk_at dksJ2_putCharSB_0 2 rfl rfl)
theorem dJ2_putCharSB_5 : decode cJ2_putCharSB 5 = .ok (.aload_n 0, 1) := dk_42 (dk_at dksJ2_putCharSB_0 5 rfl rfl)
theorem dJ2_putCharSB_6 : decode cJ2_putCharSB 6 = .ok (.iload_n 1, 1) := dk_27 (dk_at dksJ2_putCharSB_0 6 rfl rfl)
theorem dJ2_putCharSB_7 : decode cJ2_putCharSB 7 = .ok (.iload_n 2, 1) := dk_28 (dk_at dksJ2_putCharSB_0 7 rfl rfl)
theorem dJ2_putCharSB_8 : decode cJ2_putCharSB 8 = .ok (.invokestatic 111, 3) := dk_184 0 111 (dk_at dksJ2_putCharSB_0 8 rfl rfl)
theorem dJ2_putCharSB_11 : decode cJ2_putCharSB 11 = .ok (.return_, 1) := dk_177 (dk_at dksJ2_putCharSB_0 11 rfl rfl)
abbrev cJ2_compress_4 : ByteArray := prog_15_method_17_code
def yJ2_compress_4 : MethodName := ⟨RJ2, "compress", "([BII)[B"⟩
def dkwJ2_compress_4_2 : List UInt8 := [25, 5, 3, 45, 3, 28, 184, 0, 123, 28, 159, 0, 6, 25, 5, 176, 45, 176]
abbrev dktJ2_compress_4_2 : List UInt8 := dkwJ2_compress_4_2 ++ []
def dkwJ2_compress_4_1 : List UInt8 := [27, 28, 96, 184, 0, 11, 184, 0, 126, 58, 5, 25, 5, 21, 4, 184, 0, 71, 17, 0, 255, 163, 0, 16]
abbrev dktJ2_compress_4_1 : List UInt8 := dkwJ2_compress_4_1 ++ dktJ2_compress_4_2
def dkwJ2_compress_4_0 : List UInt8 := [28, 188, 8, 78, 42, 27, 45, 3, 28, 184, 0, 123, 54, 4, 21, 4, 28, 159, 0, 47, 42, 27, 4, 120]
abbrev dktJ2_compress_4_0 : List UInt8 := dkwJ2_compress_4_0 ++ dktJ2_compress_4_1
theorem dksJ2_compress_4_0 : cJ2_compress_4.data.toList.drop 0 = dktJ2_compress_4_0 := by decide +kernel
theorem dksJ2_compress_4_1 : cJ2_compress_4.data.toList.drop 24 = dktJ2_compress_4_1 := dk_seg dksJ2_compress_4_0 24 rfl rfl
theorem dksJ2_compress_4_2 : cJ2_compress_4.data.toList.drop 48 = dktJ2_compress_4_2 := dk_seg dksJ2_compress_4_1 24 rfl rfl
theorem dJ2_compress_4_0 : decode cJ2_compress_4 0 = .ok (.iload_n 2, 1) := dk_28 (dk_at dksJ2_compress_4_0 0 rfl rfl)
theorem dJ2_compress_4_1 : decode cJ2_compress_4 1 = .ok (.newarray .byte, 2) := dk_188_8 (dk_at dksJ2_compress_4_0 1 rfl rfl)
theorem dJ2_compress_4_3 : decode cJ2_compress_4 3 = .ok (.astore_n 3, 1) := dk_78 (dk_at dksJ2_compress_4_0 3 rfl rfl)
theorem dJ2_compress_4_4 : decode cJ2_compress_4 4 = .ok (.aload_n 0, 1) := dk_42 (dk_at dksJ2_compress_4_0 4 rfl rfl)
theorem dJ2_compress_4_5 : decode cJ2_compress_4 5 = .ok (.iload_n 1, 1) := dk_27 (dk_at dksJ2_compress_4_0 5 rfl rfl)
theorem dJ2_compress_4_6 : decode cJ2_compress_4 6 = .ok (.aload_n 3, 1) := dk_45 (dk_at dksJ2_compress_4_0 6 rfl rfl)
theorem dJ2_compress_4_7 : decode cJ2_compress_4 7 = .ok (.iconst 0, 1) := dk_3 (dk_at dksJ2_compress_4_0 7 rfl rfl)
theorem dJ2_compress_4_8 : decode cJ2_compress_4 8 = .ok (.iload_n 2, 1) := dk_28 (dk_at dksJ2_compress_4_0 8 rfl rfl)
theorem dJ2_compress_4_9 : decode cJ2_compress_4 9 = .ok (.invokestatic 123, 3) := dk_184 0 123 (dk_at dksJ2_compress_4_0 9 rfl rfl)
theorem dJ2_compress_4_12 : decode cJ2_compress_4 12 = .ok (.istore 4, 2) := dk_54 4 (dk_at dksJ2_compress_4_0 12 rfl rfl)
theorem dJ2_compress_4_14 : decode cJ2_compress_4 14 = .ok (.iload 4, 2) := dk_21 4 (dk_at dksJ2_compress_4_0 14 rfl rfl)
theorem dJ2_compress_4_16 : decode cJ2_compress_4 16 = .ok (.iload_n 2, 1) := dk_28 (dk_at dksJ2_compress_4_0 16 rfl rfl)
theorem dJ2_compress_4_17 : decode cJ2_compress_4 17 = .ok (.if_icmp .eq 47, 3) := dk_159 0 47 (dk_at dksJ2_compress_4_0 17 rfl rfl)
theorem dJ2_compress_4_20 : decode cJ2_compress_4 20 = .ok (.aload_n 0, 1) := dk_42 (dk_at dksJ2_compress_4_0 20 rfl rfl)
theorem dJ2_compress_4_21 : decode cJ2_compress_4 21 = .ok (.iload_n 1, 1) := dk_27 (dk_at dksJ2_compress_4_0 21 rfl rfl)
theorem dJ2_compress_4_22 : decode cJ2_compress_4 22 = .ok (.iconst 1, 1) := dk_4 (dk_at dksJ2_compress_4_0 22 rfl rfl)
theorem dJ2_compress_4_23 : decode cJ2_compress_4 23 = .ok (.ishl, 1) := dk_120 (dk_at dksJ2_compress_4_0 23 rfl rfl)
theorem dJ2_compress_4_24 : decode cJ2_compress_4 24 = .ok (.iload_n 1, 1) := dk_27 (dk_at dksJ2_compress_4_1 0 rfl rfl)
theorem dJ2_compress_4_25 : decode cJ2_compress_4 25 = .ok (.iload_n 2, 1) := dk_28 (dk_at dksJ2_compress_4_1 1 rfl rfl)
theorem dJ2_compress_4_26 : decode cJ2_compress_4 26 = .ok (.iadd, 1) := dk_96 (dk_at dksJ2_compress_4_1 2 rfl rfl)
theorem dJ2_compress_4_27 : decode cJ2_compress_4 27 = .ok (.invokestatic 11, 3) := dk_184 0 11 (dk_at dksJ2_compress_4_1 3 rfl rfl)
theorem dJ2_compress_4_30 : decode cJ2_compress_4 30 = .ok (.invokestatic 126, 3) := dk_184 0 126 (dk_at dksJ2_compress_4_1 6 rfl rfl)
theorem dJ2_compress_4_33 : decode cJ2_compress_4 33 = .ok (.astore 5, 2) := dk_58 5 (dk_at dksJ2_compress_4_1 9 rfl rfl)
theorem dJ2_compress_4_35 : decode cJ2_compress_4 35 = .ok (.aload 5, 2) := dk_25 5 (dk_at dksJ2_compress_4_1 11 rfl rfl)
theorem dJ2_compress_4_37 : decode cJ2_compress_4 37 = .ok (.iload 4, 2) := dk_21 4 (dk_at dksJ2_compress_4_1 13 rfl rfl)
theorem dJ2_compress_4_39 : decode cJ2_compress_4 39 = .ok (.invokestatic 71, 3) := dk_184 0 71 (dk_at dksJ2_compress_4_1 15 rfl rfl)
theorem dJ2_compress_4_42 : decode cJ2_compress_4 42 = .ok (.sipush 255, 3) := dk_17 0 255 (dk_at dksJ2_compress_4_1 18 rfl rfl)
theorem dJ2_compress_4_45 : decode cJ2_compress_4 45 = .ok (.if_icmp .gt 16, 3) := dk_163 0 16 (dk_at dksJ2_compress_4_1 21 rfl rfl)
theorem dJ2_compress_4_48 : decode cJ2_compress_4 48 = .ok (.aload 5, 2) := dk_25 5 (dk_at dksJ2_compress_4_2 0 rfl rfl)
theorem dJ2_compress_4_50 : decode cJ2_compress_4 50 = .ok (.iconst 0, 1) := dk_3 (dk_at dksJ2_compress_4_2 2 rfl rfl)
theorem dJ2_compress_4_51 : decode cJ2_compress_4 51 = .ok (.aload_n 3, 1) := dk_45 (dk_at dksJ2_compress_4_2 3 rfl rfl)
theorem dJ2_compress_4_52 : decode cJ2_compress_4 52 = .ok (.iconst 0, 1) := dk_3 (dk_at dksJ2_compress_4_2 4 rfl rfl)
theorem dJ2_compress_4_53 : decode cJ2_compress_4 53 = .ok (.iload_n 2, 1) := dk_28 (dk_at dksJ2_compress_4_2 5 rfl rfl)
theorem dJ2_compress_4_54 : decode cJ2_compress_4 54 = .ok (.invokestatic 123, 3) := dk_184 0 123 (dk_at dksJ2_compress_4_2 6 rfl rfl)
theorem dJ2_compress_4_57 : decode cJ2_compress_4 57 = .ok (.iload_n 2, 1) := dk_28 (dk_at dksJ2_compress_4_2 9 rfl rfl)
theorem dJ2_compress_4_58 : decode cJ2_compress_4 58 = .ok (.if_icmp .eq 6, 3) := dk_159 0 6 (dk_at dksJ2_compress_4_2 10 rfl rfl)
theorem dJ2_compress_4_61 : decode cJ2_compress_4 61 = .ok (.aload 5, 2) := dk_25 5 (dk_at dksJ2_compress_4_2 13 rfl rfl)
theorem dJ2_compress_4_63 : decode cJ2_compress_4 63 = .ok (.areturn, 1) := dk_176 (dk_at dksJ2_compress_4_2 15 rfl rfl)
theorem dJ2_compress_4_64 : decode cJ2_compress_4 64 = .ok (.aload_n 3, 1) := dk_45 (dk_at dksJ2_compress_4_2 16 rfl rfl)
theorem dJ2_compress_4_65 : decode cJ2_compress_4 65 = .ok (.areturn, 1) := dk_176 (dk_at dksJ2_compress_4_2 17 rfl rfl)
theorem q6 : (Jvm.Cond.initialized "java/lang/StringUTF16") ∈ lw_all := lw_g (lw_at lw_m1 5 rfl) rfl
theorem q77 : (Jvm.Cond.static ({ cls := "java/lang/StringUTF16", name := "compress", desc := "([CII)[B" } : Jvm.MethodName)) ∈ lw_all := lw_g (lw_at lw_m1 76 rfl) rfl
theorem q78 : (Jvm.Cond.code ({ cls := "java/lang/StringUTF16", name := "compress", desc := "([CII)[B" } : Jvm.MethodName) prog_15_method_16_code (6 : Nat) (Option.some (Jvm.ClassFile.FieldType.array Jvm.ClassFile.FieldType.byte))) ∈ lw_all := lw_g (lw_at lw_m1 77 rfl) rfl
theorem q79 : (Jvm.Cond.methodLink "java/lang/StringUTF16" (115 : Nat) ({ cls := "java/lang/StringUTF16", name := "compress", desc := "([CI[BII)I" } : Jvm.MethodName)) ∈ lw_all := lw_g (lw_at lw_m1 78 rfl) rfl
theorem q80 : (Jvm.Cond.static ({ cls := "java/lang/StringUTF16", name := "compress", desc := "([CI[BII)I" } : Jvm.MethodName)) ∈ lw_all := lw_g (lw_at lw_m1 79 rfl) rfl
theorem q81 : (Jvm.Cond.code ({ cls := "java/lang/StringUTF16", name := "compress", desc := "([CI[BII)I" } : Jvm.MethodName) prog_15_method_21_code (7 : Nat) (Option.some Jvm.ClassFile.FieldType.int)) ∈ lw_all := lw_g (lw_at lw_m1 80 rfl) rfl
theorem q82 : (Jvm.Cond.methodLink "java/lang/StringUTF16" (119 : Nat) ({ cls := "java/lang/StringUTF16", name := "toBytes", desc := "([CII)[B" } : Jvm.MethodName)) ∈ lw_all := lw_g (lw_at lw_m1 81 rfl) rfl
theorem q83 : (Jvm.Cond.static ({ cls := "java/lang/StringUTF16", name := "toBytes", desc := "([CII)[B" } : Jvm.MethodName)) ∈ lw_all := lw_g (lw_at lw_m1 82 rfl) rfl
theorem q84 : (Jvm.Cond.code ({ cls := "java/lang/StringUTF16", name := "toBytes", desc := "([CII)[B" } : Jvm.MethodName) prog_15_method_14_code (5 : Nat) (Option.some (Jvm.ClassFile.FieldType.array Jvm.ClassFile.FieldType.byte))) ∈ lw_all := lw_g (lw_at lw_m1 83 rfl) rfl
theorem q85 : (Jvm.Cond.methodLink "java/lang/StringUTF16" (107 : Nat) ({ cls := "java/lang/StringUTF16", name := "newBytesFor", desc := "(I)[B" } : Jvm.MethodName)) ∈ lw_all := lw_g (lw_at lw_m1 84 rfl) rfl
theorem q86 : (Jvm.Cond.static ({ cls := "java/lang/StringUTF16", name := "newBytesFor", desc := "(I)[B" } : Jvm.MethodName)) ∈ lw_all := lw_g (lw_at lw_m1 85 rfl) rfl
theorem q87 : (Jvm.Cond.code ({ cls := "java/lang/StringUTF16", name := "newBytesFor", desc := "(I)[B" } : Jvm.MethodName) prog_15_method_2_code (1 : Nat) (Option.some (Jvm.ClassFile.FieldType.array Jvm.ClassFile.FieldType.byte))) ∈ lw_all := lw_g (lw_at lw_m1 86 rfl) rfl
theorem q88 : (Jvm.Cond.methodLink "java/lang/StringUTF16" (11 : Nat) ({ cls := "java/lang/StringUTF16", name := "newBytesLength", desc := "(I)I" } : Jvm.MethodName)) ∈ lw_all := lw_g (lw_at lw_m1 87 rfl) rfl
theorem q89 : (Jvm.Cond.static ({ cls := "java/lang/StringUTF16", name := "newBytesLength", desc := "(I)I" } : Jvm.MethodName)) ∈ lw_all := lw_g (lw_at lw_m1 88 rfl) rfl
theorem q90 : (Jvm.Cond.code ({ cls := "java/lang/StringUTF16", name := "newBytesLength", desc := "(I)I" } : Jvm.MethodName) prog_15_method_3_code (1 : Nat) (Option.some Jvm.ClassFile.FieldType.int)) ∈ lw_all := lw_g (lw_at lw_m1 89 rfl) rfl
theorem q91 : (Jvm.Cond.constant "java/lang/StringUTF16" (20 : Nat) (1073741823 : Int32)) ∈ lw_all := lw_g (lw_at lw_m1 90 rfl) rfl
theorem q92 : (Jvm.Cond.methodLink "java/lang/StringUTF16" (111 : Nat) ({ cls := "java/lang/StringUTF16", name := "putChar", desc := "([BII)V" } : Jvm.MethodName)) ∈ lw_all := lw_g (lw_at lw_m1 91 rfl) rfl
theorem q93 : (Jvm.Cond.static ({ cls := "java/lang/StringUTF16", name := "putChar", desc := "([BII)V" } : Jvm.MethodName)) ∈ lw_all := lw_g (lw_at lw_m1 92 rfl) rfl
theorem q94 : (Jvm.Cond.code ({ cls := "java/lang/StringUTF16", name := "putChar", desc := "([BII)V" } : Jvm.MethodName) prog_15_method_4_code (3 : Nat) (Option.none : Option Jvm.ClassFile.FieldType)) ∈ lw_all := lw_g (lw_at lw_m1 93 rfl) rfl
theorem q95 : (Jvm.Cond.fieldLink "java/lang/StringUTF16" (44 : Nat) "java/lang/StringUTF16" "$assertionsDisabled" "Z") ∈ lw_all := lw_g (lw_at lw_m1 94 rfl) rfl
theorem q96 : (Jvm.Cond.laysStatic "java/lang/StringUTF16" "$assertionsDisabled" "Z") ∈ lw_tbl := lw_at lw_m1 95 rfl
theorem q97 : (Jvm.Cond.methodLink "java/lang/StringUTF16" (48 : Nat) ({ cls := "java/lang/StringUTF16", name := "length", desc := "([B)I" } : Jvm.MethodName)) ∈ lw_all := lw_g (lw_at lw_m1 96 rfl) rfl
theorem q98 : (Jvm.Cond.static ({ cls := "java/lang/StringUTF16", name := "length", desc := "([B)I" } : Jvm.MethodName)) ∈ lw_all := lw_g (lw_at lw_m1 97 rfl) rfl
theorem q99 : (Jvm.Cond.code ({ cls := "java/lang/StringUTF16", name := "length", desc := "([B)I" } : Jvm.MethodName) prog_15_method_6_code (1 : Nat) (Option.some Jvm.ClassFile.FieldType.int)) ∈ lw_all := lw_g (lw_at lw_m1 98 rfl) rfl
theorem q100 : (Jvm.Cond.fieldLink "java/lang/StringUTF16" (59 : Nat) "java/lang/StringUTF16" "HI_BYTE_SHIFT" "I") ∈ lw_all := lw_g (lw_at lw_m1 99 rfl) rfl
theorem q101 : (Jvm.Cond.laysStatic "java/lang/StringUTF16" "HI_BYTE_SHIFT" "I") ∈ lw_tbl := lw_at lw_m1 100 rfl
theorem q102 : (Jvm.Cond.fieldLink "java/lang/StringUTF16" (63 : Nat) "java/lang/StringUTF16" "LO_BYTE_SHIFT" "I") ∈ lw_all := lw_g (lw_at lw_m1 101 rfl) rfl
theorem q103 : (Jvm.Cond.laysStatic "java/lang/StringUTF16" "LO_BYTE_SHIFT" "I") ∈ lw_tbl := lw_at lw_m1 102 rfl
theorem q104 : (Jvm.Cond.methodLink "java/lang/StringUTF16" (71 : Nat) ({ cls := "java/lang/StringUTF16", name := "getChar", desc := "([BI)C" } : Jvm.MethodName)) ∈ lw_all := lw_g (lw_at lw_m1 103 rfl) rfl
theorem q105 : (Jvm.Cond.static ({ cls := "java/lang/StringUTF16", name := "getChar", desc := "([BI)C" } : Jvm.MethodName)) ∈ lw_all := lw_g (lw_at lw_m1 104 rfl) rfl
theorem q106 : (Jvm.Cond.code ({ cls := "java/lang/StringUTF16", name := "getChar", desc := "([BI)C" } : Jvm.MethodName) prog_15_method_5_code (2 : Nat) (Option.some Jvm.ClassFile.FieldType.char)) ∈ lw_all := lw_g (lw_at lw_m1 105 rfl) rfl
theorem q107 : (Jvm.Cond.methodLink "java/lang/StringUTF16" (123 : Nat) ({ cls := "java/lang/StringUTF16", name := "compress", desc := "([BI[BII)I" } : Jvm.MethodName)) ∈ lw_all := lw_g (lw_at lw_m1 106 rfl) rfl
theorem q108 : (Jvm.Cond.static ({ cls := "java/lang/StringUTF16", name := "compress", desc := "([BI[BII)I" } : Jvm.MethodName)) ∈ lw_all := lw_g (lw_at lw_m1 107 rfl) rfl
theorem q109 : (Jvm.Cond.code ({ cls := "java/lang/StringUTF16", name := "compress", desc := "([BI[BII)I" } : Jvm.MethodName) prog_15_method_22_code (7 : Nat) (Option.some Jvm.ClassFile.FieldType.int)) ∈ lw_all := lw_g (lw_at lw_m1 108 rfl) rfl
theorem q110 : (Jvm.Cond.methodLink "java/lang/StringUTF16" (173 : Nat) ({ cls := "java/lang/StringUTF16", name := "checkBoundsOffCount", desc := "(II[B)V" } : Jvm.MethodName)) ∈ lw_all := lw_g (lw_at lw_m1 109 rfl) rfl
theorem q111 : (Jvm.Cond.static ({ cls := "java/lang/StringUTF16", name := "checkBoundsOffCount", desc := "(II[B)V" } : Jvm.MethodName)) ∈ lw_all := lw_g (lw_at lw_m1 110 rfl) rfl
theorem q112 : (Jvm.Cond.code ({ cls := "java/lang/StringUTF16", name := "checkBoundsOffCount", desc := "(II[B)V" } : Jvm.MethodName) prog_15_method_94_code (3 : Nat) (Option.none : Option Jvm.ClassFile.FieldType)) ∈ lw_all := lw_g (lw_at lw_m1 111 rfl) rfl
theorem q113 : (Jvm.Cond.methodLink "java/lang/StringUTF16" (419 : Nat) ({ cls := "java/lang/String", name := "checkBoundsOffCount", desc := "(III)I" } : Jvm.MethodName)) ∈ lw_all := lw_g (lw_at lw_m1 112 rfl) rfl
theorem q115 : (Jvm.Cond.static ({ cls := "java/lang/StringUTF16", name := "coderFromArrayLen", desc := "([BI)B" } : Jvm.MethodName)) ∈ lw_all := lw_g (lw_at lw_m1 114 rfl) rfl
theorem q116 : (Jvm.Cond.code ({ cls := "java/lang/StringUTF16", name := "coderFromArrayLen", desc := "([BI)B" } : Jvm.MethodName) prog_15_method_15_code (2 : Nat) (Option.some Jvm.ClassFile.FieldType.byte)) ∈ lw_all := lw_g (lw_at lw_m1 115 rfl) rfl
theorem q247 : (Jvm.Cond.static ({ cls := "java/lang/StringUTF16", name := "charAt", desc := "([BI)C" } : Jvm.MethodName)) ∈ lw_all := lw_g (lw_at lw_m2 6 rfl) rfl
theorem q248 : (Jvm.Cond.code ({ cls := "java/lang/StringUTF16", name := "charAt", desc := "([BI)C" } : Jvm.MethodName) prog_15_method_83_code (2 : Nat) (Option.some Jvm.ClassFile.FieldType.char)) ∈ lw_all := lw_g (lw_at lw_m2 7 rfl) rfl
theorem q249 : (Jvm.Cond.methodLink "java/lang/StringUTF16" (67 : Nat) ({ cls := "java/lang/StringUTF16", name := "checkIndex", desc := "(I[B)V" } : Jvm.MethodName)) ∈ lw_all := lw_g (lw_at lw_m2 8 rfl) rfl
theorem q250 : (Jvm.Cond.static ({ cls := "java/lang/StringUTF16", name := "checkIndex", desc := "(I[B)V" } : Jvm.MethodName)) ∈ lw_all := lw_g (lw_at lw_m2 9 rfl) rfl
theorem q251 : (Jvm.Cond.code ({ cls := "java/lang/StringUTF16", name := "checkIndex", desc := "(I[B)V" } : Jvm.MethodName) prog_15_method_91_code (2 : Nat) (Option.none : Option Jvm.ClassFile.FieldType)) ∈ lw_all := lw_g (lw_at lw_m2 10 rfl) rfl
theorem q252 : (Jvm.Cond.methodLink "java/lang/StringUTF16" (414 : Nat) ({ cls := "java/lang/String", name := "checkIndex", desc := "(II)V" } : Jvm.MethodName)) ∈ lw_all := lw_g (lw_at lw_m2 11 rfl) rfl
theorem q347 : (Jvm.Cond.static ({ cls := "java/lang/StringUTF16", name := "inflate", desc := "([BI[BII)V" } : Jvm.MethodName)) ∈ lw_all := lw_g (lw_at lw_m2 106 rfl) rfl
theorem q348 : (Jvm.Cond.code ({ cls := "java/lang/StringUTF16", name := "inflate", desc := "([BI[BII)V" } : Jvm.MethodName) prog_15_method_86_code (6 : Nat) (Option.none : Option Jvm.ClassFile.FieldType)) ∈ lw_all := lw_g (lw_at lw_m2 107 rfl) rfl
theorem q350 : (Jvm.Cond.static ({ cls := "java/lang/StringUTF16", name := "putCharSB", desc := "([BII)V" } : Jvm.MethodName)) ∈ lw_all := lw_g (lw_at lw_m2 109 rfl) rfl
theorem q351 : (Jvm.Cond.code ({ cls := "java/lang/StringUTF16", name := "putCharSB", desc := "([BII)V" } : Jvm.MethodName) prog_15_method_71_code (3 : Nat) (Option.none : Option Jvm.ClassFile.FieldType)) ∈ lw_all := lw_g (lw_at lw_m2 110 rfl) rfl
theorem q380 : (Jvm.Cond.static ({ cls := "java/lang/StringUTF16", name := "compress", desc := "([BII)[B" } : Jvm.MethodName)) ∈ lw_all := lw_g (lw_at lw_m2 139 rfl) rfl
theorem q381 : (Jvm.Cond.code ({ cls := "java/lang/StringUTF16", name := "compress", desc := "([BII)[B" } : Jvm.MethodName) prog_15_method_17_code (6 : Nat) (Option.some (Jvm.ClassFile.FieldType.array Jvm.ClassFile.FieldType.byte))) ∈ lw_all := lw_g (lw_at lw_m2 140 rfl) rfl
theorem q382 : (Jvm.Cond.methodLink "java/lang/StringUTF16" (126 : Nat) ({ cls := "java/util/Arrays", name := "copyOfRange", desc := "([BII)[B" } : Jvm.MethodName)) ∈ lw_all := lw_g (lw_at lw_m2 141 rfl) rfl
/-! java/lang/StringLatin1 -/
set_option maxRecDepth 100000
def RJ7 : String := "java/lang/StringLatin1"
abbrev cJ7_charAt : ByteArray := prog_14_method_2_code
def yJ7_charAt : MethodName := ⟨RJ7, "charAt", "([BI)C"⟩
def dkwJ7_charAt_0 : List UInt8 := [27, 42, 190, 184, 0, 9, 42, 27, 51, 17, 0, 255, 126, 146, 172]
abbrev dktJ7_charAt_0 : List UInt8 := dkwJ7_charAt_0 ++ []
theorem dksJ7_charAt_0 : cJ7_charAt.data.toList.drop 0 = dktJ7_charAt_0 := by decide +kernel
theorem dJ7_charAt_0 : decode cJ7_charAt 0 = .ok (.iload_n 1, 1) := dk_27 (dk_at dksJ7_charAt_0 0 rfl rfl)
theorem dJ7_charAt_1 : decode cJ7_charAt 1 = .ok (.aload_n 0, 1) := dk_42 (dk_at dksJ7_charAt_0 1 rfl rfl)
theorem dJ7_charAt_2 : decode cJ7_charAt 2 = .ok (.arraylength, 1) := dk_190 (dk_at dksJ7_charAt_0 2 rfl rfl)
theorem dJ7_charAt_3 : decode cJ7_charAt 3 = .ok (.invokestatic 9, 3) := dk_184 0 9 (dk_at dksJ7_charAt_0 3 rfl rfl)
theorem dJ7_charAt_6 : decode cJ7_charAt 6 = .ok (.aload_n 0, 1) := dk_42 (dk_at dksJ7_charAt_0 6 rfl rfl)
theorem dJ7_charAt_7 : decode cJ7_charAt 7 = .ok (.iload_n 1, 1) := dk_27 (dk_at dksJ7_charAt_0 7 rfl rfl)
theorem dJ7_charAt_8 : decode cJ7_charAt 8 = .ok (.baload, 1) := dk_51 (dk_at dksJ7_charAt_0 8 rfl rfl)
theorem dJ7_charAt_9 : decode cJ7_charAt 9 = .ok (.sipush 255, 3) := dk_17 0 255 (dk_at dksJ7_charAt_0 9 rfl rfl)
theorem dJ7_charAt_12 : decode cJ7_charAt 12 = .ok (.iand, 1) := dk_126 (dk_at dksJ7_charAt_0 12 rfl rfl)
theorem dJ7_charAt_13 : decode cJ7_charAt 13 = .ok (.i2c, 1) := dk_146 (dk_at dksJ7_charAt_0 13 rfl rfl)
theorem dJ7_charAt_14 : decode cJ7_charAt 14 = .ok (.ireturn, 1) := dk_172 (dk_at dksJ7_charAt_0 14 rfl rfl)
abbrev cJ7_canEncode : ByteArray := prog_14_method_3_code
def yJ7_canEncode : MethodName := ⟨RJ7, "canEncode", "(C)Z"⟩
def dkwJ7_canEncode_0 : List UInt8 := [26, 17, 0, 255, 163, 0, 7, 4, 167, 0, 4, 3, 172]
abbrev dktJ7_canEncode_0 : List UInt8 := dkwJ7_canEncode_0 ++ []
theorem dksJ7_canEncode_0 : cJ7_canEncode.data.toList.drop 0 = dktJ7_canEncode_0 := by decide +kernel
theorem dJ7_canEncode_0 : decode cJ7_canEncode 0 = .ok (.iload_n 0, 1) := dk_26 (dk_at dksJ7_canEncode_0 0 rfl rfl)
theorem dJ7_canEncode_1 : decode cJ7_canEncode 1 = .ok (.sipush 255, 3) := dk_17 0 255 (dk_at dksJ7_canEncode_0 1 rfl rfl)
theorem dJ7_canEncode_4 : decode cJ7_canEncode 4 = .ok (.if_icmp .gt 7, 3) := dk_163 0 7 (dk_at dksJ7_canEncode_0 4 rfl rfl)
theorem dJ7_canEncode_7 : decode cJ7_canEncode 7 = .ok (.iconst 1, 1) := dk_4 (dk_at dksJ7_canEncode_0 7 rfl rfl)
theorem dJ7_canEncode_8 : decode cJ7_canEncode 8 = .ok (.goto 4, 3) := dk_167 0 4 (dk_at dksJ7_canEncode_0 8 rfl rfl)
theorem dJ7_canEncode_11 : decode cJ7_canEncode 11 = .ok (.iconst 0, 1) := dk_3 (dk_at dksJ7_canEncode_0 11 rfl rfl)
theorem dJ7_canEncode_12 : decode cJ7_canEncode 12 = .ok (.ireturn, 1) := dk_172 (dk_at dksJ7_canEncode_0 12 rfl rfl)
abbrev cJ7_inflate : ByteArray := prog_14_method_50_code
def yJ7_inflate : MethodName := ⟨RJ7, "inflate", "([BI[BII)V"⟩
def dkwJ7_inflate_0 : List UInt8 := [42, 27, 44, 29, 21, 4, 184, 0, 240, 177]
abbrev dktJ7_inflate_0 : List UInt8 := dkwJ7_inflate_0 ++ []
theorem dksJ7_inflate_0 : cJ7_inflate.data.toList.drop 0 = dktJ7_inflate_0 := by decide +kernel
theorem dJ7_inflate_0 : decode cJ7_inflate 0 = .ok (.aload_n 0, 1) := dk_42 (dk_at dksJ7_inflate_0 0 rfl rfl)
theorem dJ7_inflate_1 : decode cJ7_inflate 1 = .ok (.iload_n 1, 1) := dk_27 (dk_at dksJ7_inflate_0 1 rfl rfl)
theorem dJ7_inflate_2 : decode cJ7_inflate 2 = .ok (.aload_n 2, 1) := dk_44 (dk_at dksJ7_inflate_0 2 rfl rfl)
theorem dJ7_inflate_3 : decode cJ7_inflate 3 = .ok (.iload_n 3, 1) := dk_29 (dk_at dksJ7_inflate_0 3 rfl rfl)
theorem dJ7_inflate_4 : decode cJ7_inflate 4 = .ok (.iload 4, 2) := dk_21 4 (dk_at dksJ7_inflate_0 4 rfl rfl)
theorem dJ7_inflate_6 : decode cJ7_inflate 6 = .ok (.invokestatic 240, 3) := dk_184 0 240 (dk_at dksJ7_inflate_0 6 rfl rfl)
theorem dJ7_inflate_9 : decode cJ7_inflate 9 = .ok (.return_, 1) := dk_177 (dk_at dksJ7_inflate_0 9 rfl rfl)
theorem q12 : (Jvm.Cond.initialized "java/lang/StringLatin1") ∈ lw_all := lw_g (lw_at lw_m1 11 rfl) rfl
theorem q238 : (Jvm.Cond.static ({ cls := "java/lang/StringLatin1", name := "charAt", desc := "([BI)C" } : Jvm.MethodName)) ∈ lw_all := lw_g (lw_at lw_m1 237 rfl) rfl
theorem q239 : (Jvm.Cond.code ({ cls := "java/lang/StringLatin1", name := "charAt", desc := "([BI)C" } : Jvm.MethodName) prog_14_method_2_code (2 : Nat) (Option.some Jvm.ClassFile.FieldType.char)) ∈ lw_all := lw_g (lw_at lw_m1 238 rfl) rfl
theorem q240 : (Jvm.Cond.methodLink "java/lang/StringLatin1" (9 : Nat) ({ cls := "java/lang/String", name := "checkIndex", desc := "(II)V" } : Jvm.MethodName)) ∈ lw_all := lw_g (lw_at lw_m1 239 rfl) rfl
theorem q337 : (Jvm.Cond.static ({ cls := "java/lang/StringLatin1", name := "canEncode", desc := "(C)Z" } : Jvm.MethodName)) ∈ lw_all := lw_g (lw_at lw_m2 96 rfl) rfl
theorem q338 : (Jvm.Cond.code ({ cls := "java/lang/StringLatin1", name := "canEncode", desc := "(C)Z" } : Jvm.MethodName) prog_14_method_3_code (1 : Nat) (Option.some Jvm.ClassFile.FieldType.boolean)) ∈ lw_all := lw_g (lw_at lw_m2 97 rfl) rfl
theorem q344 : (Jvm.Cond.static ({ cls := "java/lang/StringLatin1", name := "inflate", desc := "([BI[BII)V" } : Jvm.MethodName)) ∈ lw_all := lw_g (lw_at lw_m2 103 rfl) rfl
theorem q345 : (Jvm.Cond.code ({ cls := "java/lang/StringLatin1", name := "inflate", desc := "([BI[BII)V" } : Jvm.MethodName) prog_14_method_50_code (5 : Nat) (Option.none : Option Jvm.ClassFile.FieldType)) ∈ lw_all := lw_g (lw_at lw_m2 104 rfl) rfl
theorem q346 : (Jvm.Cond.methodLink "java/lang/StringLatin1" (240 : Nat) ({ cls := "java/lang/StringUTF16", name := "inflate", desc := "([BI[BII)V" } : Jvm.MethodName)) ∈ lw_all := lw_g (lw_at lw_m2 105 rfl) rfl
/-! java/lang/AbstractStringBuilder -/
set_option maxRecDepth 100000
def RJ9 : String := "java/lang/AbstractStringBuilder"
abbrev cJ9_length : ByteArray := prog_5_method_6_code
def yJ9_length : MethodName := ⟨RJ9, "length", "()I"⟩
theorem dJ9_length_0 : decode cJ9_length 0 = .ok (.aload_n 0, 1) := by decide +kernel
theorem dJ9_length_1 : decode cJ9_length 1 = .ok (.getfield 79, 3) := by decide +kernel
theorem dJ9_length_4 : decode cJ9_length 4 = .ok (.ireturn, 1) := by decide +kernel
abbrev cJ9_charAt : ByteArray := prog_5_method_14_code
def yJ9_charAt : MethodName := ⟨RJ9, "charAt", "(I)C"⟩
def dkwJ9_charAt_1 : List UInt8 := [21, 4, 184, 0, 144, 28, 154, 0, 12, 45, 27, 51, 17, 0, 255, 126, 146, 172, 45, 27, 184, 0, 148, 172]
abbrev dktJ9_charAt_1 : List UInt8 := dkwJ9_charAt_1 ++ []
def dkwJ9_charAt_0 : List UInt8 := [42, 180, 0, 22, 61, 42, 180, 0, 15, 78, 42, 180, 0, 79, 45, 190, 28, 122, 184, 0, 138, 54, 4, 27]
abbrev dktJ9_charAt_0 : List UInt8 := dkwJ9_charAt_0 ++ dktJ9_charAt_1
theorem dksJ9_charAt_0 : cJ9_charAt.data.toList.drop 0 = dktJ9_charAt_0 := by decide +kernel
theorem dksJ9_charAt_1 : cJ9_charAt.data.toList.drop 24 = dktJ9_charAt_1 := dk_seg dksJ9_charAt_0 24 rfl rfl
theorem dJ9_charAt_0 : decode cJ9_charAt 0 = .ok (.aload_n 0, 1) := dk_42 (dk_at dksJ9_charAt_0 0 rfl rfl)
theorem dJ9_charAt_1 : decode cJ9_charAt 1 = .ok (.getfield 22, 3) := dk_180 0 22 (dk_at dksJ9_charAt_0 1 rfl rfl)
theorem dJ9_charAt_4 : decode cJ9_charAt 4 = .ok (.istore_n 2, 1) := dk_61 (dk_at dksJ9_charAt_0 4 rfl rfl)
theorem dJ9_charAt_5 : decode cJ9_charAt 5 = .ok (.aload_n 0, 1) := dk_42 (dk_at dksJ9_charAt_0 5 rfl rfl)
theorem dJ9_charAt_6 : decode cJ9_charAt 6 = .ok (.getfield 15, 3) := dk_180 0 15 (dk_at dksJ9_charAt_0 6 rfl rfl)
theorem dJ9_charAt_9 : decode cJ9_charAt 9 = .ok (.astore_n 3, 1) := dk_78 (dk_at dksJ9_charAt_0 9 rfl rfl)
theorem dJ9_charAt_10 : decode cJ9_charAt 10 = .ok (.aload_n 0, 1) := dk_42 (dk_at dksJ9_charAt_0 10 rfl rfl)
theorem dJ9_charAt_11 : decode cJ9_charAt 11 = .ok (.getfield 79, 3) := dk_180 0 79 (dk_at dksJ9_charAt_0 11 rfl rfl)
theorem dJ9_charAt_14 : decode cJ9_charAt 14 = .ok (.aload_n 3, 1) := dk_45 (dk_at dksJ9_charAt_0 14 rfl rfl)
theorem dJ9_charAt_15 : decode cJ9_charAt 15 = .ok (.arraylength, 1) := dk_190 (dk_at dksJ9_charAt_0 15 rfl rfl)
theorem dJ9_charAt_16 : decode cJ9_charAt 16 = .ok (.iload_n 2, 1) := dk_28 (dk_at dksJ9_charAt_0 16 rfl rfl)
theorem dJ9_charAt_17 : decode cJ9_charAt 17 = .ok (.ishr, 1) := dk_122 (dk_at dksJ9_charAt_0 17 rfl rfl)
theorem dJ9_charAt_18 : decode cJ9_charAt 18 = .ok (.invokestatic 138, 3) := dk_184 0 138 (dk_at dksJ9_charAt_0 18 rfl rfl)
theorem dJ9_charAt_21 : decode cJ9_charAt 21 = .ok (.istore 4, 2) := dk_54 4 (dk_at dksJ9_charAt_0 21 rfl rfl)
theorem dJ9_charAt_23 : decode cJ9_charAt 23 = .ok (.iload_n 1, 1) := dk_27 (dk_at dksJ9_charAt_0 23 rfl rfl)
theorem dJ9_charAt_24 : decode cJ9_charAt 24 = .ok (.iload 4, 2) := dk_21 4 (dk_at dksJ9_charAt_1 0 rfl rfl)
theorem dJ9_charAt_26 : decode cJ9_charAt 26 = .ok (.invokestatic 144, 3) := dk_184 0 144 (dk_at dksJ9_charAt_1 2 rfl rfl)
theorem dJ9_charAt_29 : decode cJ9_charAt 29 = .ok (.iload_n 2, 1) := dk_28 (dk_at dksJ9_charAt_1 5 rfl rfl)
theorem dJ9_charAt_30 : decode cJ9_charAt 30 = .ok (.ifCond .ne 12, 3) := dk_154 0 12 (dk_at dksJ9_charAt_1 6 rfl rfl)
theorem dJ9_charAt_33 : decode cJ9_charAt 33 = .ok (.aload_n 3, 1) := dk_45 (dk_at dksJ9_charAt_1 9 rfl rfl)
theorem dJ9_charAt_34 : decode cJ9_charAt 34 = .ok (.iload_n 1, 1) := dk_27 (dk_at dksJ9_charAt_1 10 rfl rfl)
theorem dJ9_charAt_35 : decode cJ9_charAt 35 = .ok (.baload, 1) := dk_51 (dk_at dksJ9_charAt_1 11 rfl rfl)
theorem dJ9_charAt_36 : decode cJ9_charAt 36 = .ok (.sipush 255, 3) := dk_17 0 255 (dk_at dksJ9_charAt_1 12 rfl rfl)
theorem dJ9_charAt_39 : decode cJ9_charAt 39 = .ok (.iand, 1) := dk_126 (dk_at dksJ9_charAt_1 15 rfl rfl)
theorem dJ9_charAt_40 : decode cJ9_charAt 40 = .ok (.i2c, 1) := dk_146 (dk_at dksJ9_charAt_1 16 rfl rfl)
theorem dJ9_charAt_41 : decode cJ9_charAt 41 = .ok (.ireturn, 1) := dk_172 (dk_at dksJ9_charAt_1 17 rfl rfl)
theorem dJ9_charAt_42 : decode cJ9_charAt 42 = .ok (.aload_n 3, 1) := dk_45 (dk_at dksJ9_charAt_1 18 rfl rfl)
theorem dJ9_charAt_43 : decode cJ9_charAt 43 = .ok (.iload_n 1, 1) := dk_27 (dk_at dksJ9_charAt_1 19 rfl rfl)
theorem dJ9_charAt_44 : decode cJ9_charAt 44 = .ok (.invokestatic 148, 3) := dk_184 0 148 (dk_at dksJ9_charAt_1 20 rfl rfl)
theorem dJ9_charAt_47 : decode cJ9_charAt 47 = .ok (.ireturn, 1) := dk_172 (dk_at dksJ9_charAt_1 23 rfl rfl)
abbrev cJ9_init : ByteArray := prog_5_method_2_code
def yJ9_init : MethodName := ⟨RJ9, "<init>", "(I)V"⟩
def dkwJ9_init_1 : List UInt8 := [167, 0, 16, 42, 27, 184, 0, 26, 181, 0, 15, 42, 4, 181, 0, 22, 177]
abbrev dktJ9_init_1 : List UInt8 := dkwJ9_init_1 ++ []
def dkwJ9_init_0 : List UInt8 := [42, 183, 0, 3, 178, 0, 18, 153, 0, 18, 42, 27, 188, 8, 181, 0, 15, 42, 3, 181, 0, 22]
abbrev dktJ9_init_0 : List UInt8 := dkwJ9_init_0 ++ dktJ9_init_1
theorem dksJ9_init_0 : cJ9_init.data.toList.drop 0 = dktJ9_init_0 := by decide +kernel
theorem dksJ9_init_1 : cJ9_init.data.toList.drop 22 = dktJ9_init_1 := dk_seg dksJ9_init_0 22 rfl rfl
theorem dJ9_init_0 : decode cJ9_init 0 = .ok (.aload_n 0, 1) := dk_42 (dk_at dksJ9_init_0 0 rfl rfl)
theorem dJ9_init_1 : decode cJ9_init 1 = .ok (.invokespecial 3, 3) := dk_183 0 3 (dk_at dksJ9_init_0 1 rfl rfl)
theorem dJ9_init_4 : decode cJ9_init 4 = .ok (.getstatic 18, 3) := dk_178 0 18 (dk_at dksJ9_init_0 4 rfl rfl)
theorem dJ9_init_7 : decode cJ9_init 7 = .ok (.ifCond .eq 18, 3) := dk_153 0 18 (dk_at dksJ9_init_0 7 rfl rfl)
theorem dJ9_init_10 : decode cJ9_init 10 = .ok (.aload_n 0, 1) := dk_42 (dk_at dksJ9_init_0 10 rfl rfl)
theorem dJ9_init_11 : decode cJ9_init 11 = .ok (.iload_n 1, 1) := dk_27 (dk_at dksJ9_init_0 11 rfl rfl)
theorem dJ9_init_12 : decode cJ9_init 12 = .ok (.newarray .byte, 2) := dk_188_8 (dk_at dksJ9_init_0 12 rfl rfl)
theorem dJ9_init_14 : decode cJ9_init 14 = .ok (.putfield 15, 3) := dk_181 0 15 (dk_at dksJ9_init_0 14 rfl rfl)
theorem dJ9_init_17 : decode cJ9_init 17 = .ok (.aload_n 0, 1) := dk_42 (dk_at dksJ9_init_0 17 rfl rfl)
theorem dJ9_init_18 : decode cJ9_init 18 = .ok (.iconst 0, 1) := dk_3 (dk_at dksJ9_init_0 18 rfl rfl)
theorem dJ9_init_19 : decode cJ9_init 19 = .ok (.putfield 22, 3) := dk_181 0 22 (dk_at dksJ9_init_0 19 rfl rfl)
theorem dJ9_init_22 : decode cJ9_init 22 = .ok (.goto 16, 3) := dk_167 0 16 (dk_at dksJ9_init_1 0 rfl rfl)
theorem dJ9_init_25 : decode cJ9_init 25 = .ok (.aload_n 0, 1) := dk_42 (dk_at dksJ9_init_1 3 rfl rfl)
theorem dJ9_init_26 : decode cJ9_init 26 = .ok (.iload_n 1, 1) := dk_27 (dk_at dksJ9_init_1 4 rfl rfl)
theorem dJ9_init_27 : decode cJ9_init 27 = .ok (.invokestatic 26, 3) := dk_184 0 26 (dk_at dksJ9_init_1 5 rfl rfl)
theorem dJ9_init_30 : decode cJ9_init 30 = .ok (.putfield 15, 3) := dk_181 0 15 (dk_at dksJ9_init_1 8 rfl rfl)
theorem dJ9_init_33 : decode cJ9_init 33 = .ok (.aload_n 0, 1) := dk_42 (dk_at dksJ9_init_1 11 rfl rfl)
theorem dJ9_init_34 : decode cJ9_init 34 = .ok (.iconst 1, 1) := dk_4 (dk_at dksJ9_init_1 12 rfl rfl)
theorem dJ9_init_35 : decode cJ9_init 35 = .ok (.putfield 22, 3) := dk_181 0 22 (dk_at dksJ9_init_1 13 rfl rfl)
theorem dJ9_init_38 : decode cJ9_init 38 = .ok (.return_, 1) := dk_177 (dk_at dksJ9_init_1 16 rfl rfl)
abbrev cJ9_append : ByteArray := prog_5_method_31_code
def yJ9_append : MethodName := ⟨RJ9, "append", "(C)Ljava/lang/AbstractStringBuilder;"⟩
def dkwJ9_append_3 : List UInt8 := [181, 0, 79, 27, 184, 0, 197, 42, 176]
abbrev dktJ9_append_3 : List UInt8 := dkwJ9_append_3 ++ []
def dkwJ9_append_2 : List UInt8 := [182, 0, 83, 153, 0, 7, 42, 182, 0, 195, 42, 180, 0, 15, 42, 89, 180, 0, 79, 90, 4, 96]
abbrev dktJ9_append_2 : List UInt8 := dkwJ9_append_2 ++ dktJ9_append_3
def dkwJ9_append_1 : List UInt8 := [42, 180, 0, 15, 42, 89, 180, 0, 79, 90, 4, 96, 181, 0, 79, 27, 145, 84, 167, 0, 33, 42]
abbrev dktJ9_append_1 : List UInt8 := dkwJ9_append_1 ++ dktJ9_append_2
def dkwJ9_append_0 : List UInt8 := [42, 42, 180, 0, 79, 4, 96, 182, 0, 100, 42, 182, 0, 83, 153, 0, 31, 27, 184, 0, 191, 153, 0, 24]
abbrev dktJ9_append_0 : List UInt8 := dkwJ9_append_0 ++ dktJ9_append_1
theorem dksJ9_append_0 : cJ9_append.data.toList.drop 0 = dktJ9_append_0 := by decide +kernel
theorem dksJ9_append_1 : cJ9_append.data.toList.drop 24 = dktJ9_append_1 := dk_seg dksJ9_append_0 24 rfl rfl
theorem dksJ9_append_2 : cJ9_append.data.toList.drop 46 = dktJ9_append_2 := dk_seg dksJ9_append_1 22 rfl rfl
theorem dksJ9_append_3 : cJ9_append.data.toList.drop 68 = dktJ9_append_3 := dk_seg dksJ9_append_2 22 rfl rfl
theorem dJ9_append_0 : decode cJ9_append 0 = .ok (.aload_n 0, 1) := dk_42 (dk_at dksJ9_append_0 0 rfl rfl)
theorem dJ9_append_1 : decode cJ9_append 1 = .ok (.aload_n 0, 1) := dk_42 (dk_at dksJ9_append_0 1 rfl rfl)
theorem dJ9_append_2 : decode cJ9_append 2 = .ok (.getfield 79, 3) := dk_180 0 79 (dk_at dksJ9_append_0 2 rfl rfl)
theorem dJ9_append_5 : decode cJ9_append 5 = .ok (.iconst 1, 1) := dk_4 (dk_at dksJ9_append_0 5 rfl rfl)
theorem dJ9_append_6 : decode cJ9_append 6 = .ok (.iadd, 1) := dk_96 (dk_at dksJ9_append_0 6 rfl rfl)
theorem dJ9_append_7 : decode cJ9_append 7 = .ok (.invokevirtual 100, 3) := dk_182 0 100 (dk_at dksJ9_append_0 7 rfl rfl)
theorem dJ9_append_10 : decode cJ9_append 10 = .ok (.aload_n 0, 1) := dk_42 (dk_at dksJ9_append_0 10 rfl rfl)
theorem dJ9_append_11 : decode cJ9_append 11 = .ok (.invokevirtual 83, 3) := dk_182 0 83 (dk_at dksJ9_append_0 11 rfl rfl)
theorem dJ9_append_14 : decode cJ9_append 14 = .ok (.ifCond .eq 31, 3) := dk_153 0 31 (dk_at dksJ9_append_0 14 rfl rfl)
theorem dJ9_append_17 : decode cJ9_append 17 = .ok (.iload_n 1, 1) := dk_27 (dk_at dksJ9_append_0 17 rfl rfl)
theorem dJ9_append_18 : decode cJ9_append 18 = .ok (.invokestatic 191, 3) := dk_184 0 191 (dk_at dksJ9_append_0 18 rfl rfl)
theorem dJ9_append_21 : decode cJ9_append 21 = .ok (.ifCond .eq 24, 3) := dk_153 0 24 (dk_at dksJ9_append_0 21 rfl rfl)
theorem dJ9_append_24 : decode cJ9_append 24 = .ok (.aload_n 0, 1) := dk_42 (dk_at dksJ9_append_1 0 rfl rfl)
theorem dJ9_append_25 : decode cJ9_append 25 = .ok (.getfield 15, 3) := dk_180 0 15 (dk_at dksJ9_append_1 1 rfl rfl)
theorem dJ9_append_28 : decode cJ9_append 28 = .ok (.aload_n 0, 1) := dk_42 (dk_at dksJ9_append_1 4 rfl rfl)
theorem dJ9_append_29 : decode cJ9_append 29 = .ok (.dup, 1) := dk_89 (dk_at dksJ9_append_1 5 rfl rfl)
theorem dJ9_append_30 : decode cJ9_append 30 = .ok (.getfield 79, 3) := dk_180 0 79 (dk_at dksJ9_append_1 6 rfl rfl)
theorem dJ9_append_33 : decode cJ9_append 33 = .ok (.dup_x1, 1) := dk_90 (dk_at dksJ9_append_1 9 rfl rfl)
theorem dJ9_append_34 : decode cJ9_append 34 = .ok (.iconst 1, 1) := dk_4 (dk_at dksJ9_append_1 10 rfl rfl)
theorem dJ9_append_35 : decode cJ9_append 35 = .ok (.iadd, 1) := dk_96 (dk_at dksJ9_append_1 11 rfl rfl)
theorem dJ9_append_36 : decode cJ9_append 36 = .ok (.putfield 79, 3) := dk_181 0 79 (dk_at dksJ9_append_1 12 rfl rfl)
theorem dJ9_append_39 : decode cJ9_append 39 = .ok (.iload_n 1, 1) := dk_27 (dk_at dksJ9_append_1 15 rfl rfl)
theorem dJ9_append_40 : decode cJ9_append 40 = .ok (.i2b, 1) := dk_145 (dk_at dksJ9_append_1 16 rfl rfl)
theorem dJ9_append_41 : decode cJ9_append 41 = .ok (.bastore, 1) := dk_84 (dk_at dksJ9_append_1 17 rfl rfl)
theorem dJ9_append_42 : decode cJ9_append 42 = .ok (.goto 33, 3) := dk_167 0 33 (dk_at dksJ9_append_1 18 rfl rfl)
theorem dJ9_append_45 : decode cJ9_append 45 = .ok (.aload_n 0, 1) := dk_42 (dk_at dksJ9_append_1 21 rfl rfl)
theorem dJ9_append_46 : decode cJ9_append 46 = .ok (.invokevirtual 83, 3) := dk_182 0 83 (dk_at dksJ9_append_2 0 rfl rfl)
theorem dJ9_append_49 : decode cJ9_append 49 = .ok (.ifCond .eq 7, 3) := dk_153 0 7 (dk_at dksJ9_append_2 3 rfl rfl)
theorem dJ9_append_52 : decode cJ9_append 52 = .ok (.aload_n 0, 1) := dk_42 (dk_at dksJ9_append_2 6 rfl rfl)
theorem dJ9_append_53 : decode cJ9_append 53 = .ok (.invokevirtual 195, 3) := dk_182 0 195 (dk_at dksJ9_append_2 7 rfl rfl)
theorem dJ9_append_56 : decode cJ9_append 56 = .ok (.aload_n 0, 1) := dk_42 (dk_at dksJ9_append_2 10 rfl rfl)
theorem dJ9_append_57 : decode cJ9_append 57 = .ok (.getfield 15, 3) := dk_180 0 15 (dk_at dksJ9_append_2 11 rfl rfl)
theorem dJ9_append_60 : decode cJ9_append 60 = .ok (.aload_n 0, 1) := dk_42 (dk_at dksJ9_append_2 14 rfl rfl)
theorem dJ9_append_61 : decode cJ9_append 61 = .ok (.dup, 1) := dk_89 (dk_at dksJ9_append_2 15 rfl rfl)
theorem dJ9_append_62 : decode cJ9_append 62 = .ok (.getfield 79, 3) := dk_180 0 79 (dk_at dksJ9_append_2 16 rfl rfl)
theorem dJ9_append_65 : decode cJ9_append 65 = .ok (.dup_x1, 1) := dk_90 (dk_at dksJ9_append_2 19 rfl rfl)
theorem dJ9_append_66 : decode cJ9_append 66 = .ok (.iconst 1, 1) := dk_4 (dk_at dksJ9_append_2 20 rfl rfl)
theorem dJ9_append_67 : decode cJ9_append 67 = .ok (.iadd, 1) := dk_96 (dk_at dksJ9_append_2 21 rfl rfl)
theorem dJ9_append_68 : decode cJ9_append 68 = .ok (.putfield 79, 3) := dk_181 0 79 (dk_at dksJ9_append_3 0 rfl rfl)
theorem dJ9_append_71 : decode cJ9_append 71 = .ok (.iload_n 1, 1) := dk_27 (dk_at dksJ9_append_3 3 rfl rfl)
theorem dJ9_append_72 : decode cJ9_append 72 = .ok (.invokestatic 197, 3) := dk_184 0 197 (dk_at dksJ9_append_3 4 rfl rfl)
theorem dJ9_append_75 : decode cJ9_append 75 = .ok (.aload_n 0, 1) := dk_42 (dk_at dksJ9_append_3 7 rfl rfl)
theorem dJ9_append_76 : decode cJ9_append 76 = .ok (.areturn, 1) := dk_176 (dk_at dksJ9_append_3 8 rfl rfl)
abbrev cJ9_ensureCapacityInternal : ByteArray := prog_5_method_9_code
def yJ9_ensureCapacityInternal : MethodName := ⟨RJ9, "ensureCapacityInternal", "(I)V"⟩
def dkwJ9_ensureCapacityInternal_1 : List UInt8 := [182, 0, 104, 42, 180, 0, 22, 120, 184, 0, 108, 181, 0, 15, 177]
abbrev dktJ9_ensureCapacityInternal_1 : List UInt8 := dkwJ9_ensureCapacityInternal_1 ++ []
def dkwJ9_ensureCapacityInternal_0 : List UInt8 := [42, 180, 0, 15, 190, 42, 180, 0, 22, 122, 61, 27, 28, 100, 158, 0, 24, 42, 42, 180, 0, 15, 42, 27]
abbrev dktJ9_ensureCapacityInternal_0 : List UInt8 := dkwJ9_ensureCapacityInternal_0 ++ dktJ9_ensureCapacityInternal_1
theorem dksJ9_ensureCapacityInternal_0 : cJ9_ensureCapacityInternal.data.toList.drop 0 = dktJ9_ensureCapacityInternal_0 := by decide +kernel
theorem dksJ9_ensureCapacityInternal_1 : cJ9_ensureCapacityInternal.data.toList.drop 24 = dktJ9_ensureCapacityInternal_1 := dk_seg dksJ9_ensureCapacityInternal_0 24 rfl rfl
theorem dJ9_ensureCapacityInternal_0 : decode cJ9_ensureCapacityInternal 0 = .ok (.aload_n 0, 1) := dk_42 (dk_at dksJ9_ensureCapacityInternal_0 0 rfl rfl)
theorem dJ9_ensureCapacityInternal_1 : decode cJ9_ensureCapacityInternal 1 = .ok (.getfield 15, 3) := dk_180 0 15 (dk_at dksJ9_ensureCapacityInternal_0 1 rfl rfl)
theorem dJ9_ensureCapacityInternal_4 : decode cJ9_ensureCapacityInternal 4 = .ok (.arraylength, 1) := dk_190 (dk_at dksJ9_ensureCapacityInternal_0 4 rfl rfl)
theorem dJ9_ensureCapacityInternal_5 : decode cJ9_ensureCapacityInternal 5 = .ok (.aload_n 0, 1) := dk_42 (dk_at dksJ9_ensureCapacityInternal_0 5 rfl rfl)
theorem dJ9_ensureCapacityInternal_6 : decode cJ9_ensureCapacityInternal 6 = .ok (.getfield 22, 3) := dk_180 0 22 (dk_at dksJ9_ensureCapacityInternal_0 6 rfl rfl)
theorem dJ9_ensureCapacityInternal_9 : decode cJ9_ensureCapacityInternal 9 = .ok (.ishr, 1) := dk_122 (dk_at dksJ9_ensureCapacityInternal_0 9 rfl rfl)
theorem dJ9_ensureCapacityInternal_10 : decode cJ9_ensureCapacityInternal 10 = .ok (.istore_n 2, 1) := dk_61 (dk_at dksJ9_ensureCapacityInternal_0 10 rfl rfl)
theorem dJ9_ensureCapacityInternal_11 : decode cJ9_ensureCapacityInternal 11 = .ok (.iload_n 1, 1) := dk_27 (dk_at dksJ9_ensureCapacityInternal_0 11 rfl rfl)
theorem dJ9_ensureCapacityInternal_12 : decode cJ9_ensureCapacityInternal 12 = .ok (.iload_n 2, 1) := dk_28 (dk_at dksJ9_ensureCapacityInternal_0 12 rfl rfl)
theorem dJ9_ensureCapacityInternal_13 : decode cJ9_ensureCapacityInternal 13 = .ok (.isub, 1) := dk_100 (dk_at dksJ9_ensureCapacityInternal_0 13 rfl rfl)
theorem dJ9_ensureCapacityInternal_14 : decode cJ9_ensureCapacityInternal 14 = .ok (.ifCond .le 24, 3) := dk_158 0 24 (dk_at dksJ9_ensureCapacityInternal_0 14 rfl rfl)
theorem dJ9_ensureCapacityInternal_17 : decode cJ9_ensureCapacityInternal 17 = .ok (.aload_n 0, 1) := dk_42 (dk_at dksJ9_ensureCapacityInternal_0 17 rfl rfl)
theorem dJ9_ensureCapacityInternal_18 : decode cJ9_ensureCapacityInternal 18 = .ok (.aload_n 0, 1) := dk_42 (dk_at dksJ9_ensureCapacityInternal_0 18 rfl rfl)
theorem dJ9_ensureCapacityInternal_19 : decode cJ9_ensureCapacityInternal 19 = .ok (.getfield 15, 3) := dk_180 0 15 (dk_at dksJ9_ensureCapacityInternal_0 19 rfl rfl)
theorem dJ9_ensureCapacityInternal_22 : decode cJ9_ensureCapacityInternal 22 = .ok (.aload_n 0, 1) := dk_42 (dk_at dksJ9_ensureCapacityInternal_0 22 rfl rfl)
theorem dJ9_ensureCapacityInternal_23 : decode cJ9_ensureCapacityInternal 23 = .ok (.iload_n 1, 1) := dk_27 (dk_at dksJ9_ensureCapacityInternal_0 23 rfl rfl)
theorem dJ9_ensureCapacityInternal_24 : decode cJ9_ensureCapacityInternal 24 = .ok (.invokevirtual 104, 3) := dk_182 0 104 (dk_at dksJ9_ensureCapacityInternal_1 0 rfl rfl)
theorem dJ9_ensureCapacityInternal_27 : decode cJ9_ensureCapacityInternal 27 = .ok (.aload_n 0, 1) := dk_42 (dk_at dksJ9_ensureCapacityInternal_1 3 rfl rfl)
theorem dJ9_ensureCapacityInternal_28 : decode cJ9_ensureCapacityInternal 28 = .ok (.getfield 22, 3) := dk_180 0 22 (dk_at dksJ9_ensureCapacityInternal_1 4 rfl rfl)
theorem dJ9_ensureCapacityInternal_31 : decode cJ9_ensureCapacityInternal 31 = .ok (.ishl, 1) := dk_120 (dk_at dksJ9_ensureCapacityInternal_1 7 rfl rfl)
theorem dJ9_ensureCapacityInternal_32 : decode cJ9_ensureCapacityInternal 32 = .ok (.invokestatic 108, 3) := dk_184 0 108 (dk_at dksJ9_ensureCapacityInternal_1 8 rfl rfl)
theorem dJ9_ensureCapacityInternal_35 : decode cJ9_ensureCapacityInternal 35 = .ok (.putfield 15, 3) := dk_181 0 15 (dk_at dksJ9_ensureCapacityInternal_1 11 rfl rfl)
theorem dJ9_ensureCapacityInternal_38 : decode cJ9_ensureCapacityInternal 38 = .ok (.return_, 1) := dk_177 (dk_at dksJ9_ensureCapacityInternal_1 14 rfl rfl)
abbrev cJ9_newCapacity : ByteArray := prog_5_method_10_code
def yJ9_newCapacity : MethodName := ⟨RJ9, "newCapacity", "(I)I"⟩
def dkwJ9_newCapacity_2 : List UInt8 := [183, 0, 124, 191, 21, 5, 42, 180, 0, 22, 122, 172]
abbrev dktJ9_newCapacity_2 : List UInt8 := dkwJ9_newCapacity_2 ++ []
def dkwJ9_newCapacity_1 : List UInt8 := [180, 0, 22, 120, 96, 184, 0, 114, 54, 5, 21, 5, 18, 39, 160, 0, 13, 187, 0, 120, 89, 18, 122]
abbrev dktJ9_newCapacity_1 : List UInt8 := dkwJ9_newCapacity_1 ++ dktJ9_newCapacity_2
def dkwJ9_newCapacity_0 : List UInt8 := [42, 180, 0, 15, 190, 61, 27, 42, 180, 0, 22, 120, 62, 29, 28, 100, 54, 4, 28, 21, 4, 28, 5, 42]
abbrev dktJ9_newCapacity_0 : List UInt8 := dkwJ9_newCapacity_0 ++ dktJ9_newCapacity_1
theorem dksJ9_newCapacity_0 : cJ9_newCapacity.data.toList.drop 0 = dktJ9_newCapacity_0 := by decide +kernel
theorem dksJ9_newCapacity_1 : cJ9_newCapacity.data.toList.drop 24 = dktJ9_newCapacity_1 := dk_seg dksJ9_newCapacity_0 24 rfl rfl
theorem dksJ9_newCapacity_2 : cJ9_newCapacity.data.toList.drop 47 = dktJ9_newCapacity_2 := dk_seg dksJ9_newCapacity_1 23 rfl rfl
theorem dJ9_newCapacity_0 : decode cJ9_newCapacity 0 = .ok (.aload_n 0, 1) := dk_42 (dk_at dksJ9_newCapacity_0 0 rfl rfl)
theorem dJ9_newCapacity_1 : decode cJ9_newCapacity 1 = .ok (.getfield 15, 3) := dk_180 0 15 (dk_at dksJ9_newCapacity_0 1 rfl rfl)
theorem dJ9_newCapacity_4 : decode cJ9_newCapacity 4 = .ok (.arraylength, 1) := dk_190 (dk_at dksJ9_newCapacity_0 4 rfl rfl)
theorem dJ9_newCapacity_5 : decode cJ9_newCapacity 5 = .ok (.istore_n 2, 1) := dk_61 (dk_at dksJ9_newCapacity_0 5 rfl rfl)
theorem dJ9_newCapacity_6 : decode cJ9_newCapacity 6 = .ok (.iload_n 1, 1) := dk_27 (dk_at dksJ9_newCapacity_0 6 rfl rfl)
theorem dJ9_newCapacity_7 : decode cJ9_newCapacity 7 = .ok (.aload_n 0, 1) := dk_42 (dk_at dksJ9_newCapacity_0 7 rfl rfl)
theorem dJ9_newCapacity_8 : decode cJ9_newCapacity 8 = .ok (.getfield 22, 3) := dk_180 0 22 (dk_at dksJ9_newCapacity_0 8 rfl rfl)
theorem dJ9_newCapacity_11 : decode cJ9_newCapacity 11 = .ok (.ishl, 1) := dk_120 (dk_at dksJ9_newCapacity_0 11 rfl rfl)
theorem dJ9_newCapacity_12 : decode cJ9_newCapacity 12 = .ok (.istore_n 3, 1) := dk_62 (dk_at dksJ9_newCapacity_0 12 rfl rfl)
theorem dJ9_newCapacity_13 : decode cJ9_newCapacity 13 = .ok (.iload_n 3, 1) := dk_29 (dk_at dksJ9_newCapacity_0 13 rfl rfl)
theorem dJ9_newCapacity_14 : decode cJ9_newCapacity 14 = .ok (.iload_n 2, 1) := dk_28 (dk_at dksJ9_newCapacity_0 14 rfl rfl)
theorem dJ9_newCapacity_15 : decode cJ9_newCapacity 15 = .ok (.isub, 1) := dk_100 (dk_at dksJ9_newCapacity_0 15 rfl rfl)
theorem dJ9_newCapacity_16 : decode cJ9_newCapacity 16 = .ok (.istore 4, 2) := dk_54 4 (dk_at dksJ9_newCapacity_0 16 rfl rfl)
theorem dJ9_newCapacity_18 : decode cJ9_newCapacity 18 = .ok (.iload_n 2, 1) := dk_28 (dk_at dksJ9_newCapacity_0 18 rfl rfl)
theorem dJ9_newCapacity_19 : decode cJ9_newCapacity 19 = .ok (.iload 4, 2) := dk_21 4 (dk_at dksJ9_newCapacity_0 19 rfl rfl)
theorem dJ9_newCapacity_21 : decode cJ9_newCapacity 21 = .ok (.iload_n 2, 1) := dk_28 (dk_at dksJ9_newCapacity_0 21 rfl rfl)
theorem dJ9_newCapacity_22 : decode cJ9_newCapacity 22 = .ok (.iconst 2, 1) := dk_5 (dk_at dksJ9_newCapacity_0 22 rfl rfl)
theorem dJ9_newCapacity_23 : decode cJ9_newCapacity 23 = .ok (.aload_n 0, 1) := dk_42 (dk_at dksJ9_newCapacity_0 23 rfl rfl)
theorem dJ9_newCapacity_24 : decode cJ9_newCapacity 24 = .ok (.getfield 22, 3) := dk_180 0 22 (dk_at dksJ9_newCapacity_1 0 rfl rfl)
theorem dJ9_newCapacity_27 : decode cJ9_newCapacity 27 = .ok (.ishl, 1) := dk_120 (dk_at dksJ9_newCapacity_1 3 rfl rfl)
theorem dJ9_newCapacity_28 : decode cJ9_newCapacity 28 = .ok (.iadd, 1) := dk_96 (dk_at dksJ9_newCapacity_1 4 rfl rfl)
theorem dJ9_newCapacity_29 : decode cJ9_newCapacity 29 = .ok (.invokestatic 114, 3) := dk_184 0 114 (dk_at dksJ9_newCapacity_1 5 rfl rfl)
theorem dJ9_newCapacity_32 : decode cJ9_newCapacity 32 = .ok (.istore 5, 2) := dk_54 5 (dk_at dksJ9_newCapacity_1 8 rfl rfl)
theorem dJ9_newCapacity_34 : decode cJ9_newCapacity 34 = .ok (.iload 5, 2) := dk_21 5 (dk_at dksJ9_newCapacity_1 10 rfl rfl)
theorem dJ9_newCapacity_36 : decode cJ9_newCapacity 36 = .ok (.ldc 39, 2) := dk_18 39 (dk_at dksJ9_newCapacity_1 12 rfl rfl)
theorem dJ9_newCapacity_38 : decode cJ9_newCapacity 38 = .ok (.if_icmp .ne 13, 3) := dk_160 0 13 (dk_at dksJ9_newCapacity_1 14 rfl rfl)
theorem dJ9_newCapacity_41 : decode cJ9_newCapacity 41 = .ok (.new 120, 3) := dk_187 0 120 (dk_at dksJ9_newCapacity_1 17 rfl rfl)
theorem dJ9_newCapacity_44 : decode cJ9_newCapacity 44 = .ok (.dup, 1) := dk_89 (dk_at dksJ9_newCapacity_1 20 rfl rfl)
theorem dJ9_newCapacity_45 : decode cJ9_newCapacity 45 = .ok (.ldc 122, 2) := dk_18 122 (dk_at dksJ9_newCapacity_1 21 rfl rfl)
theorem dJ9_newCapacity_47 : decode cJ9_newCapacity 47 = .ok (.invokespecial 124, 3) := dk_183 0 124 (dk_at dksJ9_newCapacity_2 0 rfl rfl)
theorem dJ9_newCapacity_50 : decode cJ9_newCapacity 50 = .ok (.athrow, 1) := dk_191 (dk_at dksJ9_newCapacity_2 3 rfl rfl)
theorem dJ9_newCapacity_51 : decode cJ9_newCapacity 51 = .ok (.iload 5, 2) := dk_21 5 (dk_at dksJ9_newCapacity_2 4 rfl rfl)
theorem dJ9_newCapacity_53 : decode cJ9_newCapacity 53 = .ok (.aload_n 0, 1) := dk_42 (dk_at dksJ9_newCapacity_2 6 rfl rfl)
theorem dJ9_newCapacity_54 : decode cJ9_newCapacity 54 = .ok (.getfield 22, 3) := dk_180 0 22 (dk_at dksJ9_newCapacity_2 7 rfl rfl)
theorem dJ9_newCapacity_57 : decode cJ9_newCapacity 57 = .ok (.ishr, 1) := dk_122 (dk_at dksJ9_newCapacity_2 10 rfl rfl)
theorem dJ9_newCapacity_58 : decode cJ9_newCapacity 58 = .ok (.ireturn, 1) := dk_172 (dk_at dksJ9_newCapacity_2 11 rfl rfl)
abbrev cJ9_isLatin1 : ByteArray := prog_5_method_68_code
def yJ9_isLatin1 : MethodName := ⟨RJ9, "isLatin1", "()Z"⟩
def dkwJ9_isLatin1_0 : List UInt8 := [178, 0, 18, 153, 0, 14, 42, 180, 0, 22, 154, 0, 7, 4, 167, 0, 4, 3, 172]
abbrev dktJ9_isLatin1_0 : List UInt8 := dkwJ9_isLatin1_0 ++ []
theorem dksJ9_isLatin1_0 : cJ9_isLatin1.data.toList.drop 0 = dktJ9_isLatin1_0 := by decide +kernel
theorem dJ9_isLatin1_0 : decode cJ9_isLatin1 0 = .ok (.getstatic 18, 3) := dk_178 0 18 (dk_at dksJ9_isLatin1_0 0 rfl rfl)
theorem dJ9_isLatin1_3 : decode cJ9_isLatin1 3 = .ok (.ifCond .eq 14, 3) := dk_153 0 14 (dk_at dksJ9_isLatin1_0 3 rfl rfl)
theorem dJ9_isLatin1_6 : decode cJ9_isLatin1 6 = .ok (.aload_n 0, 1) := dk_42 (dk_at dksJ9_isLatin1_0 6 rfl rfl)
theorem dJ9_isLatin1_7 : decode cJ9_isLatin1 7 = .ok (.getfield 22, 3) := dk_180 0 22 (dk_at dksJ9_isLatin1_0 7 rfl rfl)
theorem dJ9_isLatin1_10 : decode cJ9_isLatin1 10 = .ok (.ifCond .ne 7, 3) := dk_154 0 7 (dk_at dksJ9_isLatin1_0 10 rfl rfl)
theorem dJ9_isLatin1_13 : decode cJ9_isLatin1 13 = .ok (.iconst 1, 1) := dk_4 (dk_at dksJ9_isLatin1_0 13 rfl rfl)
theorem dJ9_isLatin1_14 : decode cJ9_isLatin1 14 = .ok (.goto 4, 3) := dk_167 0 4 (dk_at dksJ9_isLatin1_0 14 rfl rfl)
theorem dJ9_isLatin1_17 : decode cJ9_isLatin1 17 = .ok (.iconst 0, 1) := dk_3 (dk_at dksJ9_isLatin1_0 17 rfl rfl)
theorem dJ9_isLatin1_18 : decode cJ9_isLatin1 18 = .ok (.ireturn, 1) := dk_172 (dk_at dksJ9_isLatin1_0 18 rfl rfl)
abbrev cJ9_inflate : ByteArray := prog_5_method_11_code
def yJ9_inflate : MethodName := ⟨RJ9, "inflate", "()V"⟩
def dkwJ9_inflate_1 : List UInt8 := [42, 180, 0, 79, 184, 0, 125, 42, 43, 181, 0, 15, 42, 4, 181, 0, 22, 177]
abbrev dktJ9_inflate_1 : List UInt8 := dkwJ9_inflate_1 ++ []
def dkwJ9_inflate_0 : List UInt8 := [42, 182, 0, 83, 154, 0, 4, 177, 42, 180, 0, 15, 190, 184, 0, 26, 76, 42, 180, 0, 15, 3, 43, 3]
abbrev dktJ9_inflate_0 : List UInt8 := dkwJ9_inflate_0 ++ dktJ9_inflate_1
theorem dksJ9_inflate_0 : cJ9_inflate.data.toList.drop 0 = dktJ9_inflate_0 := by decide +kernel
theorem dksJ9_inflate_1 : cJ9_inflate.data.toList.drop 24 = dktJ9_inflate_1 := dk_seg dksJ9_inflate_0 24 rfl rfl
theorem dJ9_inflate_0 : decode cJ9_inflate 0 = .ok (.aload_n 0, 1) := dk_42 (dk_at dksJ9_inflate_0 0 rfl rfl)
theorem dJ9_inflate_1 : decode cJ9_inflate 1 = .ok (.invokevirtual 83, 3) := dk_182 0 83 (dk_at dksJ9_inflate_0 1 rfl rfl)
theorem dJ9_inflate_4 : decode cJ9_inflate 4 = .ok (.ifCond .ne 4, 3) := dk_154 0 4 (dk_at dksJ9_inflate_0 4 rfl rfl)
theorem dJ9_inflate_7 : decode cJ9_inflate 7 = .ok (.return_, 1) := dk_177 (dk_at dksJ9_inflate_0 7 rfl rfl)
theorem dJ9_inflate_8 : decode cJ9_inflate 8 = .ok (.aload_n 0, 1) := dk_42 (dk_at dksJ9_inflate_0 8 rfl rfl)
theorem dJ9_inflate_9 : decode cJ9_inflate 9 = .ok (.getfield 15, 3) := dk_180 0 15 (dk_at dksJ9_inflate_0 9 rfl rfl)
theorem dJ9_inflate_12 : decode cJ9_inflate 12 = .ok (.arraylength, 1) := dk_190 (dk_at dksJ9_inflate_0 12 rfl rfl)
theorem dJ9_inflate_13 : decode cJ9_inflate 13 = .ok (.invokestatic 26, 3) := dk_184 0 26 (dk_at dksJ9_inflate_0 13 rfl rfl)
theorem dJ9_inflate_16 : decode cJ9_inflate 16 = .ok (.astore_n 1, 1) := dk_76 (dk_at dksJ9_inflate_0 16 rfl rfl)
theorem dJ9_inflate_17 : decode cJ9_inflate 17 = .ok (.aload_n 0, 1) := dk_42 (dk_at dksJ9_inflate_0 17 rfl rfl)
theorem dJ9_inflate_18 : decode cJ9_inflate 18 = .ok (.getfield 15, 3) := dk_180 0 15 (dk_at dksJ9_inflate_0 18 rfl rfl)
theorem dJ9_inflate_21 : decode cJ9_inflate 21 = .ok (.iconst 0, 1) := dk_3 (dk_at dksJ9_inflate_0 21 rfl rfl)
theorem dJ9_inflate_22 : decode cJ9_inflate 22 = .ok (.aload_n 1, 1) := dk_43 (dk_at dksJ9_inflate_0 22 rfl rfl)
theorem dJ9_inflate_23 : decode cJ9_inflate 23 = .ok (.iconst 0, 1) := dk_3 (dk_at dksJ9_inflate_0 23 rfl rfl)
theorem dJ9_inflate_24 : decode cJ9_inflate 24 = .ok (.aload_n 0, 1) := dk_42 (dk_at dksJ9_inflate_1 0 rfl rfl)
theorem dJ9_inflate_25 : decode cJ9_inflate 25 = .ok (.getfield 79, 3) := dk_180 0 79 (dk_at dksJ9_inflate_1 1 rfl rfl)
theorem dJ9_inflate_28 : decode cJ9_inflate 28 = .ok (.invokestatic 125, 3) := dk_184 0 125 (dk_at dksJ9_inflate_1 4 rfl rfl)
theorem dJ9_inflate_31 : decode cJ9_inflate 31 = .ok (.aload_n 0, 1) := dk_42 (dk_at dksJ9_inflate_1 7 rfl rfl)
theorem dJ9_inflate_32 : decode cJ9_inflate 32 = .ok (.aload_n 1, 1) := dk_43 (dk_at dksJ9_inflate_1 8 rfl rfl)
theorem dJ9_inflate_33 : decode cJ9_inflate 33 = .ok (.putfield 15, 3) := dk_181 0 15 (dk_at dksJ9_inflate_1 9 rfl rfl)
theorem dJ9_inflate_36 : decode cJ9_inflate 36 = .ok (.aload_n 0, 1) := dk_42 (dk_at dksJ9_inflate_1 12 rfl rfl)
theorem dJ9_inflate_37 : decode cJ9_inflate 37 = .ok (.iconst 1, 1) := dk_4 (dk_at dksJ9_inflate_1 13 rfl rfl)
theorem dJ9_inflate_38 : decode cJ9_inflate 38 = .ok (.putfield 22, 3) := dk_181 0 22 (dk_at dksJ9_inflate_1 14 rfl rfl)
theorem dJ9_inflate_41 : decode cJ9_inflate 41 = .ok (.return_, 1) := dk_177 (dk_at dksJ9_inflate_1 17 rfl rfl)
abbrev cJ9_getValue : ByteArray := prog_5_method_64_code
def yJ9_getValue : MethodName := ⟨RJ9, "getValue", "()[B"⟩
theorem dJ9_getValue_0 : decode cJ9_getValue 0 = .ok (.aload_n 0, 1) := by decide +kernel
theorem dJ9_getValue_1 : decode cJ9_getValue 1 = .ok (.getfield 15, 3) := by decide +kernel
theorem dJ9_getValue_4 : decode cJ9_getValue 4 = .ok (.areturn, 1) := by decide +kernel
theorem q14 : (Jvm.Cond.initialized "java/lang/AbstractStringBuilder") ∈ lw_all := lw_g (lw_at lw_m1 13 rfl) rfl
theorem q222 : (Jvm.Cond.instanceMethod ({ cls := "java/lang/AbstractStringBuilder", name := "length", desc := "()I" } : Jvm.MethodName)) ∈ lw_all := lw_g (lw_at lw_m1 221 rfl) rfl
theorem q223 : (Jvm.Cond.code ({ cls := "java/lang/AbstractStringBuilder", name := "length", desc := "()I" } : Jvm.MethodName) prog_5_method_6_code (1 : Nat) (Option.some Jvm.ClassFile.FieldType.int)) ∈ lw_all := lw_g (lw_at lw_m1 222 rfl) rfl
theorem q259 : (Jvm.Cond.instanceMethod ({ cls := "java/lang/AbstractStringBuilder", name := "charAt", desc := "(I)C" } : Jvm.MethodName)) ∈ lw_all := lw_g (lw_at lw_m2 18 rfl) rfl
theorem q260 : (Jvm.Cond.code ({ cls := "java/lang/AbstractStringBuilder", name := "charAt", desc := "(I)C" } : Jvm.MethodName) prog_5_method_14_code (5 : Nat) (Option.some Jvm.ClassFile.FieldType.char)) ∈ lw_all := lw_g (lw_at lw_m2 19 rfl) rfl
theorem q261 : (Jvm.Cond.methodLink "java/lang/AbstractStringBuilder" (138 : Nat) ({ cls := "java/lang/Math", name := "min", desc := "(II)I" } : Jvm.MethodName)) ∈ lw_all := lw_g (lw_at lw_m2 20 rfl) rfl
theorem q264 : (Jvm.Cond.methodLink "java/lang/AbstractStringBuilder" (144 : Nat) ({ cls := "java/lang/String", name := "checkIndex", desc := "(II)V" } : Jvm.MethodName)) ∈ lw_all := lw_g (lw_at lw_m2 23 rfl) rfl
theorem q265 : (Jvm.Cond.methodLink "java/lang/AbstractStringBuilder" (148 : Nat) ({ cls := "java/lang/StringUTF16", name := "getChar", desc := "([BI)C" } : Jvm.MethodName)) ∈ lw_all := lw_g (lw_at lw_m2 24 rfl) rfl
theorem q274 : (Jvm.Cond.instanceMethod ({ cls := "java/lang/AbstractStringBuilder", name := "<init>", desc := "(I)V" } : Jvm.MethodName)) ∈ lw_all := lw_g (lw_at lw_m2 33 rfl) rfl
theorem q275 : (Jvm.Cond.code ({ cls := "java/lang/AbstractStringBuilder", name := "<init>", desc := "(I)V" } : Jvm.MethodName) prog_5_method_2_code (2 : Nat) (Option.none : Option Jvm.ClassFile.FieldType)) ∈ lw_all := lw_g (lw_at lw_m2 34 rfl) rfl
theorem q276 : (Jvm.Cond.methodLink "java/lang/AbstractStringBuilder" (3 : Nat) ({ cls := "java/lang/Object", name := "<init>", desc := "()V" } : Jvm.MethodName)) ∈ lw_all := lw_g (lw_at lw_m2 35 rfl) rfl
theorem q277 : (Jvm.Cond.fieldLink "java/lang/AbstractStringBuilder" (18 : Nat) "java/lang/String" "COMPACT_STRINGS" "Z") ∈ lw_all := lw_g (lw_at lw_m2 36 rfl) rfl
theorem q278 : (Jvm.Cond.methodLink "java/lang/AbstractStringBuilder" (26 : Nat) ({ cls := "java/lang/StringUTF16", name := "newBytesFor", desc := "(I)[B" } : Jvm.MethodName)) ∈ lw_all := lw_g (lw_at lw_m2 37 rfl) rfl
theorem q279 : (Jvm.Cond.fieldLink "java/lang/AbstractStringBuilder" (15 : Nat) "java/lang/AbstractStringBuilder" "value" "[B") ∈ lw_all := lw_g (lw_at lw_m2 38 rfl) rfl
theorem q280 : (Jvm.Cond.fieldLink "java/lang/AbstractStringBuilder" (22 : Nat) "java/lang/AbstractStringBuilder" "coder" "B") ∈ lw_all := lw_g (lw_at lw_m2 39 rfl) rfl
theorem q282 : (Jvm.Cond.fieldLink "java/lang/AbstractStringBuilder" (79 : Nat) "java/lang/AbstractStringBuilder" "count" "I") ∈ lw_all := lw_g (lw_at lw_m2 41 rfl) rfl
theorem q284 : (Jvm.Cond.soleField "java/lang/AbstractStringBuilder" "value") ∈ lw_all := lw_g (lw_at lw_m2 43 rfl) rfl
theorem q286 : (Jvm.Cond.soleField "java/lang/AbstractStringBuilder" "coder") ∈ lw_all := lw_g (lw_at lw_m2 45 rfl) rfl
theorem q288 : (Jvm.Cond.soleField "java/lang/AbstractStringBuilder" "maybeLatin1") ∈ lw_all := lw_g (lw_at lw_m2 47 rfl) rfl
theorem q290 : (Jvm.Cond.soleField "java/lang/AbstractStringBuilder" "count") ∈ lw_all := lw_g (lw_at lw_m2 49 rfl) rfl
theorem q296 : (Jvm.Cond.instanceMethod ({ cls := "java/lang/AbstractStringBuilder", name := "append", desc := "(C)Ljava/lang/AbstractStringBuilder;" } : Jvm.MethodName)) ∈ lw_all := lw_g (lw_at lw_m2 55 rfl) rfl
theorem q297 : (Jvm.Cond.code ({ cls := "java/lang/AbstractStringBuilder", name := "append", desc := "(C)Ljava/lang/AbstractStringBuilder;" } : Jvm.MethodName) prog_5_method_31_code (2 : Nat) (Option.some (Jvm.ClassFile.FieldType.object "java/lang/AbstractStringBuilder"))) ∈ lw_all := lw_g (lw_at lw_m2 56 rfl) rfl
theorem q298 : (Jvm.Cond.methodLink "java/lang/AbstractStringBuilder" (100 : Nat) ({ cls := "java/lang/AbstractStringBuilder", name := "ensureCapacityInternal", desc := "(I)V" } : Jvm.MethodName)) ∈ lw_all := lw_g (lw_at lw_m2 57 rfl) rfl
theorem q299 : (Jvm.Cond.privateMethod ({ cls := "java/lang/AbstractStringBuilder", name := "ensureCapacityInternal", desc := "(I)V" } : Jvm.MethodName)) ∈ lw_tbl := lw_at lw_m2 58 rfl
theorem q300 : (Jvm.Cond.instanceMethod ({ cls := "java/lang/AbstractStringBuilder", name := "ensureCapacityInternal", desc := "(I)V" } : Jvm.MethodName)) ∈ lw_all := lw_g (lw_at lw_m2 59 rfl) rfl
theorem q301 : (Jvm.Cond.code ({ cls := "java/lang/AbstractStringBuilder", name := "ensureCapacityInternal", desc := "(I)V" } : Jvm.MethodName) prog_5_method_9_code (3 : Nat) (Option.none : Option Jvm.ClassFile.FieldType)) ∈ lw_all := lw_g (lw_at lw_m2 60 rfl) rfl
theorem q302 : (Jvm.Cond.methodLink "java/lang/AbstractStringBuilder" (104 : Nat) ({ cls := "java/lang/AbstractStringBuilder", name := "newCapacity", desc := "(I)I" } : Jvm.MethodName)) ∈ lw_all := lw_g (lw_at lw_m2 61 rfl) rfl
theorem q303 : (Jvm.Cond.privateMethod ({ cls := "java/lang/AbstractStringBuilder", name := "newCapacity", desc := "(I)I" } : Jvm.MethodName)) ∈ lw_tbl := lw_at lw_m2 62 rfl
theorem q304 : (Jvm.Cond.instanceMethod ({ cls := "java/lang/AbstractStringBuilder", name := "newCapacity", desc := "(I)I" } : Jvm.MethodName)) ∈ lw_all := lw_g (lw_at lw_m2 63 rfl) rfl
theorem q305 : (Jvm.Cond.code ({ cls := "java/lang/AbstractStringBuilder", name := "newCapacity", desc := "(I)I" } : Jvm.MethodName) prog_5_method_10_code (6 : Nat) (Option.some Jvm.ClassFile.FieldType.int)) ∈ lw_all := lw_g (lw_at lw_m2 64 rfl) rfl
theorem q306 : (Jvm.Cond.methodLink "java/lang/AbstractStringBuilder" (114 : Nat) ({ cls := "jdk/internal/util/ArraysSupport", name := "newLength", desc := "(III)I" } : Jvm.MethodName)) ∈ lw_all := lw_g (lw_at lw_m2 65 rfl) rfl
theorem q316 : (Jvm.Cond.constant "java/lang/AbstractStringBuilder" (39 : Nat) (2147483647 : Int32)) ∈ lw_all := lw_g (lw_at lw_m2 75 rfl) rfl
theorem q317 : (Jvm.Cond.methodLink "java/lang/AbstractStringBuilder" (108 : Nat) ({ cls := "java/util/Arrays", name := "copyOf", desc := "([BI)[B" } : Jvm.MethodName)) ∈ lw_all := lw_g (lw_at lw_m2 76 rfl) rfl
theorem q331 : (Jvm.Cond.methodLink "java/lang/AbstractStringBuilder" (83 : Nat) ({ cls := "java/lang/AbstractStringBuilder", name := "isLatin1", desc := "()Z" } : Jvm.MethodName)) ∈ lw_all := lw_g (lw_at lw_m2 90 rfl) rfl
theorem q332 : (Jvm.Cond.instanceMethod ({ cls := "java/lang/AbstractStringBuilder", name := "isLatin1", desc := "()Z" } : Jvm.MethodName)) ∈ lw_all := lw_g (lw_at lw_m2 91 rfl) rfl
theorem q333 : (Jvm.Cond.sameMethod "java/lang/AbstractStringBuilder" "java/lang/AbstractStringBuilder" "isLatin1" "()Z") ∈ lw_all := lw_g (lw_at lw_m2 92 rfl) rfl
theorem q335 : (Jvm.Cond.code ({ cls := "java/lang/AbstractStringBuilder", name := "isLatin1", desc := "()Z" } : Jvm.MethodName) prog_5_method_68_code (1 : Nat) (Option.some Jvm.ClassFile.FieldType.boolean)) ∈ lw_all := lw_g (lw_at lw_m2 94 rfl) rfl
theorem q336 : (Jvm.Cond.methodLink "java/lang/AbstractStringBuilder" (191 : Nat) ({ cls := "java/lang/StringLatin1", name := "canEncode", desc := "(C)Z" } : Jvm.MethodName)) ∈ lw_all := lw_g (lw_at lw_m2 95 rfl) rfl
theorem q339 : (Jvm.Cond.methodLink "java/lang/AbstractStringBuilder" (195 : Nat) ({ cls := "java/lang/AbstractStringBuilder", name := "inflate", desc := "()V" } : Jvm.MethodName)) ∈ lw_all := lw_g (lw_at lw_m2 98 rfl) rfl
theorem q340 : (Jvm.Cond.privateMethod ({ cls := "java/lang/AbstractStringBuilder", name := "inflate", desc := "()V" } : Jvm.MethodName)) ∈ lw_tbl := lw_at lw_m2 99 rfl
theorem q341 : (Jvm.Cond.instanceMethod ({ cls := "java/lang/AbstractStringBuilder", name := "inflate", desc := "()V" } : Jvm.MethodName)) ∈ lw_all := lw_g (lw_at lw_m2 100 rfl) rfl
theorem q342 : (Jvm.Cond.code ({ cls := "java/lang/AbstractStringBuilder", name := "inflate", desc := "()V" } : Jvm.MethodName) prog_5_method_11_code (2 : Nat) (Option.none : Option Jvm.ClassFile.FieldType)) ∈ lw_all := lw_g (lw_at lw_m2 101 rfl) rfl
theorem q343 : (Jvm.Cond.methodLink "java/lang/AbstractStringBuilder" (125 : Nat) ({ cls := "java/lang/StringLatin1", name := "inflate", desc := "([BI[BII)V" } : Jvm.MethodName)) ∈ lw_all := lw_g (lw_at lw_m2 102 rfl) rfl
theorem q349 : (Jvm.Cond.methodLink "java/lang/AbstractStringBuilder" (197 : Nat) ({ cls := "java/lang/StringUTF16", name := "putCharSB", desc := "([BII)V" } : Jvm.MethodName)) ∈ lw_all := lw_g (lw_at lw_m2 108 rfl) rfl
theorem q364 : (Jvm.Cond.instanceMethod ({ cls := "java/lang/AbstractStringBuilder", name := "getValue", desc := "()[B" } : Jvm.MethodName)) ∈ lw_all := lw_g (lw_at lw_m2 123 rfl) rfl
theorem q365 : (Jvm.Cond.sameMethod "java/lang/AbstractStringBuilder" "java/lang/AbstractStringBuilder" "getValue" "()[B") ∈ lw_all := lw_g (lw_at lw_m2 124 rfl) rfl
theorem q367 : (Jvm.Cond.code ({ cls := "java/lang/AbstractStringBuilder", name := "getValue", desc := "()[B" } : Jvm.MethodName) prog_5_method_64_code (1 : Nat) (Option.some (Jvm.ClassFile.FieldType.array Jvm.ClassFile.FieldType.byte))) ∈ lw_all := lw_g (lw_at lw_m2 126 rfl) rfl
theorem q440 : (Jvm.Cond.sameMethod "java/lang/AbstractStringBuilder" "java/lang/AbstractStringBuilder" "length" "()I") ∈ lw_all := lw_g (lw_at lw_m2 199 rfl) rfl
theorem q441 : (Jvm.Cond.sameMethod "java/lang/AbstractStringBuilder" "java/lang/AbstractStringBuilder" "charAt" "(I)C") ∈ lw_all := lw_g (lw_at lw_m2 200 rfl) rfl
theorem q442 : (Jvm.Cond.sameMethod "java/lang/AbstractStringBuilder" "java/lang/AbstractStringBuilder" "append" "(C)Ljava/lang/AbstractStringBuilder;") ∈ lw_all := lw_g (lw_at lw_m2 201 rfl) rfl
theorem q443 : (Jvm.Cond.sameMethod "java/lang/AbstractStringBuilder" "java/lang/AbstractStringBuilder" "ensureCapacityInternal" "(I)V") ∈ lw_all := lw_g (lw_at lw_m2 202 rfl) rfl
theorem q444 : (Jvm.Cond.sameMethod "java/lang/AbstractStringBuilder" "java/lang/AbstractStringBuilder" "newCapacity" "(I)I") ∈ lw_all := lw_g (lw_at lw_m2 203 rfl) rfl
theorem q445 : (Jvm.Cond.sameMethod "java/lang/AbstractStringBuilder" "java/lang/AbstractStringBuilder" "inflate" "()V") ∈ lw_all := lw_g (lw_at lw_m2 204 rfl) rfl
/-! java/lang/StringBuilder -/
set_option maxRecDepth 100000
def RJ10 : String := "java/lang/StringBuilder"
def TJ10 : u_T := fun k => match k with
  | 0 => ("java/lang/AbstractStringBuilder", "value", "[B", false)
  | 1 => ("java/lang/AbstractStringBuilder", "coder", "B", false)
  | 2 => ("java/lang/AbstractStringBuilder", "maybeLatin1", "Z", false)
  | _ => ("java/lang/AbstractStringBuilder", "count", "I", false)
def tyJ10 : Nat → FieldType := fun k => match k with
  | 0 => .array .byte
  | 1 => .byte
  | 2 => .boolean
  | _ => .int
abbrev wsJ100 : List Cond := u_ws RJ10 TJ10 4
theorem nmJ10 : ∀ a, a < 4 → ∀ b, b < 4 → a ≠ b → (TJ10 a).2.1 ≠ (TJ10 b).2.1 := by decide +kernel
theorem tyJ10_ok : ∀ k, k < 4 → parseFieldDescriptor (TJ10 k).2.2.1 = some (tyJ10 k) := by decide +kernel
abbrev cJ10_length : ByteArray := prog_13_method_93_code
def yJ10_length : MethodName := ⟨RJ10, "length", "()I"⟩
theorem dJ10_length_0 : decode cJ10_length 0 = .ok (.aload_n 0, 1) := by decide +kernel
theorem dJ10_length_1 : decode cJ10_length 1 = .ok (.invokespecial 343, 3) := by decide +kernel
theorem dJ10_length_4 : decode cJ10_length 4 = .ok (.ireturn, 1) := by decide +kernel
abbrev cJ10_charAt : ByteArray := prog_13_method_88_code
def yJ10_charAt : MethodName := ⟨RJ10, "charAt", "(I)C"⟩
def dkwJ10_charAt_0 : List UInt8 := [42, 27, 183, 1, 73, 172]
abbrev dktJ10_charAt_0 : List UInt8 := dkwJ10_charAt_0 ++ []
theorem dksJ10_charAt_0 : cJ10_charAt.data.toList.drop 0 = dktJ10_charAt_0 := by decide +kernel
theorem dJ10_charAt_0 : decode cJ10_charAt 0 = .ok (.aload_n 0, 1) := dk_42 (dk_at dksJ10_charAt_0 0 rfl rfl)
theorem dJ10_charAt_1 : decode cJ10_charAt 1 = .ok (.iload_n 1, 1) := dk_27 (dk_at dksJ10_charAt_0 1 rfl rfl)
theorem dJ10_charAt_2 : decode cJ10_charAt 2 = .ok (.invokespecial 329, 3) := dk_183 1 73 (dk_at dksJ10_charAt_0 2 rfl rfl)
theorem dJ10_charAt_5 : decode cJ10_charAt 5 = .ok (.ireturn, 1) := dk_172 (dk_at dksJ10_charAt_0 5 rfl rfl)
abbrev cJ10_init : ByteArray := prog_13_method_2_code
def yJ10_init : MethodName := ⟨RJ10, "<init>", "(I)V"⟩
def dkwJ10_init_0 : List UInt8 := [42, 27, 183, 0, 1, 177]
abbrev dktJ10_init_0 : List UInt8 := dkwJ10_init_0 ++ []
theorem dksJ10_init_0 : cJ10_init.data.toList.drop 0 = dktJ10_init_0 := by decide +kernel
theorem dJ10_init_0 : decode cJ10_init 0 = .ok (.aload_n 0, 1) := dk_42 (dk_at dksJ10_init_0 0 rfl rfl)
theorem dJ10_init_1 : decode cJ10_init 1 = .ok (.iload_n 1, 1) := dk_27 (dk_at dksJ10_init_0 1 rfl rfl)
theorem dJ10_init_2 : decode cJ10_init 2 = .ok (.invokespecial 1, 3) := dk_183 0 1 (dk_at dksJ10_init_0 2 rfl rfl)
theorem dJ10_init_5 : decode cJ10_init 5 = .ok (.return_, 1) := dk_177 (dk_at dksJ10_init_0 5 rfl rfl)
abbrev cJ10_append : ByteArray := prog_13_method_14_code
def yJ10_append : MethodName := ⟨RJ10, "append", "(C)Ljava/lang/StringBuilder;"⟩
def dkwJ10_append_0 : List UInt8 := [42, 27, 183, 0, 50, 87, 42, 176]
abbrev dktJ10_append_0 : List UInt8 := dkwJ10_append_0 ++ []
theorem dksJ10_append_0 : cJ10_append.data.toList.drop 0 = dktJ10_append_0 := by decide +kernel
theorem dJ10_append_0 : decode cJ10_append 0 = .ok (.aload_n 0, 1) := dk_42 (dk_at dksJ10_append_0 0 rfl rfl)
theorem dJ10_append_1 : decode cJ10_append 1 = .ok (.iload_n 1, 1) := dk_27 (dk_at dksJ10_append_0 1 rfl rfl)
theorem dJ10_append_2 : decode cJ10_append 2 = .ok (.invokespecial 50, 3) := dk_183 0 50 (dk_at dksJ10_append_0 2 rfl rfl)
theorem dJ10_append_5 : decode cJ10_append 5 = .ok (.pop, 1) := dk_87 (dk_at dksJ10_append_0 5 rfl rfl)
theorem dJ10_append_6 : decode cJ10_append 6 = .ok (.aload_n 0, 1) := dk_42 (dk_at dksJ10_append_0 6 rfl rfl)
theorem dJ10_append_7 : decode cJ10_append 7 = .ok (.areturn, 1) := dk_176 (dk_at dksJ10_append_0 7 rfl rfl)
abbrev cJ10_toString : ByteArray := prog_13_method_42_code
def yJ10_toString : MethodName := ⟨RJ10, "toString", "()Ljava/lang/String;"⟩
def dkwJ10_toString_0 : List UInt8 := [187, 0, 18, 89, 42, 183, 0, 137, 176]
abbrev dktJ10_toString_0 : List UInt8 := dkwJ10_toString_0 ++ []
theorem dksJ10_toString_0 : cJ10_toString.data.toList.drop 0 = dktJ10_toString_0 := by decide +kernel
theorem dJ10_toString_0 : decode cJ10_toString 0 = .ok (.new 18, 3) := dk_187 0 18 (dk_at dksJ10_toString_0 0 rfl rfl)
theorem dJ10_toString_3 : decode cJ10_toString 3 = .ok (.dup, 1) := dk_89 (dk_at dksJ10_toString_0 3 rfl rfl)
theorem dJ10_toString_4 : decode cJ10_toString 4 = .ok (.aload_n 0, 1) := dk_42 (dk_at dksJ10_toString_0 4 rfl rfl)
theorem dJ10_toString_5 : decode cJ10_toString 5 = .ok (.invokespecial 137, 3) := dk_183 0 137 (dk_at dksJ10_toString_0 5 rfl rfl)
theorem dJ10_toString_8 : decode cJ10_toString 8 = .ok (.areturn, 1) := dk_176 (dk_at dksJ10_toString_0 8 rfl rfl)
theorem q15 : (Jvm.Cond.initialized "java/lang/StringBuilder") ∈ lw_all := lw_g (lw_at lw_m1 14 rfl) rfl
theorem q214 : (Jvm.Cond.castable "java/lang/StringBuilder" "java/lang/CharSequence") ∈ lw_tbl := lw_at lw_m1 213 rfl
theorem q215 : (Jvm.Cond.selects "java/lang/StringBuilder" ({ cls := "java/lang/CharSequence", name := "length", desc := "()I" } : Jvm.MethodName) ({ cls := "java/lang/StringBuilder", name := "length", desc := "()I" } : Jvm.MethodName)) ∈ lw_all := lw_g (lw_at lw_m1 214 rfl) rfl
theorem q216 : (Jvm.Cond.unhidden "java/lang/StringBuilder" "length" "()I") ∈ lw_tbl := lw_at lw_m1 215 rfl
theorem q217 : (Jvm.Cond.instanceMethod ({ cls := "java/lang/StringBuilder", name := "length", desc := "()I" } : Jvm.MethodName)) ∈ lw_all := lw_g (lw_at lw_m1 216 rfl) rfl
theorem q218 : (Jvm.Cond.publicMethod ({ cls := "java/lang/StringBuilder", name := "length", desc := "()I" } : Jvm.MethodName)) ∈ lw_tbl := lw_at lw_m1 217 rfl
theorem q219 : (Jvm.Cond.code ({ cls := "java/lang/StringBuilder", name := "length", desc := "()I" } : Jvm.MethodName) prog_13_method_93_code (1 : Nat) (Option.some Jvm.ClassFile.FieldType.int)) ∈ lw_all := lw_g (lw_at lw_m1 218 rfl) rfl
theorem q220 : (Jvm.Cond.methodLink "java/lang/StringBuilder" (343 : Nat) ({ cls := "java/lang/AbstractStringBuilder", name := "length", desc := "()I" } : Jvm.MethodName)) ∈ lw_all := lw_g (lw_at lw_m1 219 rfl) rfl
theorem q221 : (Jvm.Cond.superclass "java/lang/StringBuilder" "java/lang/AbstractStringBuilder") ∈ lw_all := lw_g (lw_at lw_m1 220 rfl) rfl
theorem q253 : (Jvm.Cond.selects "java/lang/StringBuilder" ({ cls := "java/lang/CharSequence", name := "charAt", desc := "(I)C" } : Jvm.MethodName) ({ cls := "java/lang/StringBuilder", name := "charAt", desc := "(I)C" } : Jvm.MethodName)) ∈ lw_all := lw_g (lw_at lw_m2 12 rfl) rfl
theorem q254 : (Jvm.Cond.unhidden "java/lang/StringBuilder" "charAt" "(I)C") ∈ lw_tbl := lw_at lw_m2 13 rfl
theorem q255 : (Jvm.Cond.instanceMethod ({ cls := "java/lang/StringBuilder", name := "charAt", desc := "(I)C" } : Jvm.MethodName)) ∈ lw_all := lw_g (lw_at lw_m2 14 rfl) rfl
theorem q256 : (Jvm.Cond.publicMethod ({ cls := "java/lang/StringBuilder", name := "charAt", desc := "(I)C" } : Jvm.MethodName)) ∈ lw_tbl := lw_at lw_m2 15 rfl
theorem q257 : (Jvm.Cond.code ({ cls := "java/lang/StringBuilder", name := "charAt", desc := "(I)C" } : Jvm.MethodName) prog_13_method_88_code (2 : Nat) (Option.some Jvm.ClassFile.FieldType.char)) ∈ lw_all := lw_g (lw_at lw_m2 16 rfl) rfl
theorem q258 : (Jvm.Cond.methodLink "java/lang/StringBuilder" (329 : Nat) ({ cls := "java/lang/AbstractStringBuilder", name := "charAt", desc := "(I)C" } : Jvm.MethodName)) ∈ lw_all := lw_g (lw_at lw_m2 17 rfl) rfl
theorem q269 : (Jvm.Cond.instantiable "java/lang/StringBuilder" (4 : Nat)) ∈ lw_all := lw_g (lw_at lw_m2 28 rfl) rfl
theorem q271 : (Jvm.Cond.instanceMethod ({ cls := "java/lang/StringBuilder", name := "<init>", desc := "(I)V" } : Jvm.MethodName)) ∈ lw_all := lw_g (lw_at lw_m2 30 rfl) rfl
theorem q272 : (Jvm.Cond.code ({ cls := "java/lang/StringBuilder", name := "<init>", desc := "(I)V" } : Jvm.MethodName) prog_13_method_2_code (2 : Nat) (Option.none : Option Jvm.ClassFile.FieldType)) ∈ lw_all := lw_g (lw_at lw_m2 31 rfl) rfl
theorem q273 : (Jvm.Cond.methodLink "java/lang/StringBuilder" (1 : Nat) ({ cls := "java/lang/AbstractStringBuilder", name := "<init>", desc := "(I)V" } : Jvm.MethodName)) ∈ lw_all := lw_g (lw_at lw_m2 32 rfl) rfl
theorem q283 : (Jvm.Cond.lays "java/lang/StringBuilder" "java/lang/AbstractStringBuilder" "value" "[B") ∈ lw_all := lw_g (lw_at lw_m2 42 rfl) rfl
theorem q285 : (Jvm.Cond.lays "java/lang/StringBuilder" "java/lang/AbstractStringBuilder" "coder" "B") ∈ lw_all := lw_g (lw_at lw_m2 44 rfl) rfl
theorem q287 : (Jvm.Cond.lays "java/lang/StringBuilder" "java/lang/AbstractStringBuilder" "maybeLatin1" "Z") ∈ lw_all := lw_g (lw_at lw_m2 46 rfl) rfl
theorem q289 : (Jvm.Cond.lays "java/lang/StringBuilder" "java/lang/AbstractStringBuilder" "count" "I") ∈ lw_all := lw_g (lw_at lw_m2 48 rfl) rfl
theorem q292 : (Jvm.Cond.instanceMethod ({ cls := "java/lang/StringBuilder", name := "append", desc := "(C)Ljava/lang/StringBuilder;" } : Jvm.MethodName)) ∈ lw_all := lw_g (lw_at lw_m2 51 rfl) rfl
theorem q293 : (Jvm.Cond.selects "java/lang/StringBuilder" ({ cls := "java/lang/StringBuilder", name := "append", desc := "(C)Ljava/lang/StringBuilder;" } : Jvm.MethodName) ({ cls := "java/lang/StringBuilder", name := "append", desc := "(C)Ljava/lang/StringBuilder;" } : Jvm.MethodName)) ∈ lw_all := lw_g (lw_at lw_m2 52 rfl) rfl
theorem q294 : (Jvm.Cond.code ({ cls := "java/lang/StringBuilder", name := "append", desc := "(C)Ljava/lang/StringBuilder;" } : Jvm.MethodName) prog_13_method_14_code (2 : Nat) (Option.some (Jvm.ClassFile.FieldType.object "java/lang/StringBuilder"))) ∈ lw_all := lw_g (lw_at lw_m2 53 rfl) rfl
theorem q295 : (Jvm.Cond.methodLink "java/lang/StringBuilder" (50 : Nat) ({ cls := "java/lang/AbstractStringBuilder", name := "append", desc := "(C)Ljava/lang/AbstractStringBuilder;" } : Jvm.MethodName)) ∈ lw_all := lw_g (lw_at lw_m2 54 rfl) rfl
theorem q334 : (Jvm.Cond.selects "java/lang/StringBuilder" ({ cls := "java/lang/AbstractStringBuilder", name := "isLatin1", desc := "()Z" } : Jvm.MethodName) ({ cls := "java/lang/AbstractStringBuilder", name := "isLatin1", desc := "()Z" } : Jvm.MethodName)) ∈ lw_all := lw_g (lw_at lw_m2 93 rfl) rfl
theorem q353 : (Jvm.Cond.instanceMethod ({ cls := "java/lang/StringBuilder", name := "toString", desc := "()Ljava/lang/String;" } : Jvm.MethodName)) ∈ lw_all := lw_g (lw_at lw_m2 112 rfl) rfl
theorem q354 : (Jvm.Cond.selects "java/lang/StringBuilder" ({ cls := "java/lang/StringBuilder", name := "toString", desc := "()Ljava/lang/String;" } : Jvm.MethodName) ({ cls := "java/lang/StringBuilder", name := "toString", desc := "()Ljava/lang/String;" } : Jvm.MethodName)) ∈ lw_all := lw_g (lw_at lw_m2 113 rfl) rfl
theorem q355 : (Jvm.Cond.code ({ cls := "java/lang/StringBuilder", name := "toString", desc := "()Ljava/lang/String;" } : Jvm.MethodName) prog_13_method_42_code (1 : Nat) (Option.some (Jvm.ClassFile.FieldType.object "java/lang/String"))) ∈ lw_all := lw_g (lw_at lw_m2 114 rfl) rfl
theorem q356 : (Jvm.Cond.classLink "java/lang/StringBuilder" (18 : Nat) "java/lang/String") ∈ lw_all := lw_g (lw_at lw_m2 115 rfl) rfl
theorem q357 : (Jvm.Cond.methodLink "java/lang/StringBuilder" (137 : Nat) ({ cls := "java/lang/String", name := "<init>", desc := "(Ljava/lang/StringBuilder;)V" } : Jvm.MethodName)) ∈ lw_all := lw_g (lw_at lw_m2 116 rfl) rfl
theorem q366 : (Jvm.Cond.selects "java/lang/StringBuilder" ({ cls := "java/lang/AbstractStringBuilder", name := "getValue", desc := "()[B" } : Jvm.MethodName) ({ cls := "java/lang/AbstractStringBuilder", name := "getValue", desc := "()[B" } : Jvm.MethodName)) ∈ lw_all := lw_g (lw_at lw_m2 125 rfl) rfl
theorem q446 : (Jvm.Cond.selects "java/lang/StringBuilder" ({ cls := "java/lang/AbstractStringBuilder", name := "length", desc := "()I" } : Jvm.MethodName) ({ cls := "java/lang/StringBuilder", name := "length", desc := "()I" } : Jvm.MethodName)) ∈ lw_all := lw_g (lw_at lw_m2 205 rfl) rfl
theorem in_J10 : ∀ w ∈ wsJ100, w ∈ lw_all := lw_in wsJ100 [283, 285, 287, 289] (by decide +kernel) (by decide +kernel)
/-! java/util/Arrays -/
set_option maxRecDepth 100000
def RJ12 : String := "java/util/Arrays"
abbrev cJ12_copyOf : ByteArray := prog_18_method_121_code
def yJ12_copyOf : MethodName := ⟨RJ12, "copyOf", "([BI)[B"⟩
def dkwJ12_copyOf_1 : List UInt8 := [27, 184, 1, 48, 184, 0, 150, 44, 176]
abbrev dktJ12_copyOf_1 : List UInt8 := dkwJ12_copyOf_1 ++ []
def dkwJ12_copyOf_0 : List UInt8 := [27, 42, 190, 160, 0, 11, 42, 182, 1, 54, 192, 1, 55, 176, 27, 188, 8, 77, 42, 3, 44, 3, 42, 190]
abbrev dktJ12_copyOf_0 : List UInt8 := dkwJ12_copyOf_0 ++ dktJ12_copyOf_1
theorem dksJ12_copyOf_0 : cJ12_copyOf.data.toList.drop 0 = dktJ12_copyOf_0 := by decide +kernel
theorem dksJ12_copyOf_1 : cJ12_copyOf.data.toList.drop 24 = dktJ12_copyOf_1 := dk_seg dksJ12_copyOf_0 24 rfl rfl
theorem dJ12_copyOf_0 : decode cJ12_copyOf 0 = .ok (.iload_n 1, 1) := dk_27 (dk_at dksJ12_copyOf_0 0 rfl rfl)
theorem dJ12_copyOf_1 : decode cJ12_copyOf 1 = .ok (.aload_n 0, 1) := dk_42 (dk_at dksJ12_copyOf_0 1 rfl rfl)
theorem dJ12_copyOf_2 : decode cJ12_copyOf 2 = .ok (.arraylength, 1) := dk_190 (dk_at dksJ12_copyOf_0 2 rfl rfl)
theorem dJ12_copyOf_3 : decode cJ12_copyOf 3 = .ok (.if_icmp .ne 11, 3) := dk_160 0 11 (dk_at dksJ12_copyOf_0 3 rfl rfl)
theorem dJ12_copyOf_6 : decode cJ12_copyOf 6 = .ok (.aload_n 0, 1) := dk_42 (dk_at dksJ12_copyOf_0 6 rfl rfl)
theorem dJ12_copyOf_7 : decode cJ12_copyOf 7 = .ok (.invokevirtual 310, 3) := dk_182 1 54 (dk_at dksJ12_copyOf_0 7 rfl rfl)
theorem dJ12_copyOf_10 : decode cJ12_copyOf 10 = .ok (.checkcast 311, 3) := dk_192 1 55 (dk_at dksJ12_copyOf_0 10 rfl rfl)
theorem dJ12_copyOf_13 : decode cJ12_copyOf 13 = .ok (.areturn, 1) := dk_176 (dk_at dksJ12_copyOf_0 13 rfl rfl)
theorem dJ12_copyOf_14 : decode cJ12_copyOf 14 = .ok (.iload_n 1, 1) := dk_27 (dk_at dksJ12_copyOf_0 14 rfl rfl)
theorem dJ12_copyOf_15 : decode cJ12_copyOf 15 = .ok (.newarray .byte, 2) := dk_188_8 (dk_at dksJ12_copyOf_0 15 rfl rfl)
theorem dJ12_copyOf_17 : decode cJ12_copyOf 17 = .ok (.astore_n 2, 1) := dk_77 (dk_at dksJ12_copyOf_0 17 rfl rfl)
theorem dJ12_copyOf_18 : decode cJ12_copyOf 18 = .ok (.aload_n 0, 1) := dk_42 (dk_at dksJ12_copyOf_0 18 rfl rfl)
theorem dJ12_copyOf_19 : decode cJ12_copyOf 19 = .ok (.iconst 0, 1) := dk_3 (dk_at dksJ12_copyOf_0 19 rfl rfl)
theorem dJ12_copyOf_20 : decode cJ12_copyOf 20 = .ok (.aload_n 2, 1) := dk_44 (dk_at dksJ12_copyOf_0 20 rfl rfl)
theorem dJ12_copyOf_21 : decode cJ12_copyOf 21 = .ok (.iconst 0, 1) := dk_3 (dk_at dksJ12_copyOf_0 21 rfl rfl)
theorem dJ12_copyOf_22 : decode cJ12_copyOf 22 = .ok (.aload_n 0, 1) := dk_42 (dk_at dksJ12_copyOf_0 22 rfl rfl)
theorem dJ12_copyOf_23 : decode cJ12_copyOf 23 = .ok (.arraylength, 1) := dk_190 (dk_at dksJ12_copyOf_0 23 rfl rfl)
theorem dJ12_copyOf_24 : decode cJ12_copyOf 24 = .ok (.iload_n 1, 1) := dk_27 (dk_at dksJ12_copyOf_1 0 rfl rfl)
theorem dJ12_copyOf_25 : decode cJ12_copyOf 25 = .ok (.invokestatic 304, 3) := dk_184 1 48 (dk_at dksJ12_copyOf_1 1 rfl rfl)
theorem dJ12_copyOf_28 : decode cJ12_copyOf 28 = .ok (.invokestatic 150, 3) := dk_184 0 150 (dk_at dksJ12_copyOf_1 4 rfl rfl)
theorem dJ12_copyOf_31 : decode cJ12_copyOf 31 = .ok (.aload_n 2, 1) := dk_44 (dk_at dksJ12_copyOf_1 7 rfl rfl)
theorem dJ12_copyOf_32 : decode cJ12_copyOf 32 = .ok (.areturn, 1) := dk_176 (dk_at dksJ12_copyOf_1 8 rfl rfl)
abbrev cJ12_copyOfRange : ByteArray := prog_18_method_132_code
def yJ12_copyOfRange : MethodName := ⟨RJ12, "copyOfRange", "([BII)[B"⟩
def dkwJ12_copyOfRange_1 : List UInt8 := [176]
abbrev dktJ12_copyOfRange_1 : List UInt8 := dkwJ12_copyOfRange_1 ++ []
def dkwJ12_copyOfRange_0 : List UInt8 := [27, 154, 0, 9, 28, 42, 190, 159, 0, 10, 42, 27, 28, 184, 1, 83, 176, 42, 182, 1, 54, 192, 1, 55]
abbrev dktJ12_copyOfRange_0 : List UInt8 := dkwJ12_copyOfRange_0 ++ dktJ12_copyOfRange_1
theorem dksJ12_copyOfRange_0 : cJ12_copyOfRange.data.toList.drop 0 = dktJ12_copyOfRange_0 := by decide +kernel
theorem dksJ12_copyOfRange_1 : cJ12_copyOfRange.data.toList.drop 24 = dktJ12_copyOfRange_1 := dk_seg dksJ12_copyOfRange_0 24 rfl rfl
theorem dJ12_copyOfRange_0 : decode cJ12_copyOfRange 0 = .ok (.iload_n 1, 1) := dk_27 (dk_at dksJ12_copyOfRange_0 0 rfl rfl)
theorem dJ12_copyOfRange_1 : decode cJ12_copyOfRange 1 = .ok (.ifCond .ne 9, 3) := dk_154 0 9 (dk_at dksJ12_copyOfRange_0 1 rfl rfl)
theorem dJ12_copyOfRange_4 : decode cJ12_copyOfRange 4 = .ok (.iload_n 2, 1) := dk_28 (dk_at dksJ12_copyOfRange_0 4 rfl rfl)
theorem dJ12_copyOfRange_5 : decode cJ12_copyOfRange 5 = .ok (.aload_n 0, 1) := dk_42 (dk_at dksJ12_copyOfRange_0 5 rfl rfl)
theorem dJ12_copyOfRange_6 : decode cJ12_copyOfRange 6 = .ok (.arraylength, 1) := dk_190 (dk_at dksJ12_copyOfRange_0 6 rfl rfl)
theorem dJ12_copyOfRange_7 : decode cJ12_copyOfRange 7 = .ok (.if_icmp .eq 10, 3) := dk_159 0 10 (dk_at dksJ12_copyOfRange_0 7 rfl rfl)
theorem dJ12_copyOfRange_10 : decode cJ12_copyOfRange 10 = .ok (.aload_n 0, 1) := dk_42 (dk_at dksJ12_copyOfRange_0 10 rfl rfl)
theorem dJ12_copyOfRange_11 : decode cJ12_copyOfRange 11 = .ok (.iload_n 1, 1) := dk_27 (dk_at dksJ12_copyOfRange_0 11 rfl rfl)
theorem dJ12_copyOfRange_12 : decode cJ12_copyOfRange 12 = .ok (.iload_n 2, 1) := dk_28 (dk_at dksJ12_copyOfRange_0 12 rfl rfl)
theorem dJ12_copyOfRange_13 : decode cJ12_copyOfRange 13 = .ok (.invokestatic 339, 3) := dk_184 1 83 (dk_at dksJ12_copyOfRange_0 13 rfl rfl)
theorem dJ12_copyOfRange_16 : decode cJ12_copyOfRange 16 = .ok (.areturn, 1) := dk_176 (dk_at dksJ12_copyOfRange_0 16 rfl rfl)
theorem dJ12_copyOfRange_17 : decode cJ12_copyOfRange 17 = .ok (.aload_n 0, 1) := dk_42 (dk_at dksJ12_copyOfRange_0 17 rfl rfl)
theorem dJ12_copyOfRange_18 : decode cJ12_copyOfRange 18 = .ok (.invokevirtual 310, 3) := dk_182 1 54 (dk_at dksJ12_copyOfRange_0 18 rfl rfl)
theorem dJ12_copyOfRange_21 : decode cJ12_copyOfRange 21 = .ok (.checkcast 311, 3) := dk_192 1 55 (dk_at dksJ12_copyOfRange_0 21 rfl rfl)
theorem dJ12_copyOfRange_24 : decode cJ12_copyOfRange 24 = .ok (.areturn, 1) := dk_176 (dk_at dksJ12_copyOfRange_1 0 rfl rfl)
abbrev cJ12_copyOfRangeByte : ByteArray := prog_18_method_133_code
def yJ12_copyOfRangeByte : MethodName := ⟨RJ12, "copyOfRangeByte", "([BII)[B"⟩
def dkwJ12_copyOfRangeByte_1 : List UInt8 := [184, 1, 48, 184, 0, 150, 25, 4, 176]
abbrev dktJ12_copyOfRangeByte_1 : List UInt8 := dkwJ12_copyOfRangeByte_1 ++ []
def dkwJ12_copyOfRangeByte_0 : List UInt8 := [27, 28, 184, 1, 87, 28, 27, 100, 62, 29, 188, 8, 58, 4, 42, 27, 25, 4, 3, 42, 190, 27, 100, 29]
abbrev dktJ12_copyOfRangeByte_0 : List UInt8 := dkwJ12_copyOfRangeByte_0 ++ dktJ12_copyOfRangeByte_1
theorem dksJ12_copyOfRangeByte_0 : cJ12_copyOfRangeByte.data.toList.drop 0 = dktJ12_copyOfRangeByte_0 := by decide +kernel
theorem dksJ12_copyOfRangeByte_1 : cJ12_copyOfRangeByte.data.toList.drop 24 = dktJ12_copyOfRangeByte_1 := dk_seg dksJ12_copyOfRangeByte_0 24 rfl rfl
theorem dJ12_copyOfRangeByte_0 : decode cJ12_copyOfRangeByte 0 = .ok (.iload_n 1, 1) := dk_27 (dk_at dksJ12_copyOfRangeByte_0 0 rfl rfl)
theorem dJ12_copyOfRangeByte_1 : decode cJ12_copyOfRangeByte 1 = .ok (.iload_n 2, 1) := dk_28 (dk_at dksJ12_copyOfRangeByte_0 1 rfl rfl)
theorem dJ12_copyOfRangeByte_2 : decode cJ12_copyOfRangeByte 2 = .ok (.invokestatic 343, 3) := dk_184 1 87 (dk_at dksJ12_copyOfRangeByte_0 2 rfl rfl)
theorem dJ12_copyOfRangeByte_5 : decode cJ12_copyOfRangeByte 5 = .ok (.iload_n 2, 1) := dk_28 (dk_at dksJ12_copyOfRangeByte_0 5 rfl rfl)
theorem dJ12_copyOfRangeByte_6 : decode cJ12_copyOfRangeByte 6 = .ok (.iload_n 1, 1) := dk_27 (dk_at dksJ12_copyOfRangeByte_0 6 rfl rfl)
theorem dJ12_copyOfRangeByte_7 : decode cJ12_copyOfRangeByte 7 = .ok (.isub, 1) := dk_100 (dk_at dksJ12_copyOfRangeByte_0 7 rfl rfl)
theorem dJ12_copyOfRangeByte_8 : decode cJ12_copyOfRangeByte 8 = .ok (.istore_n 3, 1) := dk_62 (dk_at dksJ12_copyOfRangeByte_0 8 rfl rfl)
theorem dJ12_copyOfRangeByte_9 : decode cJ12_copyOfRangeByte 9 = .ok (.iload_n 3, 1) := dk_29 (dk_at dksJ12_copyOfRangeByte_0 9 rfl rfl)
theorem dJ12_copyOfRangeByte_10 : decode cJ12_copyOfRangeByte 10 = .ok (.newarray .byte, 2) := dk_188_8 (dk_at dksJ12_copyOfRangeByte_0 10 rfl rfl)
theorem dJ12_copyOfRangeByte_12 : decode cJ12_copyOfRangeByte 12 = .ok (.astore 4, 2) := dk_58 4 (dk_at dksJ12_copyOfRangeByte_0 12 rfl rfl)
theorem dJ12_copyOfRangeByte_14 : decode cJ12_copyOfRangeByte 14 = .ok (.aload_n 0, 1) := dk_42 (dk_at dksJ12_copyOfRangeByte_0 14 rfl rfl)
theorem dJ12_copyOfRangeByte_15 : decode cJ12_copyOfRangeByte 15 = .ok (.iload_n 1, 1) := dk_27 (dk_at dksJ12_copyOfRangeByte_0 15 rfl rfl)
theorem dJ12_copyOfRangeByte_16 : decode cJ12_copyOfRangeByte 16 = .ok (.aload 4, 2) := dk_25 4 (dk_at dksJ12_copyOfRangeByte_0 16 rfl rfl)
theorem dJ12_copyOfRangeByte_18 : decode cJ12_copyOfRangeByte 18 = .ok (.iconst 0, 1) := dk_3 (dk_at dksJ12_copyOfRangeByte_0 18 rfl rfl)
theorem dJ12_copyOfRangeByte_19 : decode cJ12_copyOfRangeByte 19 = .ok (.aload_n 0, 1) := dk_42 (dk_at dksJ12_copyOfRangeByte_0 19 rfl rfl)
theorem dJ12_copyOfRangeByte_20 : decode cJ12_copyOfRangeByte 20 = .ok (.arraylength, 1) := dk_190 (dk_at dksJ12_copyOfRangeByte_0 20 rfl rfl)
theorem dJ12_copyOfRangeByte_21 : decode cJ12_copyOfRangeByte 21 = .ok (.iload_n 1, 1) := dk_27 (dk_at dksJ12_copyOfRangeByte_0 21 rfl rfl)
theorem dJ12_copyOfRangeByte_22 : decode cJ12_copyOfRangeByte 22 = .ok (.isub, 1) := dk_100 (dk_at dksJ12_copyOfRangeByte_0 22 rfl rfl)
theorem dJ12_copyOfRangeByte_23 : decode cJ12_copyOfRangeByte 23 = .ok (.iload_n 3, 1) := dk_29 (dk_at dksJ12_copyOfRangeByte_0 23 rfl rfl)
theorem dJ12_copyOfRangeByte_24 : decode cJ12_copyOfRangeByte 24 = .ok (.invokestatic 304, 3) := dk_184 1 48 (dk_at dksJ12_copyOfRangeByte_1 0 rfl rfl)
theorem dJ12_copyOfRangeByte_27 : decode cJ12_copyOfRangeByte 27 = .ok (.invokestatic 150, 3) := dk_184 0 150 (dk_at dksJ12_copyOfRangeByte_1 3 rfl rfl)
theorem dJ12_copyOfRangeByte_30 : decode cJ12_copyOfRangeByte 30 = .ok (.aload 4, 2) := dk_25 4 (dk_at dksJ12_copyOfRangeByte_1 6 rfl rfl)
theorem dJ12_copyOfRangeByte_32 : decode cJ12_copyOfRangeByte 32 = .ok (.areturn, 1) := dk_176 (dk_at dksJ12_copyOfRangeByte_1 8 rfl rfl)
abbrev cJ12_checkLength : ByteArray := prog_18_method_131_code
def yJ12_checkLength : MethodName := ⟨RJ12, "checkLength", "(II)V"⟩
def dkwJ12_checkLength_1 : List UInt8 := [182, 0, 50, 27, 182, 0, 54, 182, 0, 61, 183, 0, 65, 191, 177]
abbrev dktJ12_checkLength_1 : List UInt8 := dkwJ12_checkLength_1 ++ []
def dkwJ12_checkLength_0 : List UInt8 := [27, 26, 162, 0, 35, 187, 0, 43, 89, 187, 0, 45, 89, 183, 0, 47, 26, 182, 0, 54, 19, 1, 81]
abbrev dktJ12_checkLength_0 : List UInt8 := dkwJ12_checkLength_0 ++ dktJ12_checkLength_1
theorem dksJ12_checkLength_0 : cJ12_checkLength.data.toList.drop 0 = dktJ12_checkLength_0 := by decide +kernel
theorem dksJ12_checkLength_1 : cJ12_checkLength.data.toList.drop 23 = dktJ12_checkLength_1 := dk_seg dksJ12_checkLength_0 23 rfl rfl
theorem dJ12_checkLength_0 : decode cJ12_checkLength 0 = .ok (.iload_n 1, 1) := dk_27 (dk_at dksJ12_checkLength_0 0 rfl rfl)
theorem dJ12_checkLength_1 : decode cJ12_checkLength 1 = .ok (.iload_n 0, 1) := dk_26 (dk_at dksJ12_checkLength_0 1 rfl rfl)
theorem dJ12_checkLength_2 : decode cJ12_checkLength 2 = .ok (.if_icmp .ge 35, 3) := dk_162 0 35 (dk_at dksJ12_checkLength_0 2 rfl rfl)
theorem dJ12_checkLength_5 : decode cJ12_checkLength 5 = .ok (.new 43, 3) := dk_187 0 43 (dk_at dksJ12_checkLength_0 5 rfl rfl)
theorem dJ12_checkLength_8 : decode cJ12_checkLength 8 = .ok (.dup, 1) := dk_89 (dk_at dksJ12_checkLength_0 8 rfl rfl)
theorem dJ12_checkLength_9 : decode cJ12_checkLength 9 = .ok (.new 45, 3) := dk_187 0 45 (dk_at dksJ12_checkLength_0 9 rfl rfl)
theorem dJ12_checkLength_12 : decode cJ12_checkLength 12 = .ok (.dup, 1) := dk_89 (dk_at dksJ12_checkLength_0 12 rfl rfl)
theorem dJ12_checkLength_13 : decode cJ12_checkLength 13 = .ok (.invokespecial 47, 3) := dk_183 0 47 (dk_at dksJ12_checkLength_0 13 rfl rfl)
theorem dJ12_checkLength_16 : decode cJ12_checkLength 16 = .ok (.iload_n 0, 1) := dk_26 (dk_at dksJ12_checkLength_0 16 rfl rfl)
theorem dJ12_checkLength_17 : decode cJ12_checkLength 17 = .ok (.invokevirtual 54, 3) := dk_182 0 54 (dk_at dksJ12_checkLength_0 17 rfl rfl)
theorem dJ12_checkLength_20 : decode cJ12_checkLength 20 = .ok (.ldc_w 337, 3) := dk_19 1 81 (dk_at dksJ12_checkLength_0 20 rfl rfl)
theorem dJ12_checkLength_23 : decode cJ12_checkLength 23 = .ok (.invokevirtual 50, 3) := dk_182 0 50 (dk_at dksJ12_checkLength_1 0 rfl rfl)
theorem dJ12_checkLength_26 : decode cJ12_checkLength 26 = .ok (.iload_n 1, 1) := dk_27 (dk_at dksJ12_checkLength_1 3 rfl rfl)
theorem dJ12_checkLength_27 : decode cJ12_checkLength 27 = .ok (.invokevirtual 54, 3) := dk_182 0 54 (dk_at dksJ12_checkLength_1 4 rfl rfl)
theorem dJ12_checkLength_30 : decode cJ12_checkLength 30 = .ok (.invokevirtual 61, 3) := dk_182 0 61 (dk_at dksJ12_checkLength_1 7 rfl rfl)
theorem dJ12_checkLength_33 : decode cJ12_checkLength 33 = .ok (.invokespecial 65, 3) := dk_183 0 65 (dk_at dksJ12_checkLength_1 10 rfl rfl)
theorem dJ12_checkLength_36 : decode cJ12_checkLength 36 = .ok (.athrow, 1) := dk_191 (dk_at dksJ12_checkLength_1 13 rfl rfl)
theorem dJ12_checkLength_37 : decode cJ12_checkLength 37 = .ok (.return_, 1) := dk_177 (dk_at dksJ12_checkLength_1 14 rfl rfl)
theorem q17 : (Jvm.Cond.initialized "java/util/Arrays") ∈ lw_all := lw_g (lw_at lw_m1 16 rfl) rfl
theorem q318 : (Jvm.Cond.static ({ cls := "java/util/Arrays", name := "copyOf", desc := "([BI)[B" } : Jvm.MethodName)) ∈ lw_all := lw_g (lw_at lw_m2 77 rfl) rfl
theorem q319 : (Jvm.Cond.code ({ cls := "java/util/Arrays", name := "copyOf", desc := "([BI)[B" } : Jvm.MethodName) prog_18_method_121_code (3 : Nat) (Option.some (Jvm.ClassFile.FieldType.array Jvm.ClassFile.FieldType.byte))) ∈ lw_all := lw_g (lw_at lw_m2 78 rfl) rfl
theorem q320 : (Jvm.Cond.methodLink "java/util/Arrays" (310 : Nat) ({ cls := "[B", name := "clone", desc := "()Ljava/lang/Object;" } : Jvm.MethodName)) ∈ lw_all := lw_g (lw_at lw_m2 79 rfl) rfl
theorem q326 : (Jvm.Cond.classLink "java/util/Arrays" (311 : Nat) "[B") ∈ lw_all := lw_g (lw_at lw_m2 85 rfl) rfl
theorem q327 : (Jvm.Cond.methodLink "java/util/Arrays" (304 : Nat) ({ cls := "java/lang/Math", name := "min", desc := "(II)I" } : Jvm.MethodName)) ∈ lw_all := lw_g (lw_at lw_m2 86 rfl) rfl
theorem q328 : (Jvm.Cond.methodLink "java/util/Arrays" (150 : Nat) ({ cls := "java/lang/System", name := "arraycopy", desc := "(Ljava/lang/Object;ILjava/lang/Object;II)V" } : Jvm.MethodName)) ∈ lw_all := lw_g (lw_at lw_m2 87 rfl) rfl
theorem q371 : (Jvm.Cond.static ({ cls := "java/util/Arrays", name := "copyOfRange", desc := "([BII)[B" } : Jvm.MethodName)) ∈ lw_all := lw_g (lw_at lw_m2 130 rfl) rfl
theorem q372 : (Jvm.Cond.code ({ cls := "java/util/Arrays", name := "copyOfRange", desc := "([BII)[B" } : Jvm.MethodName) prog_18_method_132_code (3 : Nat) (Option.some (Jvm.ClassFile.FieldType.array Jvm.ClassFile.FieldType.byte))) ∈ lw_all := lw_g (lw_at lw_m2 131 rfl) rfl
theorem q373 : (Jvm.Cond.methodLink "java/util/Arrays" (339 : Nat) ({ cls := "java/util/Arrays", name := "copyOfRangeByte", desc := "([BII)[B" } : Jvm.MethodName)) ∈ lw_all := lw_g (lw_at lw_m2 132 rfl) rfl
theorem q374 : (Jvm.Cond.static ({ cls := "java/util/Arrays", name := "copyOfRangeByte", desc := "([BII)[B" } : Jvm.MethodName)) ∈ lw_all := lw_g (lw_at lw_m2 133 rfl) rfl
theorem q375 : (Jvm.Cond.code ({ cls := "java/util/Arrays", name := "copyOfRangeByte", desc := "([BII)[B" } : Jvm.MethodName) prog_18_method_133_code (5 : Nat) (Option.some (Jvm.ClassFile.FieldType.array Jvm.ClassFile.FieldType.byte))) ∈ lw_all := lw_g (lw_at lw_m2 134 rfl) rfl
theorem q376 : (Jvm.Cond.methodLink "java/util/Arrays" (343 : Nat) ({ cls := "java/util/Arrays", name := "checkLength", desc := "(II)V" } : Jvm.MethodName)) ∈ lw_all := lw_g (lw_at lw_m2 135 rfl) rfl
theorem q377 : (Jvm.Cond.static ({ cls := "java/util/Arrays", name := "checkLength", desc := "(II)V" } : Jvm.MethodName)) ∈ lw_all := lw_g (lw_at lw_m2 136 rfl) rfl
theorem q378 : (Jvm.Cond.code ({ cls := "java/util/Arrays", name := "checkLength", desc := "(II)V" } : Jvm.MethodName) prog_18_method_131_code (2 : Nat) (Option.none : Option Jvm.ClassFile.FieldType)) ∈ lw_all := lw_g (lw_at lw_m2 137 rfl) rfl
/-! PdfParityDesk -/
set_option maxRecDepth 100000
def RX0 : String := "PdfParityDesk"
def TX0 : u_T := fun k => match k with
  | 0 => ("PdfParityDesk", "word", "[C", true)
  | 1 => ("PdfParityDesk", "size", "I", false)
  | _ => ("PdfParityDesk", "told", "Ljava/lang/String;", false)
def tyX0 : Nat → FieldType := fun k => match k with
  | 0 => .array .char
  | 1 => .int
  | _ => .object "java/lang/String"
abbrev wsX00 : List Cond := u_ws RX0 TX0 3
theorem nmX0 : ∀ a, a < 3 → ∀ b, b < 3 → a ≠ b → (TX0 a).2.1 ≠ (TX0 b).2.1 := by decide +kernel
theorem tyX0_ok : ∀ k, k < 3 → parseFieldDescriptor (TX0 k).2.2.1 = some (tyX0 k) := by decide +kernel
abbrev cX0_init : ByteArray := prog_2_method_1_code
def yX0_init : MethodName := ⟨RX0, "<init>", "()V"⟩
def dkwX0_init_0 : List UInt8 := [42, 183, 0, 1, 42, 16, 64, 188, 5, 181, 0, 7, 42, 18, 13, 181, 0, 15, 177]
abbrev dktX0_init_0 : List UInt8 := dkwX0_init_0 ++ []
theorem dksX0_init_0 : cX0_init.data.toList.drop 0 = dktX0_init_0 := by decide +kernel
theorem dX0_init_0 : decode cX0_init 0 = .ok (.aload_n 0, 1) := dk_42 (dk_at dksX0_init_0 0 rfl rfl)
theorem dX0_init_1 : decode cX0_init 1 = .ok (.invokespecial 1, 3) := dk_183 0 1 (dk_at dksX0_init_0 1 rfl rfl)
theorem dX0_init_4 : decode cX0_init 4 = .ok (.aload_n 0, 1) := dk_42 (dk_at dksX0_init_0 4 rfl rfl)
theorem dX0_init_5 : decode cX0_init 5 = .ok (.bipush 64, 2) := dk_16 64 (dk_at dksX0_init_0 5 rfl rfl)
theorem dX0_init_7 : decode cX0_init 7 = .ok (.newarray .char, 2) := dk_188_5 (dk_at dksX0_init_0 7 rfl rfl)
theorem dX0_init_9 : decode cX0_init 9 = .ok (.putfield 7, 3) := dk_181 0 7 (dk_at dksX0_init_0 9 rfl rfl)
theorem dX0_init_12 : decode cX0_init 12 = .ok (.aload_n 0, 1) := dk_42 (dk_at dksX0_init_0 12 rfl rfl)
theorem dX0_init_13 : decode cX0_init 13 = .ok (.ldc 13, 2) := dk_18 13 (dk_at dksX0_init_0 13 rfl rfl)
theorem dX0_init_15 : decode cX0_init 15 = .ok (.putfield 15, 3) := dk_181 0 15 (dk_at dksX0_init_0 15 rfl rfl)
theorem dX0_init_18 : decode cX0_init 18 = .ok (.return_, 1) := dk_177 (dk_at dksX0_init_0 18 rfl rfl)
abbrev cX0_put : ByteArray := prog_2_method_2_code
def yX0_put : MethodName := ⟨RX0, "put", "(II)Z"⟩
def dkwX0_put_2 : List UInt8 := [96, 181, 0, 19, 28, 18, 23, 126, 17, 3, 161, 112, 146, 85, 4, 172]
abbrev dktX0_put_2 : List UInt8 := dkwX0_put_2 ++ []
def dkwX0_put_1 : List UInt8 := [181, 0, 19, 27, 18, 23, 126, 17, 3, 161, 112, 146, 85, 42, 180, 0, 7, 42, 89, 180, 0, 19, 90, 4]
abbrev dktX0_put_1 : List UInt8 := dkwX0_put_1 ++ dktX0_put_2
def dkwX0_put_0 : List UInt8 := [42, 180, 0, 19, 16, 62, 164, 0, 5, 3, 172, 42, 180, 0, 7, 42, 89, 180, 0, 19, 90, 4, 96]
abbrev dktX0_put_0 : List UInt8 := dkwX0_put_0 ++ dktX0_put_1
theorem dksX0_put_0 : cX0_put.data.toList.drop 0 = dktX0_put_0 := by decide +kernel
theorem dksX0_put_1 : cX0_put.data.toList.drop 23 = dktX0_put_1 := dk_seg dksX0_put_0 23 rfl rfl
theorem dksX0_put_2 : cX0_put.data.toList.drop 47 = dktX0_put_2 := dk_seg dksX0_put_1 24 rfl rfl
theorem dX0_put_0 : decode cX0_put 0 = .ok (.aload_n 0, 1) := dk_42 (dk_at dksX0_put_0 0 rfl rfl)
theorem dX0_put_1 : decode cX0_put 1 = .ok (.getfield 19, 3) := dk_180 0 19 (dk_at dksX0_put_0 1 rfl rfl)
theorem dX0_put_4 : decode cX0_put 4 = .ok (.bipush 62, 2) := dk_16 62 (dk_at dksX0_put_0 4 rfl rfl)
theorem dX0_put_6 : decode cX0_put 6 = .ok (.if_icmp .le 5, 3) := dk_164 0 5 (dk_at dksX0_put_0 6 rfl rfl)
theorem dX0_put_9 : decode cX0_put 9 = .ok (.iconst 0, 1) := dk_3 (dk_at dksX0_put_0 9 rfl rfl)
theorem dX0_put_10 : decode cX0_put 10 = .ok (.ireturn, 1) := dk_172 (dk_at dksX0_put_0 10 rfl rfl)
theorem dX0_put_11 : decode cX0_put 11 = .ok (.aload_n 0, 1) := dk_42 (dk_at dksX0_put_0 11 rfl rfl)
theorem dX0_put_12 : decode cX0_put 12 = .ok (.getfield 7, 3) := dk_180 0 7 (dk_at dksX0_put_0 12 rfl rfl)
theorem dX0_put_15 : decode cX0_put 15 = .ok (.aload_n 0, 1) := dk_42 (dk_at dksX0_put_0 15 rfl rfl)
theorem dX0_put_16 : decode cX0_put 16 = .ok (.dup, 1) := dk_89 (dk_at dksX0_put_0 16 rfl rfl)
theorem dX0_put_17 : decode cX0_put 17 = .ok (.getfield 19, 3) := dk_180 0 19 (dk_at dksX0_put_0 17 rfl rfl)
theorem dX0_put_20 : decode cX0_put 20 = .ok (.dup_x1, 1) := dk_90 (dk_at dksX0_put_0 20 rfl rfl)
theorem dX0_put_21 : decode cX0_put 21 = .ok (.iconst 1, 1) := dk_4 (dk_at dksX0_put_0 21 rfl rfl)
theorem dX0_put_22 : decode cX0_put 22 = .ok (.iadd, 1) := dk_96 (dk_at dksX0_put_0 22 rfl rfl)
theorem dX0_put_23 : decode cX0_put 23 = .ok (.putfield 19, 3) := dk_181 0 19 (dk_at dksX0_put_1 0 rfl rfl)
theorem dX0_put_26 : decode cX0_put 26 = .ok (.iload_n 1, 1) := dk_27 (dk_at dksX0_put_1 3 rfl rfl)
theorem dX0_put_27 : decode cX0_put 27 = .ok (.ldc 23, 2) := dk_18 23 (dk_at dksX0_put_1 4 rfl rfl)
theorem dX0_put_29 : decode cX0_put 29 = .ok (.iand, 1) := dk_126 (dk_at dksX0_put_1 6 rfl rfl)
theorem dX0_put_30 : decode cX0_put 30 = .ok (.sipush 929, 3) := dk_17 3 161 (dk_at dksX0_put_1 7 rfl rfl)
theorem dX0_put_33 : decode cX0_put 33 = .ok (.irem, 1) := dk_112 (dk_at dksX0_put_1 10 rfl rfl)
theorem dX0_put_34 : decode cX0_put 34 = .ok (.i2c, 1) := dk_146 (dk_at dksX0_put_1 11 rfl rfl)
theorem dX0_put_35 : decode cX0_put 35 = .ok (.castore, 1) := dk_85 (dk_at dksX0_put_1 12 rfl rfl)
theorem dX0_put_36 : decode cX0_put 36 = .ok (.aload_n 0, 1) := dk_42 (dk_at dksX0_put_1 13 rfl rfl)
theorem dX0_put_37 : decode cX0_put 37 = .ok (.getfield 7, 3) := dk_180 0 7 (dk_at dksX0_put_1 14 rfl rfl)
theorem dX0_put_40 : decode cX0_put 40 = .ok (.aload_n 0, 1) := dk_42 (dk_at dksX0_put_1 17 rfl rfl)
theorem dX0_put_41 : decode cX0_put 41 = .ok (.dup, 1) := dk_89 (dk_at dksX0_put_1 18 rfl rfl)
theorem dX0_put_42 : decode cX0_put 42 = .ok (.getfield 19, 3) := dk_180 0 19 (dk_at dksX0_put_1 19 rfl rfl)
theorem dX0_put_45 : decode cX0_put 45 = .ok (.dup_x1, 1) := dk_90 (dk_at dksX0_put_1 22 rfl rfl)
theorem dX0_put_46 : decode cX0_put 46 = .ok (.iconst 1, 1) := dk_4 (dk_at dksX0_put_1 23 rfl rfl)
theorem dX0_put_47 : decode cX0_put 47 = .ok (.iadd, 1) := dk_96 (dk_at dksX0_put_2 0 rfl rfl)
theorem dX0_put_48 : decode cX0_put 48 = .ok (.putfield 19, 3) := dk_181 0 19 (dk_at dksX0_put_2 1 rfl rfl)
theorem dX0_put_51 : decode cX0_put 51 = .ok (.iload_n 2, 1) := dk_28 (dk_at dksX0_put_2 4 rfl rfl)
theorem dX0_put_52 : decode cX0_put 52 = .ok (.ldc 23, 2) := dk_18 23 (dk_at dksX0_put_2 5 rfl rfl)
theorem dX0_put_54 : decode cX0_put 54 = .ok (.iand, 1) := dk_126 (dk_at dksX0_put_2 7 rfl rfl)
theorem dX0_put_55 : decode cX0_put 55 = .ok (.sipush 929, 3) := dk_17 3 161 (dk_at dksX0_put_2 8 rfl rfl)
theorem dX0_put_58 : decode cX0_put 58 = .ok (.irem, 1) := dk_112 (dk_at dksX0_put_2 11 rfl rfl)
theorem dX0_put_59 : decode cX0_put 59 = .ok (.i2c, 1) := dk_146 (dk_at dksX0_put_2 12 rfl rfl)
theorem dX0_put_60 : decode cX0_put 60 = .ok (.castore, 1) := dk_85 (dk_at dksX0_put_2 13 rfl rfl)
theorem dX0_put_61 : decode cX0_put 61 = .ok (.iconst 1, 1) := dk_4 (dk_at dksX0_put_2 14 rfl rfl)
theorem dX0_put_62 : decode cX0_put 62 = .ok (.ireturn, 1) := dk_172 (dk_at dksX0_put_2 15 rfl rfl)
abbrev cX0_drop : ByteArray := prog_2_method_3_code
def yX0_drop : MethodName := ⟨RX0, "drop", "(I)V"⟩
def dkwX0_drop_0 : List UInt8 := [42, 27, 18, 23, 126, 42, 180, 0, 19, 4, 96, 112, 181, 0, 19, 177]
abbrev dktX0_drop_0 : List UInt8 := dkwX0_drop_0 ++ []
theorem dksX0_drop_0 : cX0_drop.data.toList.drop 0 = dktX0_drop_0 := by decide +kernel
theorem dX0_drop_0 : decode cX0_drop 0 = .ok (.aload_n 0, 1) := dk_42 (dk_at dksX0_drop_0 0 rfl rfl)
theorem dX0_drop_1 : decode cX0_drop 1 = .ok (.iload_n 1, 1) := dk_27 (dk_at dksX0_drop_0 1 rfl rfl)
theorem dX0_drop_2 : decode cX0_drop 2 = .ok (.ldc 23, 2) := dk_18 23 (dk_at dksX0_drop_0 2 rfl rfl)
theorem dX0_drop_4 : decode cX0_drop 4 = .ok (.iand, 1) := dk_126 (dk_at dksX0_drop_0 4 rfl rfl)
theorem dX0_drop_5 : decode cX0_drop 5 = .ok (.aload_n 0, 1) := dk_42 (dk_at dksX0_drop_0 5 rfl rfl)
theorem dX0_drop_6 : decode cX0_drop 6 = .ok (.getfield 19, 3) := dk_180 0 19 (dk_at dksX0_drop_0 6 rfl rfl)
theorem dX0_drop_9 : decode cX0_drop 9 = .ok (.iconst 1, 1) := dk_4 (dk_at dksX0_drop_0 9 rfl rfl)
theorem dX0_drop_10 : decode cX0_drop 10 = .ok (.iadd, 1) := dk_96 (dk_at dksX0_drop_0 10 rfl rfl)
theorem dX0_drop_11 : decode cX0_drop 11 = .ok (.irem, 1) := dk_112 (dk_at dksX0_drop_0 11 rfl rfl)
theorem dX0_drop_12 : decode cX0_drop 12 = .ok (.putfield 19, 3) := dk_181 0 19 (dk_at dksX0_drop_0 12 rfl rfl)
theorem dX0_drop_15 : decode cX0_drop 15 = .ok (.return_, 1) := dk_177 (dk_at dksX0_drop_0 15 rfl rfl)
abbrev cX0_make : ByteArray := prog_2_method_4_code
def yX0_make : MethodName := ⟨RX0, "make", "(I)I"⟩
def dkwX0_make_1 : List UInt8 := [181, 0, 15, 42, 180, 0, 15, 182, 0, 35, 172]
abbrev dktX0_make_1 : List UInt8 := dkwX0_make_1 ++ []
def dkwX0_make_0 : List UInt8 := [42, 187, 0, 24, 89, 42, 180, 0, 7, 3, 42, 180, 0, 19, 183, 0, 26, 27, 16, 7, 126, 184, 0, 29]
abbrev dktX0_make_0 : List UInt8 := dkwX0_make_0 ++ dktX0_make_1
theorem dksX0_make_0 : cX0_make.data.toList.drop 0 = dktX0_make_0 := by decide +kernel
theorem dksX0_make_1 : cX0_make.data.toList.drop 24 = dktX0_make_1 := dk_seg dksX0_make_0 24 rfl rfl
theorem dX0_make_0 : decode cX0_make 0 = .ok (.aload_n 0, 1) := dk_42 (dk_at dksX0_make_0 0 rfl rfl)
theorem dX0_make_1 : decode cX0_make 1 = .ok (.new 24, 3) := dk_187 0 24 (dk_at dksX0_make_0 1 rfl rfl)
theorem dX0_make_4 : decode cX0_make 4 = .ok (.dup, 1) := dk_89 (dk_at dksX0_make_0 4 rfl rfl)
theorem dX0_make_5 : decode cX0_make 5 = .ok (.aload_n 0, 1) := dk_42 (dk_at dksX0_make_0 5 rfl rfl)
theorem dX0_make_6 : decode cX0_make 6 = .ok (.getfield 7, 3) := dk_180 0 7 (dk_at dksX0_make_0 6 rfl rfl)
theorem dX0_make_9 : decode cX0_make 9 = .ok (.iconst 0, 1) := dk_3 (dk_at dksX0_make_0 9 rfl rfl)
theorem dX0_make_10 : decode cX0_make 10 = .ok (.aload_n 0, 1) := dk_42 (dk_at dksX0_make_0 10 rfl rfl)
theorem dX0_make_11 : decode cX0_make 11 = .ok (.getfield 19, 3) := dk_180 0 19 (dk_at dksX0_make_0 11 rfl rfl)
theorem dX0_make_14 : decode cX0_make 14 = .ok (.invokespecial 26, 3) := dk_183 0 26 (dk_at dksX0_make_0 14 rfl rfl)
theorem dX0_make_17 : decode cX0_make 17 = .ok (.iload_n 1, 1) := dk_27 (dk_at dksX0_make_0 17 rfl rfl)
theorem dX0_make_18 : decode cX0_make 18 = .ok (.bipush 7, 2) := dk_16 7 (dk_at dksX0_make_0 18 rfl rfl)
theorem dX0_make_20 : decode cX0_make 20 = .ok (.iand, 1) := dk_126 (dk_at dksX0_make_0 20 rfl rfl)
theorem dX0_make_21 : decode cX0_make 21 = .ok (.invokestatic 29, 3) := dk_184 0 29 (dk_at dksX0_make_0 21 rfl rfl)
theorem dX0_make_24 : decode cX0_make 24 = .ok (.putfield 15, 3) := dk_181 0 15 (dk_at dksX0_make_1 0 rfl rfl)
theorem dX0_make_27 : decode cX0_make 27 = .ok (.aload_n 0, 1) := dk_42 (dk_at dksX0_make_1 3 rfl rfl)
theorem dX0_make_28 : decode cX0_make 28 = .ok (.getfield 15, 3) := dk_180 0 15 (dk_at dksX0_make_1 4 rfl rfl)
theorem dX0_make_31 : decode cX0_make 31 = .ok (.invokevirtual 35, 3) := dk_182 0 35 (dk_at dksX0_make_1 7 rfl rfl)
theorem dX0_make_34 : decode cX0_make 34 = .ok (.ireturn, 1) := dk_172 (dk_at dksX0_make_1 10 rfl rfl)
abbrev cX0_told : ByteArray := prog_2_method_5_code
def yX0_told : MethodName := ⟨RX0, "told", "(I)I"⟩
def dkwX0_told_1 : List UInt8 := [180, 0, 15, 182, 0, 35, 112, 182, 0, 39, 172]
abbrev dktX0_told_1 : List UInt8 := dkwX0_told_1 ++ []
def dkwX0_told_0 : List UInt8 := [42, 180, 0, 15, 182, 0, 35, 154, 0, 7, 2, 167, 0, 22, 42, 180, 0, 15, 27, 18, 23, 126, 42]
abbrev dktX0_told_0 : List UInt8 := dkwX0_told_0 ++ dktX0_told_1
theorem dksX0_told_0 : cX0_told.data.toList.drop 0 = dktX0_told_0 := by decide +kernel
theorem dksX0_told_1 : cX0_told.data.toList.drop 23 = dktX0_told_1 := dk_seg dksX0_told_0 23 rfl rfl
theorem dX0_told_0 : decode cX0_told 0 = .ok (.aload_n 0, 1) := dk_42 (dk_at dksX0_told_0 0 rfl rfl)
theorem dX0_told_1 : decode cX0_told 1 = .ok (.getfield 15, 3) := dk_180 0 15 (dk_at dksX0_told_0 1 rfl rfl)
theorem dX0_told_4 : decode cX0_told 4 = .ok (.invokevirtual 35, 3) := dk_182 0 35 (dk_at dksX0_told_0 4 rfl rfl)
theorem dX0_told_7 : decode cX0_told 7 = .ok (.ifCond .ne 7, 3) := dk_154 0 7 (dk_at dksX0_told_0 7 rfl rfl)
theorem dX0_told_10 : decode cX0_told 10 = .ok (.iconst (-1), 1) := dk_2 (dk_at dksX0_told_0 10 rfl rfl)
theorem dX0_told_11 : decode cX0_told 11 = .ok (.goto 22, 3) := dk_167 0 22 (dk_at dksX0_told_0 11 rfl rfl)
theorem dX0_told_14 : decode cX0_told 14 = .ok (.aload_n 0, 1) := dk_42 (dk_at dksX0_told_0 14 rfl rfl)
theorem dX0_told_15 : decode cX0_told 15 = .ok (.getfield 15, 3) := dk_180 0 15 (dk_at dksX0_told_0 15 rfl rfl)
theorem dX0_told_18 : decode cX0_told 18 = .ok (.iload_n 1, 1) := dk_27 (dk_at dksX0_told_0 18 rfl rfl)
theorem dX0_told_19 : decode cX0_told 19 = .ok (.ldc 23, 2) := dk_18 23 (dk_at dksX0_told_0 19 rfl rfl)
theorem dX0_told_21 : decode cX0_told 21 = .ok (.iand, 1) := dk_126 (dk_at dksX0_told_0 21 rfl rfl)
theorem dX0_told_22 : decode cX0_told 22 = .ok (.aload_n 0, 1) := dk_42 (dk_at dksX0_told_0 22 rfl rfl)
theorem dX0_told_23 : decode cX0_told 23 = .ok (.getfield 15, 3) := dk_180 0 15 (dk_at dksX0_told_1 0 rfl rfl)
theorem dX0_told_26 : decode cX0_told 26 = .ok (.invokevirtual 35, 3) := dk_182 0 35 (dk_at dksX0_told_1 3 rfl rfl)
theorem dX0_told_29 : decode cX0_told 29 = .ok (.irem, 1) := dk_112 (dk_at dksX0_told_1 6 rfl rfl)
theorem dX0_told_30 : decode cX0_told 30 = .ok (.invokevirtual 39, 3) := dk_182 0 39 (dk_at dksX0_told_1 7 rfl rfl)
theorem dX0_told_33 : decode cX0_told 33 = .ok (.ireturn, 1) := dk_172 (dk_at dksX0_told_1 10 rfl rfl)
abbrev cX0_count : ByteArray := prog_2_method_6_code
def yX0_count : MethodName := ⟨RX0, "count", "(I)I"⟩
def dkwX0_count_0 : List UInt8 := [27, 16, 7, 126, 184, 0, 43, 172]
abbrev dktX0_count_0 : List UInt8 := dkwX0_count_0 ++ []
theorem dksX0_count_0 : cX0_count.data.toList.drop 0 = dktX0_count_0 := by decide +kernel
theorem dX0_count_0 : decode cX0_count 0 = .ok (.iload_n 1, 1) := dk_27 (dk_at dksX0_count_0 0 rfl rfl)
theorem dX0_count_1 : decode cX0_count 1 = .ok (.bipush 7, 2) := dk_16 7 (dk_at dksX0_count_0 1 rfl rfl)
theorem dX0_count_3 : decode cX0_count 3 = .ok (.iand, 1) := dk_126 (dk_at dksX0_count_0 3 rfl rfl)
theorem dX0_count_4 : decode cX0_count 4 = .ok (.invokestatic 43, 3) := dk_184 0 43 (dk_at dksX0_count_0 4 rfl rfl)
theorem dX0_count_7 : decode cX0_count 7 = .ok (.ireturn, 1) := dk_172 (dk_at dksX0_count_0 7 rfl rfl)
theorem q2 : (Jvm.Cond.initialized "PdfParityDesk") ∈ lw_all := lw_g (lw_at lw_m1 1 rfl) rfl
theorem q20 : (Jvm.Cond.instantiable "PdfParityDesk" (3 : Nat)) ∈ lw_all := lw_g (lw_at lw_m1 19 rfl) rfl
theorem q22 : (Jvm.Cond.instanceMethod ({ cls := "PdfParityDesk", name := "<init>", desc := "()V" } : Jvm.MethodName)) ∈ lw_all := lw_g (lw_at lw_m1 21 rfl) rfl
theorem q23 : (Jvm.Cond.code ({ cls := "PdfParityDesk", name := "<init>", desc := "()V" } : Jvm.MethodName) prog_2_method_1_code (1 : Nat) (Option.none : Option Jvm.ClassFile.FieldType)) ∈ lw_all := lw_g (lw_at lw_m1 22 rfl) rfl
theorem q24 : (Jvm.Cond.methodLink "PdfParityDesk" (1 : Nat) ({ cls := "java/lang/Object", name := "<init>", desc := "()V" } : Jvm.MethodName)) ∈ lw_all := lw_g (lw_at lw_m1 23 rfl) rfl
theorem q27 : (Jvm.Cond.stringRef "PdfParityDesk" (13 : Nat) "") ∈ lw_tbl := lw_at lw_m1 26 rfl
theorem q28 : (Jvm.Cond.fieldLink "PdfParityDesk" (7 : Nat) "PdfParityDesk" "word" "[C") ∈ lw_all := lw_g (lw_at lw_m1 27 rfl) rfl
theorem q29 : (Jvm.Cond.fieldLink "PdfParityDesk" (19 : Nat) "PdfParityDesk" "size" "I") ∈ lw_all := lw_g (lw_at lw_m1 28 rfl) rfl
theorem q30 : (Jvm.Cond.fieldLink "PdfParityDesk" (15 : Nat) "PdfParityDesk" "told" "Ljava/lang/String;") ∈ lw_all := lw_g (lw_at lw_m1 29 rfl) rfl
theorem q31 : (Jvm.Cond.laysFinal "PdfParityDesk" "PdfParityDesk" "word" "[C") ∈ lw_all := lw_g (lw_at lw_m1 30 rfl) rfl
theorem q32 : (Jvm.Cond.soleField "PdfParityDesk" "word") ∈ lw_all := lw_g (lw_at lw_m1 31 rfl) rfl
theorem q33 : (Jvm.Cond.lays "PdfParityDesk" "PdfParityDesk" "size" "I") ∈ lw_all := lw_g (lw_at lw_m1 32 rfl) rfl
theorem q34 : (Jvm.Cond.soleField "PdfParityDesk" "size") ∈ lw_all := lw_g (lw_at lw_m1 33 rfl) rfl
theorem q35 : (Jvm.Cond.lays "PdfParityDesk" "PdfParityDesk" "told" "Ljava/lang/String;") ∈ lw_all := lw_g (lw_at lw_m1 34 rfl) rfl
theorem q36 : (Jvm.Cond.soleField "PdfParityDesk" "told") ∈ lw_all := lw_g (lw_at lw_m1 35 rfl) rfl
theorem q37 : (Jvm.Cond.superclass "PdfParityDesk" "java/lang/Object") ∈ lw_all := lw_g (lw_at lw_m1 36 rfl) rfl
theorem q41 : (Jvm.Cond.instanceMethod ({ cls := "PdfParityDesk", name := "put", desc := "(II)Z" } : Jvm.MethodName)) ∈ lw_all := lw_g (lw_at lw_m1 40 rfl) rfl
theorem q42 : (Jvm.Cond.selects "PdfParityDesk" ({ cls := "PdfParityDesk", name := "put", desc := "(II)Z" } : Jvm.MethodName) ({ cls := "PdfParityDesk", name := "put", desc := "(II)Z" } : Jvm.MethodName)) ∈ lw_all := lw_g (lw_at lw_m1 41 rfl) rfl
theorem q43 : (Jvm.Cond.code ({ cls := "PdfParityDesk", name := "put", desc := "(II)Z" } : Jvm.MethodName) prog_2_method_2_code (3 : Nat) (Option.some Jvm.ClassFile.FieldType.boolean)) ∈ lw_all := lw_g (lw_at lw_m1 42 rfl) rfl
theorem q44 : (Jvm.Cond.constant "PdfParityDesk" (23 : Nat) (2147483647 : Int32)) ∈ lw_all := lw_g (lw_at lw_m1 43 rfl) rfl
theorem q46 : (Jvm.Cond.instanceMethod ({ cls := "PdfParityDesk", name := "drop", desc := "(I)V" } : Jvm.MethodName)) ∈ lw_all := lw_g (lw_at lw_m1 45 rfl) rfl
theorem q47 : (Jvm.Cond.selects "PdfParityDesk" ({ cls := "PdfParityDesk", name := "drop", desc := "(I)V" } : Jvm.MethodName) ({ cls := "PdfParityDesk", name := "drop", desc := "(I)V" } : Jvm.MethodName)) ∈ lw_all := lw_g (lw_at lw_m1 46 rfl) rfl
theorem q48 : (Jvm.Cond.code ({ cls := "PdfParityDesk", name := "drop", desc := "(I)V" } : Jvm.MethodName) prog_2_method_3_code (2 : Nat) (Option.none : Option Jvm.ClassFile.FieldType)) ∈ lw_all := lw_g (lw_at lw_m1 47 rfl) rfl
theorem q50 : (Jvm.Cond.instanceMethod ({ cls := "PdfParityDesk", name := "make", desc := "(I)I" } : Jvm.MethodName)) ∈ lw_all := lw_g (lw_at lw_m1 49 rfl) rfl
theorem q51 : (Jvm.Cond.selects "PdfParityDesk" ({ cls := "PdfParityDesk", name := "make", desc := "(I)I" } : Jvm.MethodName) ({ cls := "PdfParityDesk", name := "make", desc := "(I)I" } : Jvm.MethodName)) ∈ lw_all := lw_g (lw_at lw_m1 50 rfl) rfl
theorem q52 : (Jvm.Cond.code ({ cls := "PdfParityDesk", name := "make", desc := "(I)I" } : Jvm.MethodName) prog_2_method_4_code (2 : Nat) (Option.some Jvm.ClassFile.FieldType.int)) ∈ lw_all := lw_g (lw_at lw_m1 51 rfl) rfl
theorem q53 : (Jvm.Cond.classLink "PdfParityDesk" (24 : Nat) "java/lang/String") ∈ lw_all := lw_g (lw_at lw_m1 52 rfl) rfl
theorem q55 : (Jvm.Cond.methodLink "PdfParityDesk" (26 : Nat) ({ cls := "java/lang/String", name := "<init>", desc := "([CII)V" } : Jvm.MethodName)) ∈ lw_all := lw_g (lw_at lw_m1 54 rfl) rfl
theorem q129 : (Jvm.Cond.methodLink "PdfParityDesk" (29 : Nat) ({ cls := "PDF417ErrorCorrection", name := "generateErrorCorrection", desc := "(Ljava/lang/CharSequence;I)Ljava/lang/String;" } : Jvm.MethodName)) ∈ lw_all := lw_g (lw_at lw_m1 128 rfl) rfl
theorem q383 : (Jvm.Cond.methodLink "PdfParityDesk" (35 : Nat) ({ cls := "java/lang/String", name := "length", desc := "()I" } : Jvm.MethodName)) ∈ lw_all := lw_g (lw_at lw_m2 142 rfl) rfl
theorem q385 : (Jvm.Cond.instanceMethod ({ cls := "PdfParityDesk", name := "told", desc := "(I)I" } : Jvm.MethodName)) ∈ lw_all := lw_g (lw_at lw_m2 144 rfl) rfl
theorem q386 : (Jvm.Cond.selects "PdfParityDesk" ({ cls := "PdfParityDesk", name := "told", desc := "(I)I" } : Jvm.MethodName) ({ cls := "PdfParityDesk", name := "told", desc := "(I)I" } : Jvm.MethodName)) ∈ lw_all := lw_g (lw_at lw_m2 145 rfl) rfl
theorem q387 : (Jvm.Cond.code ({ cls := "PdfParityDesk", name := "told", desc := "(I)I" } : Jvm.MethodName) prog_2_method_5_code (2 : Nat) (Option.some Jvm.ClassFile.FieldType.int)) ∈ lw_all := lw_g (lw_at lw_m2 146 rfl) rfl
theorem q388 : (Jvm.Cond.methodLink "PdfParityDesk" (39 : Nat) ({ cls := "java/lang/String", name := "charAt", desc := "(I)C" } : Jvm.MethodName)) ∈ lw_all := lw_g (lw_at lw_m2 147 rfl) rfl
theorem q390 : (Jvm.Cond.instanceMethod ({ cls := "PdfParityDesk", name := "count", desc := "(I)I" } : Jvm.MethodName)) ∈ lw_all := lw_g (lw_at lw_m2 149 rfl) rfl
theorem q391 : (Jvm.Cond.selects "PdfParityDesk" ({ cls := "PdfParityDesk", name := "count", desc := "(I)I" } : Jvm.MethodName) ({ cls := "PdfParityDesk", name := "count", desc := "(I)I" } : Jvm.MethodName)) ∈ lw_all := lw_g (lw_at lw_m2 150 rfl) rfl
theorem q392 : (Jvm.Cond.code ({ cls := "PdfParityDesk", name := "count", desc := "(I)I" } : Jvm.MethodName) prog_2_method_6_code (2 : Nat) (Option.some Jvm.ClassFile.FieldType.int)) ∈ lw_all := lw_g (lw_at lw_m2 151 rfl) rfl
theorem q393 : (Jvm.Cond.methodLink "PdfParityDesk" (43 : Nat) ({ cls := "PDF417ErrorCorrection", name := "getErrorCorrectionCodewordCount", desc := "(I)I" } : Jvm.MethodName)) ∈ lw_all := lw_g (lw_at lw_m2 152 rfl) rfl
theorem in_X0 : ∀ w ∈ wsX00, w ∈ lw_all := lw_in wsX00 [31, 33, 35] (by decide +kernel) (by decide +kernel)
/-! PdfParityDeskModel -/
set_option maxRecDepth 100000
def RX1 : String := "PdfParityDeskModel"
def TX1 : u_T := fun k => match k with
  | 0 => ("PdfParityDeskModel", "words", "[I", true)
  | 1 => ("PdfParityDeskModel", "size", "I", false)
  | _ => ("PdfParityDeskModel", "told", "[I", false)
def tyX1 : Nat → FieldType := fun k => match k with
  | 0 => .array .int
  | 1 => .int
  | _ => .array .int
abbrev wsX10 : List Cond := u_ws RX1 TX1 3
theorem nmX1 : ∀ a, a < 3 → ∀ b, b < 3 → a ≠ b → (TX1 a).2.1 ≠ (TX1 b).2.1 := by decide +kernel
theorem tyX1_ok : ∀ k, k < 3 → parseFieldDescriptor (TX1 k).2.2.1 = some (tyX1 k) := by decide +kernel
abbrev cX1_init : ByteArray := prog_4_method_1_code
def yX1_init : MethodName := ⟨RX1, "<init>", "()V"⟩
def dkwX1_init_1 : List UInt8 := [177]
abbrev dktX1_init_1 : List UInt8 := dkwX1_init_1 ++ []
def dkwX1_init_0 : List UInt8 := [42, 183, 0, 1, 42, 16, 64, 188, 10, 181, 0, 7, 42, 3, 188, 10, 181, 0, 13, 42, 3, 181, 0, 16]
abbrev dktX1_init_0 : List UInt8 := dkwX1_init_0 ++ dktX1_init_1
theorem dksX1_init_0 : cX1_init.data.toList.drop 0 = dktX1_init_0 := by decide +kernel
theorem dksX1_init_1 : cX1_init.data.toList.drop 24 = dktX1_init_1 := dk_seg dksX1_init_0 24 rfl rfl
theorem dX1_init_0 : decode cX1_init 0 = .ok (.aload_n 0, 1) := dk_42 (dk_at dksX1_init_0 0 rfl rfl)
theorem dX1_init_1 : decode cX1_init 1 = .ok (.invokespecial 1, 3) := dk_183 0 1 (dk_at dksX1_init_0 1 rfl rfl)
theorem dX1_init_4 : decode cX1_init 4 = .ok (.aload_n 0, 1) := dk_42 (dk_at dksX1_init_0 4 rfl rfl)
theorem dX1_init_5 : decode cX1_init 5 = .ok (.bipush 64, 2) := dk_16 64 (dk_at dksX1_init_0 5 rfl rfl)
theorem dX1_init_7 : decode cX1_init 7 = .ok (.newarray .int, 2) := dk_188_10 (dk_at dksX1_init_0 7 rfl rfl)
theorem dX1_init_9 : decode cX1_init 9 = .ok (.putfield 7, 3) := dk_181 0 7 (dk_at dksX1_init_0 9 rfl rfl)
theorem dX1_init_12 : decode cX1_init 12 = .ok (.aload_n 0, 1) := dk_42 (dk_at dksX1_init_0 12 rfl rfl)
theorem dX1_init_13 : decode cX1_init 13 = .ok (.iconst 0, 1) := dk_3 (dk_at dksX1_init_0 13 rfl rfl)
theorem dX1_init_14 : decode cX1_init 14 = .ok (.newarray .int, 2) := dk_188_10 (dk_at dksX1_init_0 14 rfl rfl)
theorem dX1_init_16 : decode cX1_init 16 = .ok (.putfield 13, 3) := dk_181 0 13 (dk_at dksX1_init_0 16 rfl rfl)
theorem dX1_init_19 : decode cX1_init 19 = .ok (.aload_n 0, 1) := dk_42 (dk_at dksX1_init_0 19 rfl rfl)
theorem dX1_init_20 : decode cX1_init 20 = .ok (.iconst 0, 1) := dk_3 (dk_at dksX1_init_0 20 rfl rfl)
theorem dX1_init_21 : decode cX1_init 21 = .ok (.putfield 16, 3) := dk_181 0 16 (dk_at dksX1_init_0 21 rfl rfl)
theorem dX1_init_24 : decode cX1_init 24 = .ok (.return_, 1) := dk_177 (dk_at dksX1_init_1 0 rfl rfl)
abbrev cX1_put : ByteArray := prog_4_method_3_code
def yX1_put : MethodName := ⟨RX1, "put", "(II)Z"⟩
def dkwX1_put_2 : List UInt8 := [17, 3, 161, 112, 79, 42, 89, 180, 0, 16, 5, 96, 181, 0, 16, 4, 172]
abbrev dktX1_put_2 : List UInt8 := dkwX1_put_2 ++ []
def dkwX1_put_1 : List UInt8 := [27, 184, 0, 21, 17, 3, 161, 112, 79, 42, 180, 0, 7, 42, 180, 0, 16, 4, 96, 28, 184, 0, 21]
abbrev dktX1_put_1 : List UInt8 := dkwX1_put_1 ++ dktX1_put_2
def dkwX1_put_0 : List UInt8 := [42, 180, 0, 16, 5, 96, 42, 180, 0, 7, 190, 164, 0, 5, 3, 172, 42, 180, 0, 7, 42, 180, 0, 16]
abbrev dktX1_put_0 : List UInt8 := dkwX1_put_0 ++ dktX1_put_1
theorem dksX1_put_0 : cX1_put.data.toList.drop 0 = dktX1_put_0 := by decide +kernel
theorem dksX1_put_1 : cX1_put.data.toList.drop 24 = dktX1_put_1 := dk_seg dksX1_put_0 24 rfl rfl
theorem dksX1_put_2 : cX1_put.data.toList.drop 47 = dktX1_put_2 := dk_seg dksX1_put_1 23 rfl rfl
theorem dX1_put_0 : decode cX1_put 0 = .ok (.aload_n 0, 1) := dk_42 (dk_at dksX1_put_0 0 rfl rfl)
theorem dX1_put_1 : decode cX1_put 1 = .ok (.getfield 16, 3) := dk_180 0 16 (dk_at dksX1_put_0 1 rfl rfl)
theorem dX1_put_4 : decode cX1_put 4 = .ok (.iconst 2, 1) := dk_5 (dk_at dksX1_put_0 4 rfl rfl)
theorem dX1_put_5 : decode cX1_put 5 = .ok (.iadd, 1) := dk_96 (dk_at dksX1_put_0 5 rfl rfl)
theorem dX1_put_6 : decode cX1_put 6 = .ok (.aload_n 0, 1) := dk_42 (dk_at dksX1_put_0 6 rfl rfl)
theorem dX1_put_7 : decode cX1_put 7 = .ok (.getfield 7, 3) := dk_180 0 7 (dk_at dksX1_put_0 7 rfl rfl)
theorem dX1_put_10 : decode cX1_put 10 = .ok (.arraylength, 1) := dk_190 (dk_at dksX1_put_0 10 rfl rfl)
theorem dX1_put_11 : decode cX1_put 11 = .ok (.if_icmp .le 5, 3) := dk_164 0 5 (dk_at dksX1_put_0 11 rfl rfl)
theorem dX1_put_14 : decode cX1_put 14 = .ok (.iconst 0, 1) := dk_3 (dk_at dksX1_put_0 14 rfl rfl)
theorem dX1_put_15 : decode cX1_put 15 = .ok (.ireturn, 1) := dk_172 (dk_at dksX1_put_0 15 rfl rfl)
theorem dX1_put_16 : decode cX1_put 16 = .ok (.aload_n 0, 1) := dk_42 (dk_at dksX1_put_0 16 rfl rfl)
theorem dX1_put_17 : decode cX1_put 17 = .ok (.getfield 7, 3) := dk_180 0 7 (dk_at dksX1_put_0 17 rfl rfl)
theorem dX1_put_20 : decode cX1_put 20 = .ok (.aload_n 0, 1) := dk_42 (dk_at dksX1_put_0 20 rfl rfl)
theorem dX1_put_21 : decode cX1_put 21 = .ok (.getfield 16, 3) := dk_180 0 16 (dk_at dksX1_put_0 21 rfl rfl)
theorem dX1_put_24 : decode cX1_put 24 = .ok (.iload_n 1, 1) := dk_27 (dk_at dksX1_put_1 0 rfl rfl)
theorem dX1_put_25 : decode cX1_put 25 = .ok (.invokestatic 21, 3) := dk_184 0 21 (dk_at dksX1_put_1 1 rfl rfl)
theorem dX1_put_28 : decode cX1_put 28 = .ok (.sipush 929, 3) := dk_17 3 161 (dk_at dksX1_put_1 4 rfl rfl)
theorem dX1_put_31 : decode cX1_put 31 = .ok (.irem, 1) := dk_112 (dk_at dksX1_put_1 7 rfl rfl)
theorem dX1_put_32 : decode cX1_put 32 = .ok (.iastore, 1) := dk_79 (dk_at dksX1_put_1 8 rfl rfl)
theorem dX1_put_33 : decode cX1_put 33 = .ok (.aload_n 0, 1) := dk_42 (dk_at dksX1_put_1 9 rfl rfl)
theorem dX1_put_34 : decode cX1_put 34 = .ok (.getfield 7, 3) := dk_180 0 7 (dk_at dksX1_put_1 10 rfl rfl)
theorem dX1_put_37 : decode cX1_put 37 = .ok (.aload_n 0, 1) := dk_42 (dk_at dksX1_put_1 13 rfl rfl)
theorem dX1_put_38 : decode cX1_put 38 = .ok (.getfield 16, 3) := dk_180 0 16 (dk_at dksX1_put_1 14 rfl rfl)
theorem dX1_put_41 : decode cX1_put 41 = .ok (.iconst 1, 1) := dk_4 (dk_at dksX1_put_1 17 rfl rfl)
theorem dX1_put_42 : decode cX1_put 42 = .ok (.iadd, 1) := dk_96 (dk_at dksX1_put_1 18 rfl rfl)
theorem dX1_put_43 : decode cX1_put 43 = .ok (.iload_n 2, 1) := dk_28 (dk_at dksX1_put_1 19 rfl rfl)
theorem dX1_put_44 : decode cX1_put 44 = .ok (.invokestatic 21, 3) := dk_184 0 21 (dk_at dksX1_put_1 20 rfl rfl)
theorem dX1_put_47 : decode cX1_put 47 = .ok (.sipush 929, 3) := dk_17 3 161 (dk_at dksX1_put_2 0 rfl rfl)
theorem dX1_put_50 : decode cX1_put 50 = .ok (.irem, 1) := dk_112 (dk_at dksX1_put_2 3 rfl rfl)
theorem dX1_put_51 : decode cX1_put 51 = .ok (.iastore, 1) := dk_79 (dk_at dksX1_put_2 4 rfl rfl)
theorem dX1_put_52 : decode cX1_put 52 = .ok (.aload_n 0, 1) := dk_42 (dk_at dksX1_put_2 5 rfl rfl)
theorem dX1_put_53 : decode cX1_put 53 = .ok (.dup, 1) := dk_89 (dk_at dksX1_put_2 6 rfl rfl)
theorem dX1_put_54 : decode cX1_put 54 = .ok (.getfield 16, 3) := dk_180 0 16 (dk_at dksX1_put_2 7 rfl rfl)
theorem dX1_put_57 : decode cX1_put 57 = .ok (.iconst 2, 1) := dk_5 (dk_at dksX1_put_2 10 rfl rfl)
theorem dX1_put_58 : decode cX1_put 58 = .ok (.iadd, 1) := dk_96 (dk_at dksX1_put_2 11 rfl rfl)
theorem dX1_put_59 : decode cX1_put 59 = .ok (.putfield 16, 3) := dk_181 0 16 (dk_at dksX1_put_2 12 rfl rfl)
theorem dX1_put_62 : decode cX1_put 62 = .ok (.iconst 1, 1) := dk_4 (dk_at dksX1_put_2 15 rfl rfl)
theorem dX1_put_63 : decode cX1_put 63 = .ok (.ireturn, 1) := dk_172 (dk_at dksX1_put_2 16 rfl rfl)
abbrev cX1_plain : ByteArray := prog_4_method_2_code
def yX1_plain : MethodName := ⟨RX1, "plain", "(I)I"⟩
def dkwX1_plain_0 : List UInt8 := [26, 18, 20, 126, 172]
abbrev dktX1_plain_0 : List UInt8 := dkwX1_plain_0 ++ []
theorem dksX1_plain_0 : cX1_plain.data.toList.drop 0 = dktX1_plain_0 := by decide +kernel
theorem dX1_plain_0 : decode cX1_plain 0 = .ok (.iload_n 0, 1) := dk_26 (dk_at dksX1_plain_0 0 rfl rfl)
theorem dX1_plain_1 : decode cX1_plain 1 = .ok (.ldc 20, 2) := dk_18 20 (dk_at dksX1_plain_0 1 rfl rfl)
theorem dX1_plain_3 : decode cX1_plain 3 = .ok (.iand, 1) := dk_126 (dk_at dksX1_plain_0 3 rfl rfl)
theorem dX1_plain_4 : decode cX1_plain 4 = .ok (.ireturn, 1) := dk_172 (dk_at dksX1_plain_0 4 rfl rfl)
abbrev cX1_drop : ByteArray := prog_4_method_4_code
def yX1_drop : MethodName := ⟨RX1, "drop", "(I)V"⟩
def dkwX1_drop_0 : List UInt8 := [42, 27, 184, 0, 21, 42, 180, 0, 16, 4, 96, 112, 181, 0, 16, 177]
abbrev dktX1_drop_0 : List UInt8 := dkwX1_drop_0 ++ []
theorem dksX1_drop_0 : cX1_drop.data.toList.drop 0 = dktX1_drop_0 := by decide +kernel
theorem dX1_drop_0 : decode cX1_drop 0 = .ok (.aload_n 0, 1) := dk_42 (dk_at dksX1_drop_0 0 rfl rfl)
theorem dX1_drop_1 : decode cX1_drop 1 = .ok (.iload_n 1, 1) := dk_27 (dk_at dksX1_drop_0 1 rfl rfl)
theorem dX1_drop_2 : decode cX1_drop 2 = .ok (.invokestatic 21, 3) := dk_184 0 21 (dk_at dksX1_drop_0 2 rfl rfl)
theorem dX1_drop_5 : decode cX1_drop 5 = .ok (.aload_n 0, 1) := dk_42 (dk_at dksX1_drop_0 5 rfl rfl)
theorem dX1_drop_6 : decode cX1_drop 6 = .ok (.getfield 16, 3) := dk_180 0 16 (dk_at dksX1_drop_0 6 rfl rfl)
theorem dX1_drop_9 : decode cX1_drop 9 = .ok (.iconst 1, 1) := dk_4 (dk_at dksX1_drop_0 9 rfl rfl)
theorem dX1_drop_10 : decode cX1_drop 10 = .ok (.iadd, 1) := dk_96 (dk_at dksX1_drop_0 10 rfl rfl)
theorem dX1_drop_11 : decode cX1_drop 11 = .ok (.irem, 1) := dk_112 (dk_at dksX1_drop_0 11 rfl rfl)
theorem dX1_drop_12 : decode cX1_drop 12 = .ok (.putfield 16, 3) := dk_181 0 16 (dk_at dksX1_drop_0 12 rfl rfl)
theorem dX1_drop_15 : decode cX1_drop 15 = .ok (.return_, 1) := dk_177 (dk_at dksX1_drop_0 15 rfl rfl)
abbrev cX1_count : ByteArray := prog_4_method_5_code
def yX1_count : MethodName := ⟨RX1, "count", "(I)I"⟩
def dkwX1_count_0 : List UInt8 := [5, 61, 3, 62, 29, 27, 16, 7, 126, 162, 0, 13, 28, 5, 104, 61, 132, 3, 1, 167, 255, 241, 28, 172]
abbrev dktX1_count_0 : List UInt8 := dkwX1_count_0 ++ []
theorem dksX1_count_0 : cX1_count.data.toList.drop 0 = dktX1_count_0 := by decide +kernel
theorem dX1_count_0 : decode cX1_count 0 = .ok (.iconst 2, 1) := dk_5 (dk_at dksX1_count_0 0 rfl rfl)
theorem dX1_count_1 : decode cX1_count 1 = .ok (.istore_n 2, 1) := dk_61 (dk_at dksX1_count_0 1 rfl rfl)
theorem dX1_count_2 : decode cX1_count 2 = .ok (.iconst 0, 1) := dk_3 (dk_at dksX1_count_0 2 rfl rfl)
theorem dX1_count_3 : decode cX1_count 3 = .ok (.istore_n 3, 1) := dk_62 (dk_at dksX1_count_0 3 rfl rfl)
theorem dX1_count_4 : decode cX1_count 4 = .ok (.iload_n 3, 1) := dk_29 (dk_at dksX1_count_0 4 rfl rfl)
theorem dX1_count_5 : decode cX1_count 5 = .ok (.iload_n 1, 1) := dk_27 (dk_at dksX1_count_0 5 rfl rfl)
theorem dX1_count_6 : decode cX1_count 6 = .ok (.bipush 7, 2) := dk_16 7 (dk_at dksX1_count_0 6 rfl rfl)
theorem dX1_count_8 : decode cX1_count 8 = .ok (.iand, 1) := dk_126 (dk_at dksX1_count_0 8 rfl rfl)
theorem dX1_count_9 : decode cX1_count 9 = .ok (.if_icmp .ge 13, 3) := dk_162 0 13 (dk_at dksX1_count_0 9 rfl rfl)
theorem dX1_count_12 : decode cX1_count 12 = .ok (.iload_n 2, 1) := dk_28 (dk_at dksX1_count_0 12 rfl rfl)
theorem dX1_count_13 : decode cX1_count 13 = .ok (.iconst 2, 1) := dk_5 (dk_at dksX1_count_0 13 rfl rfl)
theorem dX1_count_14 : decode cX1_count 14 = .ok (.imul, 1) := dk_104 (dk_at dksX1_count_0 14 rfl rfl)
theorem dX1_count_15 : decode cX1_count 15 = .ok (.istore_n 2, 1) := dk_61 (dk_at dksX1_count_0 15 rfl rfl)
theorem dX1_count_16 : decode cX1_count 16 = .ok (.iinc 3 1, 3) := dk_132 3 1 (dk_at dksX1_count_0 16 rfl rfl)
theorem dX1_count_19 : decode cX1_count 19 = .ok (.goto (-15), 3) := dk_167 255 241 (dk_at dksX1_count_0 19 rfl rfl)
theorem dX1_count_22 : decode cX1_count 22 = .ok (.iload_n 2, 1) := dk_28 (dk_at dksX1_count_0 22 rfl rfl)
theorem dX1_count_23 : decode cX1_count 23 = .ok (.ireturn, 1) := dk_172 (dk_at dksX1_count_0 23 rfl rfl)
abbrev cX1_make : ByteArray := prog_4_method_7_code
def yX1_make : MethodName := ⟨RX1, "make", "(I)I"⟩
def dkwX1_make_7 : List UInt8 := [25, 4, 42, 180, 0, 16, 21, 5, 96, 46, 100, 17, 3, 161, 112, 79, 132, 5, 1, 167, 255, 222, 28, 172]
abbrev dktX1_make_7 : List UInt8 := dkwX1_make_7 ++ []
def dkwX1_make_6 : List UInt8 := [28, 188, 10, 181, 0, 13, 3, 54, 5, 21, 5, 28, 162, 0, 34, 42, 180, 0, 13, 21, 5, 17, 3, 161]
abbrev dktX1_make_6 : List UInt8 := dkwX1_make_6 ++ dktX1_make_7
def dkwX1_make_5 : List UInt8 := [17, 3, 161, 112, 79, 132, 7, 1, 167, 255, 205, 25, 4, 21, 5, 3, 79, 132, 5, 1, 167, 255, 174, 42]
abbrev dktX1_make_5 : List UInt8 := dkwX1_make_5 ++ dktX1_make_6
def dkwX1_make_4 : List UInt8 := [25, 4, 21, 5, 21, 7, 96, 25, 4, 21, 5, 21, 7, 96, 46, 17, 3, 161, 96, 21, 8, 100]
abbrev dktX1_make_4 : List UInt8 := dkwX1_make_4 ++ dktX1_make_5
def dkwX1_make_3 : List UInt8 := [54, 7, 21, 7, 28, 163, 0, 51, 21, 6, 45, 28, 21, 7, 100, 46, 104, 17, 3, 161, 112, 54, 8]
abbrev dktX1_make_3 : List UInt8 := dkwX1_make_3 ++ dktX1_make_4
def dkwX1_make_2 : List UInt8 := [167, 255, 232, 3, 54, 5, 21, 5, 42, 180, 0, 16, 162, 0, 79, 25, 4, 21, 5, 46, 54, 6, 4]
abbrev dktX1_make_2 : List UInt8 := dkwX1_make_2 ++ dktX1_make_3
def dkwX1_make_1 : List UInt8 := [21, 5, 42, 180, 0, 16, 162, 0, 21, 25, 4, 21, 5, 42, 180, 0, 7, 21, 5, 46, 79, 132, 5, 1]
abbrev dktX1_make_1 : List UInt8 := dkwX1_make_1 ++ dktX1_make_2
def dkwX1_make_0 : List UInt8 := [42, 27, 182, 0, 25, 61, 28, 184, 0, 28, 78, 42, 180, 0, 16, 28, 96, 188, 10, 58, 4, 3, 54, 5]
abbrev dktX1_make_0 : List UInt8 := dkwX1_make_0 ++ dktX1_make_1
theorem dksX1_make_0 : cX1_make.data.toList.drop 0 = dktX1_make_0 := by decide +kernel
theorem dksX1_make_1 : cX1_make.data.toList.drop 24 = dktX1_make_1 := dk_seg dksX1_make_0 24 rfl rfl
theorem dksX1_make_2 : cX1_make.data.toList.drop 48 = dktX1_make_2 := dk_seg dksX1_make_1 24 rfl rfl
theorem dksX1_make_3 : cX1_make.data.toList.drop 71 = dktX1_make_3 := dk_seg dksX1_make_2 23 rfl rfl
theorem dksX1_make_4 : cX1_make.data.toList.drop 94 = dktX1_make_4 := dk_seg dksX1_make_3 23 rfl rfl
theorem dksX1_make_5 : cX1_make.data.toList.drop 116 = dktX1_make_5 := dk_seg dksX1_make_4 22 rfl rfl
theorem dksX1_make_6 : cX1_make.data.toList.drop 140 = dktX1_make_6 := dk_seg dksX1_make_5 24 rfl rfl
theorem dksX1_make_7 : cX1_make.data.toList.drop 164 = dktX1_make_7 := dk_seg dksX1_make_6 24 rfl rfl
theorem dX1_make_0 : decode cX1_make 0 = .ok (.aload_n 0, 1) := dk_42 (dk_at dksX1_make_0 0 rfl rfl)
theorem dX1_make_1 : decode cX1_make 1 = .ok (.iload_n 1, 1) := dk_27 (dk_at dksX1_make_0 1 rfl rfl)
theorem dX1_make_2 : decode cX1_make 2 = .ok (.invokevirtual 25, 3) := dk_182 0 25 (dk_at dksX1_make_0 2 rfl rfl)
theorem dX1_make_5 : decode cX1_make 5 = .ok (.istore_n 2, 1) := dk_61 (dk_at dksX1_make_0 5 rfl rfl)
theorem dX1_make_6 : decode cX1_make 6 = .ok (.iload_n 2, 1) := dk_28 (dk_at dksX1_make_0 6 rfl rfl)
theorem dX1_make_7 : decode cX1_make 7 = .ok (.invokestatic 28, 3) := dk_184 0 28 (dk_at dksX1_make_0 7 rfl rfl)
theorem dX1_make_10 : decode cX1_make 10 = .ok (.astore_n 3, 1) := dk_78 (dk_at dksX1_make_0 10 rfl rfl)
theorem dX1_make_11 : decode cX1_make 11 = .ok (.aload_n 0, 1) := dk_42 (dk_at dksX1_make_0 11 rfl rfl)
theorem dX1_make_12 : decode cX1_make 12 = .ok (.getfield 16, 3) := dk_180 0 16 (dk_at dksX1_make_0 12 rfl rfl)
theorem dX1_make_15 : decode cX1_make 15 = .ok (.iload_n 2, 1) := dk_28 (dk_at dksX1_make_0 15 rfl rfl)
theorem dX1_make_16 : decode cX1_make 16 = .ok (.iadd, 1) := dk_96 (dk_at dksX1_make_0 16 rfl rfl)
theorem dX1_make_17 : decode cX1_make 17 = .ok (.newarray .int, 2) := dk_188_10 (dk_at dksX1_make_0 17 rfl rfl)
theorem dX1_make_19 : decode cX1_make 19 = .ok (.astore 4, 2) := dk_58 4 (dk_at dksX1_make_0 19 rfl rfl)
theorem dX1_make_21 : decode cX1_make 21 = .ok (.iconst 0, 1) := dk_3 (dk_at dksX1_make_0 21 rfl rfl)
theorem dX1_make_22 : decode cX1_make 22 = .ok (.istore 5, 2) := dk_54 5 (dk_at dksX1_make_0 22 rfl rfl)
theorem dX1_make_24 : decode cX1_make 24 = .ok (.iload 5, 2) := dk_21 5 (dk_at dksX1_make_1 0 rfl rfl)
theorem dX1_make_26 : decode cX1_make 26 = .ok (.aload_n 0, 1) := dk_42 (dk_at dksX1_make_1 2 rfl rfl)
theorem dX1_make_27 : decode cX1_make 27 = .ok (.getfield 16, 3) := dk_180 0 16 (dk_at dksX1_make_1 3 rfl rfl)
theorem dX1_make_30 : decode cX1_make 30 = .ok (.if_icmp .ge 21, 3) := dk_162 0 21 (dk_at dksX1_make_1 6 rfl rfl)
theorem dX1_make_33 : decode cX1_make 33 = .ok (.aload 4, 2) := dk_25 4 (dk_at dksX1_make_1 9 rfl rfl)
theorem dX1_make_35 : decode cX1_make 35 = .ok (.iload 5, 2) := dk_21 5 (dk_at dksX1_make_1 11 rfl rfl)
theorem dX1_make_37 : decode cX1_make 37 = .ok (.aload_n 0, 1) := dk_42 (dk_at dksX1_make_1 13 rfl rfl)
theorem dX1_make_38 : decode cX1_make 38 = .ok (.getfield 7, 3) := dk_180 0 7 (dk_at dksX1_make_1 14 rfl rfl)
theorem dX1_make_41 : decode cX1_make 41 = .ok (.iload 5, 2) := dk_21 5 (dk_at dksX1_make_1 17 rfl rfl)
theorem dX1_make_43 : decode cX1_make 43 = .ok (.iaload, 1) := dk_46 (dk_at dksX1_make_1 19 rfl rfl)
theorem dX1_make_44 : decode cX1_make 44 = .ok (.iastore, 1) := dk_79 (dk_at dksX1_make_1 20 rfl rfl)
theorem dX1_make_45 : decode cX1_make 45 = .ok (.iinc 5 1, 3) := dk_132 5 1 (dk_at dksX1_make_1 21 rfl rfl)
theorem dX1_make_48 : decode cX1_make 48 = .ok (.goto (-24), 3) := dk_167 255 232 (dk_at dksX1_make_2 0 rfl rfl)
theorem dX1_make_51 : decode cX1_make 51 = .ok (.iconst 0, 1) := dk_3 (dk_at dksX1_make_2 3 rfl rfl)
theorem dX1_make_52 : decode cX1_make 52 = .ok (.istore 5, 2) := dk_54 5 (dk_at dksX1_make_2 4 rfl rfl)
theorem dX1_make_54 : decode cX1_make 54 = .ok (.iload 5, 2) := dk_21 5 (dk_at dksX1_make_2 6 rfl rfl)
theorem dX1_make_56 : decode cX1_make 56 = .ok (.aload_n 0, 1) := dk_42 (dk_at dksX1_make_2 8 rfl rfl)
theorem dX1_make_57 : decode cX1_make 57 = .ok (.getfield 16, 3) := dk_180 0 16 (dk_at dksX1_make_2 9 rfl rfl)
theorem dX1_make_60 : decode cX1_make 60 = .ok (.if_icmp .ge 79, 3) := dk_162 0 79 (dk_at dksX1_make_2 12 rfl rfl)
theorem dX1_make_63 : decode cX1_make 63 = .ok (.aload 4, 2) := dk_25 4 (dk_at dksX1_make_2 15 rfl rfl)
theorem dX1_make_65 : decode cX1_make 65 = .ok (.iload 5, 2) := dk_21 5 (dk_at dksX1_make_2 17 rfl rfl)
theorem dX1_make_67 : decode cX1_make 67 = .ok (.iaload, 1) := dk_46 (dk_at dksX1_make_2 19 rfl rfl)
theorem dX1_make_68 : decode cX1_make 68 = .ok (.istore 6, 2) := dk_54 6 (dk_at dksX1_make_2 20 rfl rfl)
theorem dX1_make_70 : decode cX1_make 70 = .ok (.iconst 1, 1) := dk_4 (dk_at dksX1_make_2 22 rfl rfl)
theorem dX1_make_71 : decode cX1_make 71 = .ok (.istore 7, 2) := dk_54 7 (dk_at dksX1_make_3 0 rfl rfl)
theorem dX1_make_73 : decode cX1_make 73 = .ok (.iload 7, 2) := dk_21 7 (dk_at dksX1_make_3 2 rfl rfl)
theorem dX1_make_75 : decode cX1_make 75 = .ok (.iload_n 2, 1) := dk_28 (dk_at dksX1_make_3 4 rfl rfl)
theorem dX1_make_76 : decode cX1_make 76 = .ok (.if_icmp .gt 51, 3) := dk_163 0 51 (dk_at dksX1_make_3 5 rfl rfl)
theorem dX1_make_79 : decode cX1_make 79 = .ok (.iload 6, 2) := dk_21 6 (dk_at dksX1_make_3 8 rfl rfl)
theorem dX1_make_81 : decode cX1_make 81 = .ok (.aload_n 3, 1) := dk_45 (dk_at dksX1_make_3 10 rfl rfl)
theorem dX1_make_82 : decode cX1_make 82 = .ok (.iload_n 2, 1) := dk_28 (dk_at dksX1_make_3 11 rfl rfl)
theorem dX1_make_83 : decode cX1_make 83 = .ok (.iload 7, 2) := dk_21 7 (dk_at dksX1_make_3 12 rfl rfl)
theorem dX1_make_85 : decode cX1_make 85 = .ok (.isub, 1) := dk_100 (dk_at dksX1_make_3 14 rfl rfl)
theorem dX1_make_86 : decode cX1_make 86 = .ok (.iaload, 1) := dk_46 (dk_at dksX1_make_3 15 rfl rfl)
theorem dX1_make_87 : decode cX1_make 87 = .ok (.imul, 1) := dk_104 (dk_at dksX1_make_3 16 rfl rfl)
theorem dX1_make_88 : decode cX1_make 88 = .ok (.sipush 929, 3) := dk_17 3 161 (dk_at dksX1_make_3 17 rfl rfl)
theorem dX1_make_91 : decode cX1_make 91 = .ok (.irem, 1) := dk_112 (dk_at dksX1_make_3 20 rfl rfl)
theorem dX1_make_92 : decode cX1_make 92 = .ok (.istore 8, 2) := dk_54 8 (dk_at dksX1_make_3 21 rfl rfl)
theorem dX1_make_94 : decode cX1_make 94 = .ok (.aload 4, 2) := dk_25 4 (dk_at dksX1_make_4 0 rfl rfl)
theorem dX1_make_96 : decode cX1_make 96 = .ok (.iload 5, 2) := dk_21 5 (dk_at dksX1_make_4 2 rfl rfl)
theorem dX1_make_98 : decode cX1_make 98 = .ok (.iload 7, 2) := dk_21 7 (dk_at dksX1_make_4 4 rfl rfl)
theorem dX1_make_100 : decode cX1_make 100 = .ok (.iadd, 1) := dk_96 (dk_at dksX1_make_4 6 rfl rfl)
theorem dX1_make_101 : decode cX1_make 101 = .ok (.aload 4, 2) := dk_25 4 (dk_at dksX1_make_4 7 rfl rfl)
theorem dX1_make_103 : decode cX1_make 103 = .ok (.iload 5, 2) := dk_21 5 (dk_at dksX1_make_4 9 rfl rfl)
theorem dX1_make_105 : decode cX1_make 105 = .ok (.iload 7, 2) := dk_21 7 (dk_at dksX1_make_4 11 rfl rfl)
theorem dX1_make_107 : decode cX1_make 107 = .ok (.iadd, 1) := dk_96 (dk_at dksX1_make_4 13 rfl rfl)
theorem dX1_make_108 : decode cX1_make 108 = .ok (.iaload, 1) := dk_46 (dk_at dksX1_make_4 14 rfl rfl)
theorem dX1_make_109 : decode cX1_make 109 = .ok (.sipush 929, 3) := dk_17 3 161 (dk_at dksX1_make_4 15 rfl rfl)
theorem dX1_make_112 : decode cX1_make 112 = .ok (.iadd, 1) := dk_96 (dk_at dksX1_make_4 18 rfl rfl)
theorem dX1_make_113 : decode cX1_make 113 = .ok (.iload 8, 2) := dk_21 8 (dk_at dksX1_make_4 19 rfl rfl)
theorem dX1_make_115 : decode cX1_make 115 = .ok (.isub, 1) := dk_100 (dk_at dksX1_make_4 21 rfl rfl)
theorem dX1_make_116 : decode cX1_make 116 = .ok (.sipush 929, 3) := dk_17 3 161 (dk_at dksX1_make_5 0 rfl rfl)
theorem dX1_make_119 : decode cX1_make 119 = .ok (.irem, 1) := dk_112 (dk_at dksX1_make_5 3 rfl rfl)
theorem dX1_make_120 : decode cX1_make 120 = .ok (.iastore, 1) := dk_79 (dk_at dksX1_make_5 4 rfl rfl)
theorem dX1_make_121 : decode cX1_make 121 = .ok (.iinc 7 1, 3) := dk_132 7 1 (dk_at dksX1_make_5 5 rfl rfl)
theorem dX1_make_124 : decode cX1_make 124 = .ok (.goto (-51), 3) := dk_167 255 205 (dk_at dksX1_make_5 8 rfl rfl)
theorem dX1_make_127 : decode cX1_make 127 = .ok (.aload 4, 2) := dk_25 4 (dk_at dksX1_make_5 11 rfl rfl)
theorem dX1_make_129 : decode cX1_make 129 = .ok (.iload 5, 2) := dk_21 5 (dk_at dksX1_make_5 13 rfl rfl)
theorem dX1_make_131 : decode cX1_make 131 = .ok (.iconst 0, 1) := dk_3 (dk_at dksX1_make_5 15 rfl rfl)
theorem dX1_make_132 : decode cX1_make 132 = .ok (.iastore, 1) := dk_79 (dk_at dksX1_make_5 16 rfl rfl)
theorem dX1_make_133 : decode cX1_make 133 = .ok (.iinc 5 1, 3) := dk_132 5 1 (dk_at dksX1_make_5 17 rfl rfl)
theorem dX1_make_136 : decode cX1_make 136 = .ok (.goto (-82), 3) := dk_167 255 174 (dk_at dksX1_make_5 20 rfl rfl)
theorem dX1_make_139 : decode cX1_make 139 = .ok (.aload_n 0, 1) := dk_42 (dk_at dksX1_make_5 23 rfl rfl)
theorem dX1_make_140 : decode cX1_make 140 = .ok (.iload_n 2, 1) := dk_28 (dk_at dksX1_make_6 0 rfl rfl)
theorem dX1_make_141 : decode cX1_make 141 = .ok (.newarray .int, 2) := dk_188_10 (dk_at dksX1_make_6 1 rfl rfl)
theorem dX1_make_143 : decode cX1_make 143 = .ok (.putfield 13, 3) := dk_181 0 13 (dk_at dksX1_make_6 3 rfl rfl)
theorem dX1_make_146 : decode cX1_make 146 = .ok (.iconst 0, 1) := dk_3 (dk_at dksX1_make_6 6 rfl rfl)
theorem dX1_make_147 : decode cX1_make 147 = .ok (.istore 5, 2) := dk_54 5 (dk_at dksX1_make_6 7 rfl rfl)
theorem dX1_make_149 : decode cX1_make 149 = .ok (.iload 5, 2) := dk_21 5 (dk_at dksX1_make_6 9 rfl rfl)
theorem dX1_make_151 : decode cX1_make 151 = .ok (.iload_n 2, 1) := dk_28 (dk_at dksX1_make_6 11 rfl rfl)
theorem dX1_make_152 : decode cX1_make 152 = .ok (.if_icmp .ge 34, 3) := dk_162 0 34 (dk_at dksX1_make_6 12 rfl rfl)
theorem dX1_make_155 : decode cX1_make 155 = .ok (.aload_n 0, 1) := dk_42 (dk_at dksX1_make_6 15 rfl rfl)
theorem dX1_make_156 : decode cX1_make 156 = .ok (.getfield 13, 3) := dk_180 0 13 (dk_at dksX1_make_6 16 rfl rfl)
theorem dX1_make_159 : decode cX1_make 159 = .ok (.iload 5, 2) := dk_21 5 (dk_at dksX1_make_6 19 rfl rfl)
theorem dX1_make_161 : decode cX1_make 161 = .ok (.sipush 929, 3) := dk_17 3 161 (dk_at dksX1_make_6 21 rfl rfl)
theorem dX1_make_164 : decode cX1_make 164 = .ok (.aload 4, 2) := dk_25 4 (dk_at dksX1_make_7 0 rfl rfl)
theorem dX1_make_166 : decode cX1_make 166 = .ok (.aload_n 0, 1) := dk_42 (dk_at dksX1_make_7 2 rfl rfl)
theorem dX1_make_167 : decode cX1_make 167 = .ok (.getfield 16, 3) := dk_180 0 16 (dk_at dksX1_make_7 3 rfl rfl)
theorem dX1_make_170 : decode cX1_make 170 = .ok (.iload 5, 2) := dk_21 5 (dk_at dksX1_make_7 6 rfl rfl)
theorem dX1_make_172 : decode cX1_make 172 = .ok (.iadd, 1) := dk_96 (dk_at dksX1_make_7 8 rfl rfl)
theorem dX1_make_173 : decode cX1_make 173 = .ok (.iaload, 1) := dk_46 (dk_at dksX1_make_7 9 rfl rfl)
theorem dX1_make_174 : decode cX1_make 174 = .ok (.isub, 1) := dk_100 (dk_at dksX1_make_7 10 rfl rfl)
theorem dX1_make_175 : decode cX1_make 175 = .ok (.sipush 929, 3) := dk_17 3 161 (dk_at dksX1_make_7 11 rfl rfl)
theorem dX1_make_178 : decode cX1_make 178 = .ok (.irem, 1) := dk_112 (dk_at dksX1_make_7 14 rfl rfl)
theorem dX1_make_179 : decode cX1_make 179 = .ok (.iastore, 1) := dk_79 (dk_at dksX1_make_7 15 rfl rfl)
theorem dX1_make_180 : decode cX1_make 180 = .ok (.iinc 5 1, 3) := dk_132 5 1 (dk_at dksX1_make_7 16 rfl rfl)
theorem dX1_make_183 : decode cX1_make 183 = .ok (.goto (-34), 3) := dk_167 255 222 (dk_at dksX1_make_7 19 rfl rfl)
theorem dX1_make_186 : decode cX1_make 186 = .ok (.iload_n 2, 1) := dk_28 (dk_at dksX1_make_7 22 rfl rfl)
theorem dX1_make_187 : decode cX1_make 187 = .ok (.ireturn, 1) := dk_172 (dk_at dksX1_make_7 23 rfl rfl)
abbrev cX1_generator : ByteArray := prog_4_method_6_code
def yX1_generator : MethodName := ⟨RX1, "generator", "(I)[I"⟩
def dkwX1_generator_4 : List UInt8 := [21, 4, 26, 162, 0, 17, 45, 21, 4, 43, 21, 4, 46, 79, 132, 4, 1, 167, 255, 239, 45, 176]
abbrev dktX1_generator_4 : List UInt8 := dkwX1_generator_4 ++ []
def dkwX1_generator_3 : List UInt8 := [17, 3, 161, 112, 79, 132, 4, 255, 167, 255, 210, 132, 3, 1, 167, 255, 186, 26, 188, 10, 78, 3, 54, 4]
abbrev dktX1_generator_3 : List UInt8 := dkwX1_generator_3 ++ dktX1_generator_4
def dkwX1_generator_2 : List UInt8 := [43, 21, 4, 4, 100, 46, 54, 5, 43, 21, 4, 21, 5, 17, 3, 161, 28, 100, 43, 21, 4, 46, 104, 96]
abbrev dktX1_generator_2 : List UInt8 := dkwX1_generator_2 ++ dktX1_generator_3
def dkwX1_generator_1 : List UInt8 := [17, 3, 161, 112, 61, 29, 4, 96, 54, 4, 21, 4, 155, 0, 47, 21, 4, 154, 0, 7, 3, 167, 0, 9]
abbrev dktX1_generator_1 : List UInt8 := dkwX1_generator_1 ++ dktX1_generator_2
def dkwX1_generator_0 : List UInt8 := [26, 4, 96, 188, 10, 76, 43, 3, 4, 79, 4, 61, 3, 62, 29, 26, 162, 0, 71, 28, 6, 104]
abbrev dktX1_generator_0 : List UInt8 := dkwX1_generator_0 ++ dktX1_generator_1
theorem dksX1_generator_0 : cX1_generator.data.toList.drop 0 = dktX1_generator_0 := by decide +kernel
theorem dksX1_generator_1 : cX1_generator.data.toList.drop 22 = dktX1_generator_1 := dk_seg dksX1_generator_0 22 rfl rfl
theorem dksX1_generator_2 : cX1_generator.data.toList.drop 46 = dktX1_generator_2 := dk_seg dksX1_generator_1 24 rfl rfl
theorem dksX1_generator_3 : cX1_generator.data.toList.drop 70 = dktX1_generator_3 := dk_seg dksX1_generator_2 24 rfl rfl
theorem dksX1_generator_4 : cX1_generator.data.toList.drop 94 = dktX1_generator_4 := dk_seg dksX1_generator_3 24 rfl rfl
theorem dX1_generator_0 : decode cX1_generator 0 = .ok (.iload_n 0, 1) := dk_26 (dk_at dksX1_generator_0 0 rfl rfl)
theorem dX1_generator_1 : decode cX1_generator 1 = .ok (.iconst 1, 1) := dk_4 (dk_at dksX1_generator_0 1 rfl rfl)
theorem dX1_generator_2 : decode cX1_generator 2 = .ok (.iadd, 1) := dk_96 (dk_at dksX1_generator_0 2 rfl rfl)
theorem dX1_generator_3 : decode cX1_generator 3 = .ok (.newarray .int, 2) := dk_188_10 (dk_at dksX1_generator_0 3 rfl rfl)
theorem dX1_generator_5 : decode cX1_generator 5 = .ok (.astore_n 1, 1) := dk_76 (dk_at dksX1_generator_0 5 rfl rfl)
theorem dX1_generator_6 : decode cX1_generator 6 = .ok (.aload_n 1, 1) := dk_43 (dk_at dksX1_generator_0 6 rfl rfl)
theorem dX1_generator_7 : decode cX1_generator 7 = .ok (.iconst 0, 1) := dk_3 (dk_at dksX1_generator_0 7 rfl rfl)
theorem dX1_generator_8 : decode cX1_generator 8 = .ok (.iconst 1, 1) := dk_4 (dk_at dksX1_generator_0 8 rfl rfl)
theorem dX1_generator_9 : decode cX1_generator 9 = .ok (.iastore, 1) := dk_79 (dk_at dksX1_generator_0 9 rfl rfl)
theorem dX1_generator_10 : decode cX1_generator 10 = .ok (.iconst 1, 1) := dk_4 (dk_at dksX1_generator_0 10 rfl rfl)
theorem dX1_generator_11 : decode cX1_generator 11 = .ok (.istore_n 2, 1) := dk_61 (dk_at dksX1_generator_0 11 rfl rfl)
theorem dX1_generator_12 : decode cX1_generator 12 = .ok (.iconst 0, 1) := dk_3 (dk_at dksX1_generator_0 12 rfl rfl)
theorem dX1_generator_13 : decode cX1_generator 13 = .ok (.istore_n 3, 1) := dk_62 (dk_at dksX1_generator_0 13 rfl rfl)
theorem dX1_generator_14 : decode cX1_generator 14 = .ok (.iload_n 3, 1) := dk_29 (dk_at dksX1_generator_0 14 rfl rfl)
theorem dX1_generator_15 : decode cX1_generator 15 = .ok (.iload_n 0, 1) := dk_26 (dk_at dksX1_generator_0 15 rfl rfl)
theorem dX1_generator_16 : decode cX1_generator 16 = .ok (.if_icmp .ge 71, 3) := dk_162 0 71 (dk_at dksX1_generator_0 16 rfl rfl)
theorem dX1_generator_19 : decode cX1_generator 19 = .ok (.iload_n 2, 1) := dk_28 (dk_at dksX1_generator_0 19 rfl rfl)
theorem dX1_generator_20 : decode cX1_generator 20 = .ok (.iconst 3, 1) := dk_6 (dk_at dksX1_generator_0 20 rfl rfl)
theorem dX1_generator_21 : decode cX1_generator 21 = .ok (.imul, 1) := dk_104 (dk_at dksX1_generator_0 21 rfl rfl)
theorem dX1_generator_22 : decode cX1_generator 22 = .ok (.sipush 929, 3) := dk_17 3 161 (dk_at dksX1_generator_1 0 rfl rfl)
theorem dX1_generator_25 : decode cX1_generator 25 = .ok (.irem, 1) := dk_112 (dk_at dksX1_generator_1 3 rfl rfl)
theorem dX1_generator_26 : decode cX1_generator 26 = .ok (.istore_n 2, 1) := dk_61 (dk_at dksX1_generator_1 4 rfl rfl)
theorem dX1_generator_27 : decode cX1_generator 27 = .ok (.iload_n 3, 1) := dk_29 (dk_at dksX1_generator_1 5 rfl rfl)
theorem dX1_generator_28 : decode cX1_generator 28 = .ok (.iconst 1, 1) := dk_4 (dk_at dksX1_generator_1 6 rfl rfl)
theorem dX1_generator_29 : decode cX1_generator 29 = .ok (.iadd, 1) := dk_96 (dk_at dksX1_generator_1 7 rfl rfl)
theorem dX1_generator_30 : decode cX1_generator 30 = .ok (.istore 4, 2) := dk_54 4 (dk_at dksX1_generator_1 8 rfl rfl)
theorem dX1_generator_32 : decode cX1_generator 32 = .ok (.iload 4, 2) := dk_21 4 (dk_at dksX1_generator_1 10 rfl rfl)
theorem dX1_generator_34 : decode cX1_generator 34 = .ok (.ifCond .lt 47, 3) := dk_155 0 47 (dk_at dksX1_generator_1 12 rfl rfl)
theorem dX1_generator_37 : decode cX1_generator 37 = .ok (.iload 4, 2) := dk_21 4 (dk_at dksX1_generator_1 15 rfl rfl)
theorem dX1_generator_39 : decode cX1_generator 39 = .ok (.ifCond .ne 7, 3) := dk_154 0 7 (dk_at dksX1_generator_1 17 rfl rfl)
theorem dX1_generator_42 : decode cX1_generator 42 = .ok (.iconst 0, 1) := dk_3 (dk_at dksX1_generator_1 20 rfl rfl)
theorem dX1_generator_43 : decode cX1_generator 43 = .ok (.goto 9, 3) := dk_167 0 9 (dk_at dksX1_generator_1 21 rfl rfl)
theorem dX1_generator_46 : decode cX1_generator 46 = .ok (.aload_n 1, 1) := dk_43 (dk_at dksX1_generator_2 0 rfl rfl)
theorem dX1_generator_47 : decode cX1_generator 47 = .ok (.iload 4, 2) := dk_21 4 (dk_at dksX1_generator_2 1 rfl rfl)
theorem dX1_generator_49 : decode cX1_generator 49 = .ok (.iconst 1, 1) := dk_4 (dk_at dksX1_generator_2 3 rfl rfl)
theorem dX1_generator_50 : decode cX1_generator 50 = .ok (.isub, 1) := dk_100 (dk_at dksX1_generator_2 4 rfl rfl)
theorem dX1_generator_51 : decode cX1_generator 51 = .ok (.iaload, 1) := dk_46 (dk_at dksX1_generator_2 5 rfl rfl)
theorem dX1_generator_52 : decode cX1_generator 52 = .ok (.istore 5, 2) := dk_54 5 (dk_at dksX1_generator_2 6 rfl rfl)
theorem dX1_generator_54 : decode cX1_generator 54 = .ok (.aload_n 1, 1) := dk_43 (dk_at dksX1_generator_2 8 rfl rfl)
theorem dX1_generator_55 : decode cX1_generator 55 = .ok (.iload 4, 2) := dk_21 4 (dk_at dksX1_generator_2 9 rfl rfl)
theorem dX1_generator_57 : decode cX1_generator 57 = .ok (.iload 5, 2) := dk_21 5 (dk_at dksX1_generator_2 11 rfl rfl)
theorem dX1_generator_59 : decode cX1_generator 59 = .ok (.sipush 929, 3) := dk_17 3 161 (dk_at dksX1_generator_2 13 rfl rfl)
theorem dX1_generator_62 : decode cX1_generator 62 = .ok (.iload_n 2, 1) := dk_28 (dk_at dksX1_generator_2 16 rfl rfl)
theorem dX1_generator_63 : decode cX1_generator 63 = .ok (.isub, 1) := dk_100 (dk_at dksX1_generator_2 17 rfl rfl)
theorem dX1_generator_64 : decode cX1_generator 64 = .ok (.aload_n 1, 1) := dk_43 (dk_at dksX1_generator_2 18 rfl rfl)
theorem dX1_generator_65 : decode cX1_generator 65 = .ok (.iload 4, 2) := dk_21 4 (dk_at dksX1_generator_2 19 rfl rfl)
theorem dX1_generator_67 : decode cX1_generator 67 = .ok (.iaload, 1) := dk_46 (dk_at dksX1_generator_2 21 rfl rfl)
theorem dX1_generator_68 : decode cX1_generator 68 = .ok (.imul, 1) := dk_104 (dk_at dksX1_generator_2 22 rfl rfl)
theorem dX1_generator_69 : decode cX1_generator 69 = .ok (.iadd, 1) := dk_96 (dk_at dksX1_generator_2 23 rfl rfl)
theorem dX1_generator_70 : decode cX1_generator 70 = .ok (.sipush 929, 3) := dk_17 3 161 (dk_at dksX1_generator_3 0 rfl rfl)
theorem dX1_generator_73 : decode cX1_generator 73 = .ok (.irem, 1) := dk_112 (dk_at dksX1_generator_3 3 rfl rfl)
theorem dX1_generator_74 : decode cX1_generator 74 = .ok (.iastore, 1) := dk_79 (dk_at dksX1_generator_3 4 rfl rfl)
theorem dX1_generator_75 : decode cX1_generator 75 = .ok (.iinc 4 (-1), 3) := dk_132 4 255 (dk_at dksX1_generator_3 5 rfl rfl)
theorem dX1_generator_78 : decode cX1_generator 78 = .ok (.goto (-46), 3) := dk_167 255 210 (dk_at dksX1_generator_3 8 rfl rfl)
theorem dX1_generator_81 : decode cX1_generator 81 = .ok (.iinc 3 1, 3) := dk_132 3 1 (dk_at dksX1_generator_3 11 rfl rfl)
theorem dX1_generator_84 : decode cX1_generator 84 = .ok (.goto (-70), 3) := dk_167 255 186 (dk_at dksX1_generator_3 14 rfl rfl)
theorem dX1_generator_87 : decode cX1_generator 87 = .ok (.iload_n 0, 1) := dk_26 (dk_at dksX1_generator_3 17 rfl rfl)
theorem dX1_generator_88 : decode cX1_generator 88 = .ok (.newarray .int, 2) := dk_188_10 (dk_at dksX1_generator_3 18 rfl rfl)
theorem dX1_generator_90 : decode cX1_generator 90 = .ok (.astore_n 3, 1) := dk_78 (dk_at dksX1_generator_3 20 rfl rfl)
theorem dX1_generator_91 : decode cX1_generator 91 = .ok (.iconst 0, 1) := dk_3 (dk_at dksX1_generator_3 21 rfl rfl)
theorem dX1_generator_92 : decode cX1_generator 92 = .ok (.istore 4, 2) := dk_54 4 (dk_at dksX1_generator_3 22 rfl rfl)
theorem dX1_generator_94 : decode cX1_generator 94 = .ok (.iload 4, 2) := dk_21 4 (dk_at dksX1_generator_4 0 rfl rfl)
theorem dX1_generator_96 : decode cX1_generator 96 = .ok (.iload_n 0, 1) := dk_26 (dk_at dksX1_generator_4 2 rfl rfl)
theorem dX1_generator_97 : decode cX1_generator 97 = .ok (.if_icmp .ge 17, 3) := dk_162 0 17 (dk_at dksX1_generator_4 3 rfl rfl)
theorem dX1_generator_100 : decode cX1_generator 100 = .ok (.aload_n 3, 1) := dk_45 (dk_at dksX1_generator_4 6 rfl rfl)
theorem dX1_generator_101 : decode cX1_generator 101 = .ok (.iload 4, 2) := dk_21 4 (dk_at dksX1_generator_4 7 rfl rfl)
theorem dX1_generator_103 : decode cX1_generator 103 = .ok (.aload_n 1, 1) := dk_43 (dk_at dksX1_generator_4 9 rfl rfl)
theorem dX1_generator_104 : decode cX1_generator 104 = .ok (.iload 4, 2) := dk_21 4 (dk_at dksX1_generator_4 10 rfl rfl)
theorem dX1_generator_106 : decode cX1_generator 106 = .ok (.iaload, 1) := dk_46 (dk_at dksX1_generator_4 12 rfl rfl)
theorem dX1_generator_107 : decode cX1_generator 107 = .ok (.iastore, 1) := dk_79 (dk_at dksX1_generator_4 13 rfl rfl)
theorem dX1_generator_108 : decode cX1_generator 108 = .ok (.iinc 4 1, 3) := dk_132 4 1 (dk_at dksX1_generator_4 14 rfl rfl)
theorem dX1_generator_111 : decode cX1_generator 111 = .ok (.goto (-17), 3) := dk_167 255 239 (dk_at dksX1_generator_4 17 rfl rfl)
theorem dX1_generator_114 : decode cX1_generator 114 = .ok (.aload_n 3, 1) := dk_45 (dk_at dksX1_generator_4 20 rfl rfl)
theorem dX1_generator_115 : decode cX1_generator 115 = .ok (.areturn, 1) := dk_176 (dk_at dksX1_generator_4 21 rfl rfl)
abbrev cX1_told : ByteArray := prog_4_method_8_code
def yX1_told : MethodName := ⟨RX1, "told", "(I)I"⟩
def dkwX1_told_1 : List UInt8 := [190, 112, 46, 172]
abbrev dktX1_told_1 : List UInt8 := dkwX1_told_1 ++ []
def dkwX1_told_0 : List UInt8 := [42, 180, 0, 13, 190, 154, 0, 7, 2, 167, 0, 18, 42, 180, 0, 13, 27, 184, 0, 21, 42, 180, 0, 13]
abbrev dktX1_told_0 : List UInt8 := dkwX1_told_0 ++ dktX1_told_1
theorem dksX1_told_0 : cX1_told.data.toList.drop 0 = dktX1_told_0 := by decide +kernel
theorem dksX1_told_1 : cX1_told.data.toList.drop 24 = dktX1_told_1 := dk_seg dksX1_told_0 24 rfl rfl
theorem dX1_told_0 : decode cX1_told 0 = .ok (.aload_n 0, 1) := dk_42 (dk_at dksX1_told_0 0 rfl rfl)
theorem dX1_told_1 : decode cX1_told 1 = .ok (.getfield 13, 3) := dk_180 0 13 (dk_at dksX1_told_0 1 rfl rfl)
theorem dX1_told_4 : decode cX1_told 4 = .ok (.arraylength, 1) := dk_190 (dk_at dksX1_told_0 4 rfl rfl)
theorem dX1_told_5 : decode cX1_told 5 = .ok (.ifCond .ne 7, 3) := dk_154 0 7 (dk_at dksX1_told_0 5 rfl rfl)
theorem dX1_told_8 : decode cX1_told 8 = .ok (.iconst (-1), 1) := dk_2 (dk_at dksX1_told_0 8 rfl rfl)
theorem dX1_told_9 : decode cX1_told 9 = .ok (.goto 18, 3) := dk_167 0 18 (dk_at dksX1_told_0 9 rfl rfl)
theorem dX1_told_12 : decode cX1_told 12 = .ok (.aload_n 0, 1) := dk_42 (dk_at dksX1_told_0 12 rfl rfl)
theorem dX1_told_13 : decode cX1_told 13 = .ok (.getfield 13, 3) := dk_180 0 13 (dk_at dksX1_told_0 13 rfl rfl)
theorem dX1_told_16 : decode cX1_told 16 = .ok (.iload_n 1, 1) := dk_27 (dk_at dksX1_told_0 16 rfl rfl)
theorem dX1_told_17 : decode cX1_told 17 = .ok (.invokestatic 21, 3) := dk_184 0 21 (dk_at dksX1_told_0 17 rfl rfl)
theorem dX1_told_20 : decode cX1_told 20 = .ok (.aload_n 0, 1) := dk_42 (dk_at dksX1_told_0 20 rfl rfl)
theorem dX1_told_21 : decode cX1_told 21 = .ok (.getfield 13, 3) := dk_180 0 13 (dk_at dksX1_told_0 21 rfl rfl)
theorem dX1_told_24 : decode cX1_told 24 = .ok (.arraylength, 1) := dk_190 (dk_at dksX1_told_1 0 rfl rfl)
theorem dX1_told_25 : decode cX1_told 25 = .ok (.irem, 1) := dk_112 (dk_at dksX1_told_1 1 rfl rfl)
theorem dX1_told_26 : decode cX1_told 26 = .ok (.iaload, 1) := dk_46 (dk_at dksX1_told_1 2 rfl rfl)
theorem dX1_told_27 : decode cX1_told 27 = .ok (.ireturn, 1) := dk_172 (dk_at dksX1_told_1 3 rfl rfl)
theorem q3 : (Jvm.Cond.initialized "PdfParityDeskModel") ∈ lw_all := lw_g (lw_at lw_m1 2 rfl) rfl
theorem q395 : (Jvm.Cond.instantiable "PdfParityDeskModel" (3 : Nat)) ∈ lw_all := lw_g (lw_at lw_m2 154 rfl) rfl
theorem q397 : (Jvm.Cond.instanceMethod ({ cls := "PdfParityDeskModel", name := "<init>", desc := "()V" } : Jvm.MethodName)) ∈ lw_all := lw_g (lw_at lw_m2 156 rfl) rfl
theorem q398 : (Jvm.Cond.code ({ cls := "PdfParityDeskModel", name := "<init>", desc := "()V" } : Jvm.MethodName) prog_4_method_1_code (1 : Nat) (Option.none : Option Jvm.ClassFile.FieldType)) ∈ lw_all := lw_g (lw_at lw_m2 157 rfl) rfl
theorem q399 : (Jvm.Cond.methodLink "PdfParityDeskModel" (1 : Nat) ({ cls := "java/lang/Object", name := "<init>", desc := "()V" } : Jvm.MethodName)) ∈ lw_all := lw_g (lw_at lw_m2 158 rfl) rfl
theorem q400 : (Jvm.Cond.fieldLink "PdfParityDeskModel" (7 : Nat) "PdfParityDeskModel" "words" "[I") ∈ lw_all := lw_g (lw_at lw_m2 159 rfl) rfl
theorem q401 : (Jvm.Cond.fieldLink "PdfParityDeskModel" (16 : Nat) "PdfParityDeskModel" "size" "I") ∈ lw_all := lw_g (lw_at lw_m2 160 rfl) rfl
theorem q402 : (Jvm.Cond.fieldLink "PdfParityDeskModel" (13 : Nat) "PdfParityDeskModel" "told" "[I") ∈ lw_all := lw_g (lw_at lw_m2 161 rfl) rfl
theorem q403 : (Jvm.Cond.laysFinal "PdfParityDeskModel" "PdfParityDeskModel" "words" "[I") ∈ lw_all := lw_g (lw_at lw_m2 162 rfl) rfl
theorem q404 : (Jvm.Cond.soleField "PdfParityDeskModel" "words") ∈ lw_all := lw_g (lw_at lw_m2 163 rfl) rfl
theorem q405 : (Jvm.Cond.lays "PdfParityDeskModel" "PdfParityDeskModel" "size" "I") ∈ lw_all := lw_g (lw_at lw_m2 164 rfl) rfl
theorem q406 : (Jvm.Cond.soleField "PdfParityDeskModel" "size") ∈ lw_all := lw_g (lw_at lw_m2 165 rfl) rfl
theorem q407 : (Jvm.Cond.lays "PdfParityDeskModel" "PdfParityDeskModel" "told" "[I") ∈ lw_all := lw_g (lw_at lw_m2 166 rfl) rfl
theorem q408 : (Jvm.Cond.soleField "PdfParityDeskModel" "told") ∈ lw_all := lw_g (lw_at lw_m2 167 rfl) rfl
theorem q409 : (Jvm.Cond.superclass "PdfParityDeskModel" "java/lang/Object") ∈ lw_all := lw_g (lw_at lw_m2 168 rfl) rfl
theorem q412 : (Jvm.Cond.instanceMethod ({ cls := "PdfParityDeskModel", name := "put", desc := "(II)Z" } : Jvm.MethodName)) ∈ lw_all := lw_g (lw_at lw_m2 171 rfl) rfl
theorem q413 : (Jvm.Cond.selects "PdfParityDeskModel" ({ cls := "PdfParityDeskModel", name := "put", desc := "(II)Z" } : Jvm.MethodName) ({ cls := "PdfParityDeskModel", name := "put", desc := "(II)Z" } : Jvm.MethodName)) ∈ lw_all := lw_g (lw_at lw_m2 172 rfl) rfl
theorem q414 : (Jvm.Cond.code ({ cls := "PdfParityDeskModel", name := "put", desc := "(II)Z" } : Jvm.MethodName) prog_4_method_3_code (3 : Nat) (Option.some Jvm.ClassFile.FieldType.boolean)) ∈ lw_all := lw_g (lw_at lw_m2 173 rfl) rfl
theorem q415 : (Jvm.Cond.methodLink "PdfParityDeskModel" (21 : Nat) ({ cls := "PdfParityDeskModel", name := "plain", desc := "(I)I" } : Jvm.MethodName)) ∈ lw_all := lw_g (lw_at lw_m2 174 rfl) rfl
theorem q416 : (Jvm.Cond.static ({ cls := "PdfParityDeskModel", name := "plain", desc := "(I)I" } : Jvm.MethodName)) ∈ lw_all := lw_g (lw_at lw_m2 175 rfl) rfl
theorem q417 : (Jvm.Cond.code ({ cls := "PdfParityDeskModel", name := "plain", desc := "(I)I" } : Jvm.MethodName) prog_4_method_2_code (1 : Nat) (Option.some Jvm.ClassFile.FieldType.int)) ∈ lw_all := lw_g (lw_at lw_m2 176 rfl) rfl
theorem q418 : (Jvm.Cond.constant "PdfParityDeskModel" (20 : Nat) (2147483647 : Int32)) ∈ lw_all := lw_g (lw_at lw_m2 177 rfl) rfl
theorem q420 : (Jvm.Cond.instanceMethod ({ cls := "PdfParityDeskModel", name := "drop", desc := "(I)V" } : Jvm.MethodName)) ∈ lw_all := lw_g (lw_at lw_m2 179 rfl) rfl
theorem q421 : (Jvm.Cond.selects "PdfParityDeskModel" ({ cls := "PdfParityDeskModel", name := "drop", desc := "(I)V" } : Jvm.MethodName) ({ cls := "PdfParityDeskModel", name := "drop", desc := "(I)V" } : Jvm.MethodName)) ∈ lw_all := lw_g (lw_at lw_m2 180 rfl) rfl
theorem q422 : (Jvm.Cond.code ({ cls := "PdfParityDeskModel", name := "drop", desc := "(I)V" } : Jvm.MethodName) prog_4_method_4_code (2 : Nat) (Option.none : Option Jvm.ClassFile.FieldType)) ∈ lw_all := lw_g (lw_at lw_m2 181 rfl) rfl
theorem q424 : (Jvm.Cond.instanceMethod ({ cls := "PdfParityDeskModel", name := "count", desc := "(I)I" } : Jvm.MethodName)) ∈ lw_all := lw_g (lw_at lw_m2 183 rfl) rfl
theorem q425 : (Jvm.Cond.selects "PdfParityDeskModel" ({ cls := "PdfParityDeskModel", name := "count", desc := "(I)I" } : Jvm.MethodName) ({ cls := "PdfParityDeskModel", name := "count", desc := "(I)I" } : Jvm.MethodName)) ∈ lw_all := lw_g (lw_at lw_m2 184 rfl) rfl
theorem q426 : (Jvm.Cond.code ({ cls := "PdfParityDeskModel", name := "count", desc := "(I)I" } : Jvm.MethodName) prog_4_method_5_code (4 : Nat) (Option.some Jvm.ClassFile.FieldType.int)) ∈ lw_all := lw_g (lw_at lw_m2 185 rfl) rfl
theorem q428 : (Jvm.Cond.instanceMethod ({ cls := "PdfParityDeskModel", name := "make", desc := "(I)I" } : Jvm.MethodName)) ∈ lw_all := lw_g (lw_at lw_m2 187 rfl) rfl
theorem q429 : (Jvm.Cond.selects "PdfParityDeskModel" ({ cls := "PdfParityDeskModel", name := "make", desc := "(I)I" } : Jvm.MethodName) ({ cls := "PdfParityDeskModel", name := "make", desc := "(I)I" } : Jvm.MethodName)) ∈ lw_all := lw_g (lw_at lw_m2 188 rfl) rfl
theorem q430 : (Jvm.Cond.code ({ cls := "PdfParityDeskModel", name := "make", desc := "(I)I" } : Jvm.MethodName) prog_4_method_7_code (9 : Nat) (Option.some Jvm.ClassFile.FieldType.int)) ∈ lw_all := lw_g (lw_at lw_m2 189 rfl) rfl
theorem q431 : (Jvm.Cond.methodLink "PdfParityDeskModel" (25 : Nat) ({ cls := "PdfParityDeskModel", name := "count", desc := "(I)I" } : Jvm.MethodName)) ∈ lw_all := lw_g (lw_at lw_m2 190 rfl) rfl
theorem q432 : (Jvm.Cond.methodLink "PdfParityDeskModel" (28 : Nat) ({ cls := "PdfParityDeskModel", name := "generator", desc := "(I)[I" } : Jvm.MethodName)) ∈ lw_all := lw_g (lw_at lw_m2 191 rfl) rfl
theorem q433 : (Jvm.Cond.static ({ cls := "PdfParityDeskModel", name := "generator", desc := "(I)[I" } : Jvm.MethodName)) ∈ lw_all := lw_g (lw_at lw_m2 192 rfl) rfl
theorem q434 : (Jvm.Cond.code ({ cls := "PdfParityDeskModel", name := "generator", desc := "(I)[I" } : Jvm.MethodName) prog_4_method_6_code (6 : Nat) (Option.some (Jvm.ClassFile.FieldType.array Jvm.ClassFile.FieldType.int))) ∈ lw_all := lw_g (lw_at lw_m2 193 rfl) rfl
theorem q436 : (Jvm.Cond.instanceMethod ({ cls := "PdfParityDeskModel", name := "told", desc := "(I)I" } : Jvm.MethodName)) ∈ lw_all := lw_g (lw_at lw_m2 195 rfl) rfl
theorem q437 : (Jvm.Cond.selects "PdfParityDeskModel" ({ cls := "PdfParityDeskModel", name := "told", desc := "(I)I" } : Jvm.MethodName) ({ cls := "PdfParityDeskModel", name := "told", desc := "(I)I" } : Jvm.MethodName)) ∈ lw_all := lw_g (lw_at lw_m2 196 rfl) rfl
theorem q438 : (Jvm.Cond.code ({ cls := "PdfParityDeskModel", name := "told", desc := "(I)I" } : Jvm.MethodName) prog_4_method_8_code (2 : Nat) (Option.some Jvm.ClassFile.FieldType.int)) ∈ lw_all := lw_g (lw_at lw_m2 197 rfl) rfl
theorem in_X1 : ∀ w ∈ wsX10, w ∈ lw_all := lw_in wsX10 [403, 405, 407] (by decide +kernel) (by decide +kernel)
/-! PDF417ErrorCorrection -/
set_option maxRecDepth 100000
def RX2 : String := "PDF417ErrorCorrection"
abbrev cX2_generateErrorCorrection : ByteArray := prog_1_method_2_code
def yX2_generateErrorCorrection : MethodName := ⟨RX2, "generateErrorCorrection", "(Ljava/lang/CharSequence;I)Ljava/lang/String;"⟩
def dkwX2_generateErrorCorrection_8 : List UInt8 := [25, 5, 45, 21, 6, 52, 182, 0, 34, 87, 132, 6, 255, 167, 255, 218, 25, 5, 182, 0, 38, 176]
abbrev dktX2_generateErrorCorrection_8 : List UInt8 := dkwX2_generateErrorCorrection_8 ++ []
def dkwX2_generateErrorCorrection_7 : List UInt8 := [155, 0, 39, 45, 21, 6, 52, 153, 0, 16, 45, 21, 6, 17, 3, 161, 45, 21, 6, 52, 100, 146, 85]
abbrev dktX2_generateErrorCorrection_7 : List UInt8 := dkwX2_generateErrorCorrection_7 ++ dktX2_generateErrorCorrection_8
def dkwX2_generateErrorCorrection_6 : List UInt8 := [85, 132, 5, 1, 167, 255, 131, 187, 0, 29, 89, 28, 183, 0, 31, 58, 5, 28, 4, 100, 54, 6, 21, 6]
abbrev dktX2_generateErrorCorrection_6 : List UInt8 := dkwX2_generateErrorCorrection_6 ++ dktX2_generateErrorCorrection_7
def dkwX2_generateErrorCorrection_5 : List UInt8 := [104, 17, 3, 161, 112, 54, 7, 17, 3, 161, 21, 7, 100, 54, 8, 45, 3, 21, 8, 17, 3, 161, 112, 146]
abbrev dktX2_generateErrorCorrection_5 : List UInt8 := dkwX2_generateErrorCorrection_5 ++ dktX2_generateErrorCorrection_6
def dkwX2_generateErrorCorrection_4 : List UInt8 := [21, 8, 96, 17, 3, 161, 112, 146, 85, 132, 9, 255, 167, 255, 204, 21, 6, 178, 0, 25, 27, 50, 3, 46]
abbrev dktX2_generateErrorCorrection_4 : List UInt8 := dkwX2_generateErrorCorrection_4 ++ dktX2_generateErrorCorrection_5
def dkwX2_generateErrorCorrection_3 : List UInt8 := [17, 3, 161, 112, 54, 7, 17, 3, 161, 21, 7, 100, 54, 8, 45, 21, 9, 45, 21, 9, 4, 100, 52]
abbrev dktX2_generateErrorCorrection_3 : List UInt8 := dkwX2_generateErrorCorrection_3 ++ dktX2_generateErrorCorrection_4
def dkwX2_generateErrorCorrection_2 : List UInt8 := [28, 4, 100, 54, 9, 21, 9, 4, 161, 0, 52, 21, 6, 178, 0, 25, 27, 50, 21, 9, 46, 104]
abbrev dktX2_generateErrorCorrection_2 : List UInt8 := dkwX2_generateErrorCorrection_2 ++ dktX2_generateErrorCorrection_3
def dkwX2_generateErrorCorrection_1 : List UInt8 := [162, 0, 124, 42, 21, 5, 185, 0, 21, 2, 0, 45, 45, 190, 4, 100, 52, 96, 17, 3, 161, 112, 54, 6]
abbrev dktX2_generateErrorCorrection_1 : List UInt8 := dkwX2_generateErrorCorrection_1 ++ dktX2_generateErrorCorrection_2
def dkwX2_generateErrorCorrection_0 : List UInt8 := [27, 184, 0, 9, 61, 28, 188, 5, 78, 42, 185, 0, 15, 1, 0, 54, 4, 3, 54, 5, 21, 5, 21, 4]
abbrev dktX2_generateErrorCorrection_0 : List UInt8 := dkwX2_generateErrorCorrection_0 ++ dktX2_generateErrorCorrection_1
theorem dksX2_generateErrorCorrection_0 : cX2_generateErrorCorrection.data.toList.drop 0 = dktX2_generateErrorCorrection_0 := by decide +kernel
theorem dksX2_generateErrorCorrection_1 : cX2_generateErrorCorrection.data.toList.drop 24 = dktX2_generateErrorCorrection_1 := dk_seg dksX2_generateErrorCorrection_0 24 rfl rfl
theorem dksX2_generateErrorCorrection_2 : cX2_generateErrorCorrection.data.toList.drop 48 = dktX2_generateErrorCorrection_2 := dk_seg dksX2_generateErrorCorrection_1 24 rfl rfl
theorem dksX2_generateErrorCorrection_3 : cX2_generateErrorCorrection.data.toList.drop 70 = dktX2_generateErrorCorrection_3 := dk_seg dksX2_generateErrorCorrection_2 22 rfl rfl
theorem dksX2_generateErrorCorrection_4 : cX2_generateErrorCorrection.data.toList.drop 93 = dktX2_generateErrorCorrection_4 := dk_seg dksX2_generateErrorCorrection_3 23 rfl rfl
theorem dksX2_generateErrorCorrection_5 : cX2_generateErrorCorrection.data.toList.drop 117 = dktX2_generateErrorCorrection_5 := dk_seg dksX2_generateErrorCorrection_4 24 rfl rfl
theorem dksX2_generateErrorCorrection_6 : cX2_generateErrorCorrection.data.toList.drop 141 = dktX2_generateErrorCorrection_6 := dk_seg dksX2_generateErrorCorrection_5 24 rfl rfl
theorem dksX2_generateErrorCorrection_7 : cX2_generateErrorCorrection.data.toList.drop 165 = dktX2_generateErrorCorrection_7 := dk_seg dksX2_generateErrorCorrection_6 24 rfl rfl
theorem dksX2_generateErrorCorrection_8 : cX2_generateErrorCorrection.data.toList.drop 188 = dktX2_generateErrorCorrection_8 := dk_seg dksX2_generateErrorCorrection_7 23 rfl rfl
theorem dX2_generateErrorCorrection_0 : decode cX2_generateErrorCorrection 0 = .ok (.iload_n 1, 1) := dk_27 (dk_at dksX2_generateErrorCorrection_0 0 rfl rfl)
theorem dX2_generateErrorCorrection_1 : decode cX2_generateErrorCorrection 1 = .ok (.invokestatic 9, 3) := dk_184 0 9 (dk_at dksX2_generateErrorCorrection_0 1 rfl rfl)
theorem dX2_generateErrorCorrection_4 : decode cX2_generateErrorCorrection 4 = .ok (.istore_n 2, 1) := dk_61 (dk_at dksX2_generateErrorCorrection_0 4 rfl rfl)
theorem dX2_generateErrorCorrection_5 : decode cX2_generateErrorCorrection 5 = .ok (.iload_n 2, 1) := dk_28 (dk_at dksX2_generateErrorCorrection_0 5 rfl rfl)
theorem dX2_generateErrorCorrection_6 : decode cX2_generateErrorCorrection 6 = .ok (.newarray .char, 2) := dk_188_5 (dk_at dksX2_generateErrorCorrection_0 6 rfl rfl)
theorem dX2_generateErrorCorrection_8 : decode cX2_generateErrorCorrection 8 = .ok (.astore_n 3, 1) := dk_78 (dk_at dksX2_generateErrorCorrection_0 8 rfl rfl)
theorem dX2_generateErrorCorrection_9 : decode cX2_generateErrorCorrection 9 = .ok (.aload_n 0, 1) := dk_42 (dk_at dksX2_generateErrorCorrection_0 9 rfl rfl)
theorem dX2_generateErrorCorrection_10 : decode cX2_generateErrorCorrection 10 = .ok (.invokeinterface 15 1, 5) := by decide +kernel
theorem dX2_generateErrorCorrection_15 : decode cX2_generateErrorCorrection 15 = .ok (.istore 4, 2) := dk_54 4 (dk_at dksX2_generateErrorCorrection_0 15 rfl rfl)
theorem dX2_generateErrorCorrection_17 : decode cX2_generateErrorCorrection 17 = .ok (.iconst 0, 1) := dk_3 (dk_at dksX2_generateErrorCorrection_0 17 rfl rfl)
theorem dX2_generateErrorCorrection_18 : decode cX2_generateErrorCorrection 18 = .ok (.istore 5, 2) := dk_54 5 (dk_at dksX2_generateErrorCorrection_0 18 rfl rfl)
theorem dX2_generateErrorCorrection_20 : decode cX2_generateErrorCorrection 20 = .ok (.iload 5, 2) := dk_21 5 (dk_at dksX2_generateErrorCorrection_0 20 rfl rfl)
theorem dX2_generateErrorCorrection_22 : decode cX2_generateErrorCorrection 22 = .ok (.iload 4, 2) := dk_21 4 (dk_at dksX2_generateErrorCorrection_0 22 rfl rfl)
theorem dX2_generateErrorCorrection_24 : decode cX2_generateErrorCorrection 24 = .ok (.if_icmp .ge 124, 3) := dk_162 0 124 (dk_at dksX2_generateErrorCorrection_1 0 rfl rfl)
theorem dX2_generateErrorCorrection_27 : decode cX2_generateErrorCorrection 27 = .ok (.aload_n 0, 1) := dk_42 (dk_at dksX2_generateErrorCorrection_1 3 rfl rfl)
theorem dX2_generateErrorCorrection_28 : decode cX2_generateErrorCorrection 28 = .ok (.iload 5, 2) := dk_21 5 (dk_at dksX2_generateErrorCorrection_1 4 rfl rfl)
theorem dX2_generateErrorCorrection_30 : decode cX2_generateErrorCorrection 30 = .ok (.invokeinterface 21 2, 5) := by decide +kernel
theorem dX2_generateErrorCorrection_35 : decode cX2_generateErrorCorrection 35 = .ok (.aload_n 3, 1) := dk_45 (dk_at dksX2_generateErrorCorrection_1 11 rfl rfl)
theorem dX2_generateErrorCorrection_36 : decode cX2_generateErrorCorrection 36 = .ok (.aload_n 3, 1) := dk_45 (dk_at dksX2_generateErrorCorrection_1 12 rfl rfl)
theorem dX2_generateErrorCorrection_37 : decode cX2_generateErrorCorrection 37 = .ok (.arraylength, 1) := dk_190 (dk_at dksX2_generateErrorCorrection_1 13 rfl rfl)
theorem dX2_generateErrorCorrection_38 : decode cX2_generateErrorCorrection 38 = .ok (.iconst 1, 1) := dk_4 (dk_at dksX2_generateErrorCorrection_1 14 rfl rfl)
theorem dX2_generateErrorCorrection_39 : decode cX2_generateErrorCorrection 39 = .ok (.isub, 1) := dk_100 (dk_at dksX2_generateErrorCorrection_1 15 rfl rfl)
theorem dX2_generateErrorCorrection_40 : decode cX2_generateErrorCorrection 40 = .ok (.caload, 1) := dk_52 (dk_at dksX2_generateErrorCorrection_1 16 rfl rfl)
theorem dX2_generateErrorCorrection_41 : decode cX2_generateErrorCorrection 41 = .ok (.iadd, 1) := dk_96 (dk_at dksX2_generateErrorCorrection_1 17 rfl rfl)
theorem dX2_generateErrorCorrection_42 : decode cX2_generateErrorCorrection 42 = .ok (.sipush 929, 3) := dk_17 3 161 (dk_at dksX2_generateErrorCorrection_1 18 rfl rfl)
theorem dX2_generateErrorCorrection_45 : decode cX2_generateErrorCorrection 45 = .ok (.irem, 1) := dk_112 (dk_at dksX2_generateErrorCorrection_1 21 rfl rfl)
theorem dX2_generateErrorCorrection_46 : decode cX2_generateErrorCorrection 46 = .ok (.istore 6, 2) := dk_54 6 (dk_at dksX2_generateErrorCorrection_1 22 rfl rfl)
theorem dX2_generateErrorCorrection_48 : decode cX2_generateErrorCorrection 48 = .ok (.iload_n 2, 1) := dk_28 (dk_at dksX2_generateErrorCorrection_2 0 rfl rfl)
theorem dX2_generateErrorCorrection_49 : decode cX2_generateErrorCorrection 49 = .ok (.iconst 1, 1) := dk_4 (dk_at dksX2_generateErrorCorrection_2 1 rfl rfl)
theorem dX2_generateErrorCorrection_50 : decode cX2_generateErrorCorrection 50 = .ok (.isub, 1) := dk_100 (dk_at dksX2_generateErrorCorrection_2 2 rfl rfl)
theorem dX2_generateErrorCorrection_51 : decode cX2_generateErrorCorrection 51 = .ok (.istore 9, 2) := dk_54 9 (dk_at dksX2_generateErrorCorrection_2 3 rfl rfl)
theorem dX2_generateErrorCorrection_53 : decode cX2_generateErrorCorrection 53 = .ok (.iload 9, 2) := dk_21 9 (dk_at dksX2_generateErrorCorrection_2 5 rfl rfl)
theorem dX2_generateErrorCorrection_55 : decode cX2_generateErrorCorrection 55 = .ok (.iconst 1, 1) := dk_4 (dk_at dksX2_generateErrorCorrection_2 7 rfl rfl)
theorem dX2_generateErrorCorrection_56 : decode cX2_generateErrorCorrection 56 = .ok (.if_icmp .lt 52, 3) := dk_161 0 52 (dk_at dksX2_generateErrorCorrection_2 8 rfl rfl)
theorem dX2_generateErrorCorrection_59 : decode cX2_generateErrorCorrection 59 = .ok (.iload 6, 2) := dk_21 6 (dk_at dksX2_generateErrorCorrection_2 11 rfl rfl)
theorem dX2_generateErrorCorrection_61 : decode cX2_generateErrorCorrection 61 = .ok (.getstatic 25, 3) := dk_178 0 25 (dk_at dksX2_generateErrorCorrection_2 13 rfl rfl)
theorem dX2_generateErrorCorrection_64 : decode cX2_generateErrorCorrection 64 = .ok (.iload_n 1, 1) := dk_27 (dk_at dksX2_generateErrorCorrection_2 16 rfl rfl)
theorem dX2_generateErrorCorrection_65 : decode cX2_generateErrorCorrection 65 = .ok (.aaload, 1) := dk_50 (dk_at dksX2_generateErrorCorrection_2 17 rfl rfl)
theorem dX2_generateErrorCorrection_66 : decode cX2_generateErrorCorrection 66 = .ok (.iload 9, 2) := dk_21 9 (dk_at dksX2_generateErrorCorrection_2 18 rfl rfl)
theorem dX2_generateErrorCorrection_68 : decode cX2_generateErrorCorrection 68 = .ok (.iaload, 1) := dk_46 (dk_at dksX2_generateErrorCorrection_2 20 rfl rfl)
theorem dX2_generateErrorCorrection_69 : decode cX2_generateErrorCorrection 69 = .ok (.imul, 1) := dk_104 (dk_at dksX2_generateErrorCorrection_2 21 rfl rfl)
theorem dX2_generateErrorCorrection_70 : decode cX2_generateErrorCorrection 70 = .ok (.sipush 929, 3) := dk_17 3 161 (dk_at dksX2_generateErrorCorrection_3 0 rfl rfl)
theorem dX2_generateErrorCorrection_73 : decode cX2_generateErrorCorrection 73 = .ok (.irem, 1) := dk_112 (dk_at dksX2_generateErrorCorrection_3 3 rfl rfl)
theorem dX2_generateErrorCorrection_74 : decode cX2_generateErrorCorrection 74 = .ok (.istore 7, 2) := dk_54 7 (dk_at dksX2_generateErrorCorrection_3 4 rfl rfl)
theorem dX2_generateErrorCorrection_76 : decode cX2_generateErrorCorrection 76 = .ok (.sipush 929, 3) := dk_17 3 161 (dk_at dksX2_generateErrorCorrection_3 6 rfl rfl)
theorem dX2_generateErrorCorrection_79 : decode cX2_generateErrorCorrection 79 = .ok (.iload 7, 2) := dk_21 7 (dk_at dksX2_generateErrorCorrection_3 9 rfl rfl)
theorem dX2_generateErrorCorrection_81 : decode cX2_generateErrorCorrection 81 = .ok (.isub, 1) := dk_100 (dk_at dksX2_generateErrorCorrection_3 11 rfl rfl)
theorem dX2_generateErrorCorrection_82 : decode cX2_generateErrorCorrection 82 = .ok (.istore 8, 2) := dk_54 8 (dk_at dksX2_generateErrorCorrection_3 12 rfl rfl)
theorem dX2_generateErrorCorrection_84 : decode cX2_generateErrorCorrection 84 = .ok (.aload_n 3, 1) := dk_45 (dk_at dksX2_generateErrorCorrection_3 14 rfl rfl)
theorem dX2_generateErrorCorrection_85 : decode cX2_generateErrorCorrection 85 = .ok (.iload 9, 2) := dk_21 9 (dk_at dksX2_generateErrorCorrection_3 15 rfl rfl)
theorem dX2_generateErrorCorrection_87 : decode cX2_generateErrorCorrection 87 = .ok (.aload_n 3, 1) := dk_45 (dk_at dksX2_generateErrorCorrection_3 17 rfl rfl)
theorem dX2_generateErrorCorrection_88 : decode cX2_generateErrorCorrection 88 = .ok (.iload 9, 2) := dk_21 9 (dk_at dksX2_generateErrorCorrection_3 18 rfl rfl)
theorem dX2_generateErrorCorrection_90 : decode cX2_generateErrorCorrection 90 = .ok (.iconst 1, 1) := dk_4 (dk_at dksX2_generateErrorCorrection_3 20 rfl rfl)
theorem dX2_generateErrorCorrection_91 : decode cX2_generateErrorCorrection 91 = .ok (.isub, 1) := dk_100 (dk_at dksX2_generateErrorCorrection_3 21 rfl rfl)
theorem dX2_generateErrorCorrection_92 : decode cX2_generateErrorCorrection 92 = .ok (.caload, 1) := dk_52 (dk_at dksX2_generateErrorCorrection_3 22 rfl rfl)
theorem dX2_generateErrorCorrection_93 : decode cX2_generateErrorCorrection 93 = .ok (.iload 8, 2) := dk_21 8 (dk_at dksX2_generateErrorCorrection_4 0 rfl rfl)
theorem dX2_generateErrorCorrection_95 : decode cX2_generateErrorCorrection 95 = .ok (.iadd, 1) := dk_96 (dk_at dksX2_generateErrorCorrection_4 2 rfl rfl)
theorem dX2_generateErrorCorrection_96 : decode cX2_generateErrorCorrection 96 = .ok (.sipush 929, 3) := dk_17 3 161 (dk_at dksX2_generateErrorCorrection_4 3 rfl rfl)
theorem dX2_generateErrorCorrection_99 : decode cX2_generateErrorCorrection 99 = .ok (.irem, 1) := dk_112 (dk_at dksX2_generateErrorCorrection_4 6 rfl rfl)
theorem dX2_generateErrorCorrection_100 : decode cX2_generateErrorCorrection 100 = .ok (.i2c, 1) := dk_146 (dk_at dksX2_generateErrorCorrection_4 7 rfl rfl)
theorem dX2_generateErrorCorrection_101 : decode cX2_generateErrorCorrection 101 = .ok (.castore, 1) := dk_85 (dk_at dksX2_generateErrorCorrection_4 8 rfl rfl)
theorem dX2_generateErrorCorrection_102 : decode cX2_generateErrorCorrection 102 = .ok (.iinc 9 (-1), 3) := dk_132 9 255 (dk_at dksX2_generateErrorCorrection_4 9 rfl rfl)
theorem dX2_generateErrorCorrection_105 : decode cX2_generateErrorCorrection 105 = .ok (.goto (-52), 3) := dk_167 255 204 (dk_at dksX2_generateErrorCorrection_4 12 rfl rfl)
theorem dX2_generateErrorCorrection_108 : decode cX2_generateErrorCorrection 108 = .ok (.iload 6, 2) := dk_21 6 (dk_at dksX2_generateErrorCorrection_4 15 rfl rfl)
theorem dX2_generateErrorCorrection_110 : decode cX2_generateErrorCorrection 110 = .ok (.getstatic 25, 3) := dk_178 0 25 (dk_at dksX2_generateErrorCorrection_4 17 rfl rfl)
theorem dX2_generateErrorCorrection_113 : decode cX2_generateErrorCorrection 113 = .ok (.iload_n 1, 1) := dk_27 (dk_at dksX2_generateErrorCorrection_4 20 rfl rfl)
theorem dX2_generateErrorCorrection_114 : decode cX2_generateErrorCorrection 114 = .ok (.aaload, 1) := dk_50 (dk_at dksX2_generateErrorCorrection_4 21 rfl rfl)
theorem dX2_generateErrorCorrection_115 : decode cX2_generateErrorCorrection 115 = .ok (.iconst 0, 1) := dk_3 (dk_at dksX2_generateErrorCorrection_4 22 rfl rfl)
theorem dX2_generateErrorCorrection_116 : decode cX2_generateErrorCorrection 116 = .ok (.iaload, 1) := dk_46 (dk_at dksX2_generateErrorCorrection_4 23 rfl rfl)
theorem dX2_generateErrorCorrection_117 : decode cX2_generateErrorCorrection 117 = .ok (.imul, 1) := dk_104 (dk_at dksX2_generateErrorCorrection_5 0 rfl rfl)
theorem dX2_generateErrorCorrection_118 : decode cX2_generateErrorCorrection 118 = .ok (.sipush 929, 3) := dk_17 3 161 (dk_at dksX2_generateErrorCorrection_5 1 rfl rfl)
theorem dX2_generateErrorCorrection_121 : decode cX2_generateErrorCorrection 121 = .ok (.irem, 1) := dk_112 (dk_at dksX2_generateErrorCorrection_5 4 rfl rfl)
theorem dX2_generateErrorCorrection_122 : decode cX2_generateErrorCorrection 122 = .ok (.istore 7, 2) := dk_54 7 (dk_at dksX2_generateErrorCorrection_5 5 rfl rfl)
theorem dX2_generateErrorCorrection_124 : decode cX2_generateErrorCorrection 124 = .ok (.sipush 929, 3) := dk_17 3 161 (dk_at dksX2_generateErrorCorrection_5 7 rfl rfl)
theorem dX2_generateErrorCorrection_127 : decode cX2_generateErrorCorrection 127 = .ok (.iload 7, 2) := dk_21 7 (dk_at dksX2_generateErrorCorrection_5 10 rfl rfl)
theorem dX2_generateErrorCorrection_129 : decode cX2_generateErrorCorrection 129 = .ok (.isub, 1) := dk_100 (dk_at dksX2_generateErrorCorrection_5 12 rfl rfl)
theorem dX2_generateErrorCorrection_130 : decode cX2_generateErrorCorrection 130 = .ok (.istore 8, 2) := dk_54 8 (dk_at dksX2_generateErrorCorrection_5 13 rfl rfl)
theorem dX2_generateErrorCorrection_132 : decode cX2_generateErrorCorrection 132 = .ok (.aload_n 3, 1) := dk_45 (dk_at dksX2_generateErrorCorrection_5 15 rfl rfl)
theorem dX2_generateErrorCorrection_133 : decode cX2_generateErrorCorrection 133 = .ok (.iconst 0, 1) := dk_3 (dk_at dksX2_generateErrorCorrection_5 16 rfl rfl)
theorem dX2_generateErrorCorrection_134 : decode cX2_generateErrorCorrection 134 = .ok (.iload 8, 2) := dk_21 8 (dk_at dksX2_generateErrorCorrection_5 17 rfl rfl)
theorem dX2_generateErrorCorrection_136 : decode cX2_generateErrorCorrection 136 = .ok (.sipush 929, 3) := dk_17 3 161 (dk_at dksX2_generateErrorCorrection_5 19 rfl rfl)
theorem dX2_generateErrorCorrection_139 : decode cX2_generateErrorCorrection 139 = .ok (.irem, 1) := dk_112 (dk_at dksX2_generateErrorCorrection_5 22 rfl rfl)
theorem dX2_generateErrorCorrection_140 : decode cX2_generateErrorCorrection 140 = .ok (.i2c, 1) := dk_146 (dk_at dksX2_generateErrorCorrection_5 23 rfl rfl)
theorem dX2_generateErrorCorrection_141 : decode cX2_generateErrorCorrection 141 = .ok (.castore, 1) := dk_85 (dk_at dksX2_generateErrorCorrection_6 0 rfl rfl)
theorem dX2_generateErrorCorrection_142 : decode cX2_generateErrorCorrection 142 = .ok (.iinc 5 1, 3) := dk_132 5 1 (dk_at dksX2_generateErrorCorrection_6 1 rfl rfl)
theorem dX2_generateErrorCorrection_145 : decode cX2_generateErrorCorrection 145 = .ok (.goto (-125), 3) := dk_167 255 131 (dk_at dksX2_generateErrorCorrection_6 4 rfl rfl)
theorem dX2_generateErrorCorrection_148 : decode cX2_generateErrorCorrection 148 = .ok (.new 29, 3) := dk_187 0 29 (dk_at dksX2_generateErrorCorrection_6 7 rfl rfl)
theorem dX2_generateErrorCorrection_151 : decode cX2_generateErrorCorrection 151 = .ok (.dup, 1) := dk_89 (dk_at dksX2_generateErrorCorrection_6 10 rfl rfl)
theorem dX2_generateErrorCorrection_152 : decode cX2_generateErrorCorrection 152 = .ok (.iload_n 2, 1) := dk_28 (dk_at dksX2_generateErrorCorrection_6 11 rfl rfl)
theorem dX2_generateErrorCorrection_153 : decode cX2_generateErrorCorrection 153 = .ok (.invokespecial 31, 3) := dk_183 0 31 (dk_at dksX2_generateErrorCorrection_6 12 rfl rfl)
theorem dX2_generateErrorCorrection_156 : decode cX2_generateErrorCorrection 156 = .ok (.astore 5, 2) := dk_58 5 (dk_at dksX2_generateErrorCorrection_6 15 rfl rfl)
theorem dX2_generateErrorCorrection_158 : decode cX2_generateErrorCorrection 158 = .ok (.iload_n 2, 1) := dk_28 (dk_at dksX2_generateErrorCorrection_6 17 rfl rfl)
theorem dX2_generateErrorCorrection_159 : decode cX2_generateErrorCorrection 159 = .ok (.iconst 1, 1) := dk_4 (dk_at dksX2_generateErrorCorrection_6 18 rfl rfl)
theorem dX2_generateErrorCorrection_160 : decode cX2_generateErrorCorrection 160 = .ok (.isub, 1) := dk_100 (dk_at dksX2_generateErrorCorrection_6 19 rfl rfl)
theorem dX2_generateErrorCorrection_161 : decode cX2_generateErrorCorrection 161 = .ok (.istore 6, 2) := dk_54 6 (dk_at dksX2_generateErrorCorrection_6 20 rfl rfl)
theorem dX2_generateErrorCorrection_163 : decode cX2_generateErrorCorrection 163 = .ok (.iload 6, 2) := dk_21 6 (dk_at dksX2_generateErrorCorrection_6 22 rfl rfl)
theorem dX2_generateErrorCorrection_165 : decode cX2_generateErrorCorrection 165 = .ok (.ifCond .lt 39, 3) := dk_155 0 39 (dk_at dksX2_generateErrorCorrection_7 0 rfl rfl)
theorem dX2_generateErrorCorrection_168 : decode cX2_generateErrorCorrection 168 = .ok (.aload_n 3, 1) := dk_45 (dk_at dksX2_generateErrorCorrection_7 3 rfl rfl)
theorem dX2_generateErrorCorrection_169 : decode cX2_generateErrorCorrection 169 = .ok (.iload 6, 2) := dk_21 6 (dk_at dksX2_generateErrorCorrection_7 4 rfl rfl)
theorem dX2_generateErrorCorrection_171 : decode cX2_generateErrorCorrection 171 = .ok (.caload, 1) := dk_52 (dk_at dksX2_generateErrorCorrection_7 6 rfl rfl)
theorem dX2_generateErrorCorrection_172 : decode cX2_generateErrorCorrection 172 = .ok (.ifCond .eq 16, 3) := dk_153 0 16 (dk_at dksX2_generateErrorCorrection_7 7 rfl rfl)
theorem dX2_generateErrorCorrection_175 : decode cX2_generateErrorCorrection 175 = .ok (.aload_n 3, 1) := dk_45 (dk_at dksX2_generateErrorCorrection_7 10 rfl rfl)
theorem dX2_generateErrorCorrection_176 : decode cX2_generateErrorCorrection 176 = .ok (.iload 6, 2) := dk_21 6 (dk_at dksX2_generateErrorCorrection_7 11 rfl rfl)
theorem dX2_generateErrorCorrection_178 : decode cX2_generateErrorCorrection 178 = .ok (.sipush 929, 3) := dk_17 3 161 (dk_at dksX2_generateErrorCorrection_7 13 rfl rfl)
theorem dX2_generateErrorCorrection_181 : decode cX2_generateErrorCorrection 181 = .ok (.aload_n 3, 1) := dk_45 (dk_at dksX2_generateErrorCorrection_7 16 rfl rfl)
theorem dX2_generateErrorCorrection_182 : decode cX2_generateErrorCorrection 182 = .ok (.iload 6, 2) := dk_21 6 (dk_at dksX2_generateErrorCorrection_7 17 rfl rfl)
theorem dX2_generateErrorCorrection_184 : decode cX2_generateErrorCorrection 184 = .ok (.caload, 1) := dk_52 (dk_at dksX2_generateErrorCorrection_7 19 rfl rfl)
theorem dX2_generateErrorCorrection_185 : decode cX2_generateErrorCorrection 185 = .ok (.isub, 1) := dk_100 (dk_at dksX2_generateErrorCorrection_7 20 rfl rfl)
theorem dX2_generateErrorCorrection_186 : decode cX2_generateErrorCorrection 186 = .ok (.i2c, 1) := dk_146 (dk_at dksX2_generateErrorCorrection_7 21 rfl rfl)
theorem dX2_generateErrorCorrection_187 : decode cX2_generateErrorCorrection 187 = .ok (.castore, 1) := dk_85 (dk_at dksX2_generateErrorCorrection_7 22 rfl rfl)
theorem dX2_generateErrorCorrection_188 : decode cX2_generateErrorCorrection 188 = .ok (.aload 5, 2) := dk_25 5 (dk_at dksX2_generateErrorCorrection_8 0 rfl rfl)
theorem dX2_generateErrorCorrection_190 : decode cX2_generateErrorCorrection 190 = .ok (.aload_n 3, 1) := dk_45 (dk_at dksX2_generateErrorCorrection_8 2 rfl rfl)
theorem dX2_generateErrorCorrection_191 : decode cX2_generateErrorCorrection 191 = .ok (.iload 6, 2) := dk_21 6 (dk_at dksX2_generateErrorCorrection_8 3 rfl rfl)
theorem dX2_generateErrorCorrection_193 : decode cX2_generateErrorCorrection 193 = .ok (.caload, 1) := dk_52 (dk_at dksX2_generateErrorCorrection_8 5 rfl rfl)
theorem dX2_generateErrorCorrection_194 : decode cX2_generateErrorCorrection 194 = .ok (.invokevirtual 34, 3) := dk_182 0 34 (dk_at dksX2_generateErrorCorrection_8 6 rfl rfl)
theorem dX2_generateErrorCorrection_197 : decode cX2_generateErrorCorrection 197 = .ok (.pop, 1) := dk_87 (dk_at dksX2_generateErrorCorrection_8 9 rfl rfl)
theorem dX2_generateErrorCorrection_198 : decode cX2_generateErrorCorrection 198 = .ok (.iinc 6 (-1), 3) := dk_132 6 255 (dk_at dksX2_generateErrorCorrection_8 10 rfl rfl)
theorem dX2_generateErrorCorrection_201 : decode cX2_generateErrorCorrection 201 = .ok (.goto (-38), 3) := dk_167 255 218 (dk_at dksX2_generateErrorCorrection_8 13 rfl rfl)
theorem dX2_generateErrorCorrection_204 : decode cX2_generateErrorCorrection 204 = .ok (.aload 5, 2) := dk_25 5 (dk_at dksX2_generateErrorCorrection_8 16 rfl rfl)
theorem dX2_generateErrorCorrection_206 : decode cX2_generateErrorCorrection 206 = .ok (.invokevirtual 38, 3) := dk_182 0 38 (dk_at dksX2_generateErrorCorrection_8 18 rfl rfl)
theorem dX2_generateErrorCorrection_209 : decode cX2_generateErrorCorrection 209 = .ok (.areturn, 1) := dk_176 (dk_at dksX2_generateErrorCorrection_8 21 rfl rfl)
abbrev cX2_getErrorCorrectionCodewordCount : ByteArray := prog_1_method_1_code
def yX2_getErrorCorrectionCodewordCount : MethodName := ⟨RX2, "getErrorCorrectionCodewordCount", "(I)I"⟩
def dkwX2_getErrorCorrectionCodewordCount_1 : List UInt8 := [120, 172]
abbrev dktX2_getErrorCorrectionCodewordCount_1 : List UInt8 := dkwX2_getErrorCorrectionCodewordCount_1 ++ []
def dkwX2_getErrorCorrectionCodewordCount_0 : List UInt8 := [26, 155, 0, 9, 26, 16, 8, 164, 0, 13, 187, 0, 1, 89, 18, 3, 183, 0, 5, 191, 4, 26, 4, 96]
abbrev dktX2_getErrorCorrectionCodewordCount_0 : List UInt8 := dkwX2_getErrorCorrectionCodewordCount_0 ++ dktX2_getErrorCorrectionCodewordCount_1
theorem dksX2_getErrorCorrectionCodewordCount_0 : cX2_getErrorCorrectionCodewordCount.data.toList.drop 0 = dktX2_getErrorCorrectionCodewordCount_0 := by decide +kernel
theorem dksX2_getErrorCorrectionCodewordCount_1 : cX2_getErrorCorrectionCodewordCount.data.toList.drop 24 = dktX2_getErrorCorrectionCodewordCount_1 := dk_seg dksX2_getErrorCorrectionCodewordCount_0 24 rfl rfl
theorem dX2_getErrorCorrectionCodewordCount_0 : decode cX2_getErrorCorrectionCodewordCount 0 = .ok (.iload_n 0, 1) := dk_26 (dk_at dksX2_getErrorCorrectionCodewordCount_0 0 rfl rfl)
theorem dX2_getErrorCorrectionCodewordCount_1 : decode cX2_getErrorCorrectionCodewordCount 1 = .ok (.ifCond .lt 9, 3) := dk_155 0 9 (dk_at dksX2_getErrorCorrectionCodewordCount_0 1 rfl rfl)
theorem dX2_getErrorCorrectionCodewordCount_4 : decode cX2_getErrorCorrectionCodewordCount 4 = .ok (.iload_n 0, 1) := dk_26 (dk_at dksX2_getErrorCorrectionCodewordCount_0 4 rfl rfl)
theorem dX2_getErrorCorrectionCodewordCount_5 : decode cX2_getErrorCorrectionCodewordCount 5 = .ok (.bipush 8, 2) := dk_16 8 (dk_at dksX2_getErrorCorrectionCodewordCount_0 5 rfl rfl)
theorem dX2_getErrorCorrectionCodewordCount_7 : decode cX2_getErrorCorrectionCodewordCount 7 = .ok (.if_icmp .le 13, 3) := dk_164 0 13 (dk_at dksX2_getErrorCorrectionCodewordCount_0 7 rfl rfl)
theorem dX2_getErrorCorrectionCodewordCount_10 : decode cX2_getErrorCorrectionCodewordCount 10 = .ok (.new 1, 3) := dk_187 0 1 (dk_at dksX2_getErrorCorrectionCodewordCount_0 10 rfl rfl)
theorem dX2_getErrorCorrectionCodewordCount_13 : decode cX2_getErrorCorrectionCodewordCount 13 = .ok (.dup, 1) := dk_89 (dk_at dksX2_getErrorCorrectionCodewordCount_0 13 rfl rfl)
theorem dX2_getErrorCorrectionCodewordCount_14 : decode cX2_getErrorCorrectionCodewordCount 14 = .ok (.ldc 3, 2) := dk_18 3 (dk_at dksX2_getErrorCorrectionCodewordCount_0 14 rfl rfl)
theorem dX2_getErrorCorrectionCodewordCount_16 : decode cX2_getErrorCorrectionCodewordCount 16 = .ok (.invokespecial 5, 3) := dk_183 0 5 (dk_at dksX2_getErrorCorrectionCodewordCount_0 16 rfl rfl)
theorem dX2_getErrorCorrectionCodewordCount_19 : decode cX2_getErrorCorrectionCodewordCount 19 = .ok (.athrow, 1) := dk_191 (dk_at dksX2_getErrorCorrectionCodewordCount_0 19 rfl rfl)
theorem dX2_getErrorCorrectionCodewordCount_20 : decode cX2_getErrorCorrectionCodewordCount 20 = .ok (.iconst 1, 1) := dk_4 (dk_at dksX2_getErrorCorrectionCodewordCount_0 20 rfl rfl)
theorem dX2_getErrorCorrectionCodewordCount_21 : decode cX2_getErrorCorrectionCodewordCount 21 = .ok (.iload_n 0, 1) := dk_26 (dk_at dksX2_getErrorCorrectionCodewordCount_0 21 rfl rfl)
theorem dX2_getErrorCorrectionCodewordCount_22 : decode cX2_getErrorCorrectionCodewordCount 22 = .ok (.iconst 1, 1) := dk_4 (dk_at dksX2_getErrorCorrectionCodewordCount_0 22 rfl rfl)
theorem dX2_getErrorCorrectionCodewordCount_23 : decode cX2_getErrorCorrectionCodewordCount 23 = .ok (.iadd, 1) := dk_96 (dk_at dksX2_getErrorCorrectionCodewordCount_0 23 rfl rfl)
theorem dX2_getErrorCorrectionCodewordCount_24 : decode cX2_getErrorCorrectionCodewordCount 24 = .ok (.ishl, 1) := dk_120 (dk_at dksX2_getErrorCorrectionCodewordCount_1 0 rfl rfl)
theorem dX2_getErrorCorrectionCodewordCount_25 : decode cX2_getErrorCorrectionCodewordCount 25 = .ok (.ireturn, 1) := dk_172 (dk_at dksX2_getErrorCorrectionCodewordCount_1 1 rfl rfl)
theorem q7 : (Jvm.Cond.initialized "PDF417ErrorCorrection") ∈ lw_all := lw_g (lw_at lw_m1 6 rfl) rfl
theorem q130 : (Jvm.Cond.static ({ cls := "PDF417ErrorCorrection", name := "generateErrorCorrection", desc := "(Ljava/lang/CharSequence;I)Ljava/lang/String;" } : Jvm.MethodName)) ∈ lw_all := lw_g (lw_at lw_m1 129 rfl) rfl
theorem q131 : (Jvm.Cond.code ({ cls := "PDF417ErrorCorrection", name := "generateErrorCorrection", desc := "(Ljava/lang/CharSequence;I)Ljava/lang/String;" } : Jvm.MethodName) prog_1_method_2_code (10 : Nat) (Option.some (Jvm.ClassFile.FieldType.object "java/lang/String"))) ∈ lw_all := lw_g (lw_at lw_m1 130 rfl) rfl
theorem q132 : (Jvm.Cond.methodLink "PDF417ErrorCorrection" (9 : Nat) ({ cls := "PDF417ErrorCorrection", name := "getErrorCorrectionCodewordCount", desc := "(I)I" } : Jvm.MethodName)) ∈ lw_all := lw_g (lw_at lw_m1 131 rfl) rfl
theorem q133 : (Jvm.Cond.static ({ cls := "PDF417ErrorCorrection", name := "getErrorCorrectionCodewordCount", desc := "(I)I" } : Jvm.MethodName)) ∈ lw_all := lw_g (lw_at lw_m1 132 rfl) rfl
theorem q134 : (Jvm.Cond.code ({ cls := "PDF417ErrorCorrection", name := "getErrorCorrectionCodewordCount", desc := "(I)I" } : Jvm.MethodName) prog_1_method_1_code (1 : Nat) (Option.some Jvm.ClassFile.FieldType.int)) ∈ lw_all := lw_g (lw_at lw_m1 133 rfl) rfl
theorem q135 : (Jvm.Cond.classLink "PDF417ErrorCorrection" (1 : Nat) "java/lang/IllegalArgumentException") ∈ lw_all := lw_g (lw_at lw_m1 134 rfl) rfl
theorem q174 : (Jvm.Cond.stringRef "PDF417ErrorCorrection" (3 : Nat) "Error correction level must be between 0 and 8!") ∈ lw_tbl := lw_at lw_m1 173 rfl
theorem q175 : (Jvm.Cond.methodLink "PDF417ErrorCorrection" (5 : Nat) ({ cls := "java/lang/IllegalArgumentException", name := "<init>", desc := "(Ljava/lang/String;)V" } : Jvm.MethodName)) ∈ lw_all := lw_g (lw_at lw_m1 174 rfl) rfl
theorem q200 : (Jvm.Cond.interfaceEntry "PDF417ErrorCorrection" (15 : Nat)) ∈ lw_tbl := lw_at lw_m1 199 rfl
theorem q201 : (Jvm.Cond.methodLink "PDF417ErrorCorrection" (15 : Nat) ({ cls := "java/lang/CharSequence", name := "length", desc := "()I" } : Jvm.MethodName)) ∈ lw_all := lw_g (lw_at lw_m1 200 rfl) rfl
theorem q224 : (Jvm.Cond.interfaceEntry "PDF417ErrorCorrection" (21 : Nat)) ∈ lw_tbl := lw_at lw_m1 223 rfl
theorem q225 : (Jvm.Cond.methodLink "PDF417ErrorCorrection" (21 : Nat) ({ cls := "java/lang/CharSequence", name := "charAt", desc := "(I)C" } : Jvm.MethodName)) ∈ lw_all := lw_g (lw_at lw_m1 224 rfl) rfl
theorem q266 : (Jvm.Cond.fieldLink "PDF417ErrorCorrection" (25 : Nat) "PDF417ErrorCorrection" "EC_COEFFICIENTS" "[[I") ∈ lw_all := lw_g (lw_at lw_m2 25 rfl) rfl
theorem q267 : (Jvm.Cond.laysStatic "PDF417ErrorCorrection" "EC_COEFFICIENTS" "[[I") ∈ lw_tbl := lw_at lw_m2 26 rfl
theorem q268 : (Jvm.Cond.classLink "PDF417ErrorCorrection" (29 : Nat) "java/lang/StringBuilder") ∈ lw_all := lw_g (lw_at lw_m2 27 rfl) rfl
theorem q270 : (Jvm.Cond.methodLink "PDF417ErrorCorrection" (31 : Nat) ({ cls := "java/lang/StringBuilder", name := "<init>", desc := "(I)V" } : Jvm.MethodName)) ∈ lw_all := lw_g (lw_at lw_m2 29 rfl) rfl
theorem q291 : (Jvm.Cond.methodLink "PDF417ErrorCorrection" (34 : Nat) ({ cls := "java/lang/StringBuilder", name := "append", desc := "(C)Ljava/lang/StringBuilder;" } : Jvm.MethodName)) ∈ lw_all := lw_g (lw_at lw_m2 50 rfl) rfl
theorem q352 : (Jvm.Cond.methodLink "PDF417ErrorCorrection" (38 : Nat) ({ cls := "java/lang/StringBuilder", name := "toString", desc := "()Ljava/lang/String;" } : Jvm.MethodName)) ∈ lw_all := lw_g (lw_at lw_m2 111 rfl) rfl
/-! the law's own entry -/
set_option maxRecDepth 100000
abbrev cL_law : ByteArray := code
def dkwL_law_8 : List UInt8 := [159, 0, 5, 3, 172, 132, 3, 6, 167, 255, 80, 4, 172]
abbrev dktL_law_8 : List UInt8 := dkwL_law_8 ++ []
def dkwL_law_7 : List UInt8 := [159, 0, 28, 3, 172, 43, 42, 29, 4, 96, 46, 182, 0, 32, 44, 42, 29, 4, 96, 46, 182, 0, 35]
abbrev dktL_law_7 : List UInt8 := dkwL_law_7 ++ dktL_law_8
def dkwL_law_6 : List UInt8 := [159, 0, 51, 3, 172, 43, 42, 29, 4, 96, 46, 182, 0, 28, 44, 42, 29, 4, 96, 46, 182, 0, 31]
abbrev dktL_law_6 : List UInt8 := dkwL_law_6 ++ dktL_law_7
def dkwL_law_5 : List UInt8 := [182, 0, 22, 167, 0, 72, 43, 42, 29, 4, 96, 46, 182, 0, 23, 44, 42, 29, 4, 96, 46, 182, 0, 27]
abbrev dktL_law_5 : List UInt8 := dkwL_law_5 ++ dktL_law_6
def dkwL_law_4 : List UInt8 := [46, 182, 0, 17, 159, 0, 95, 3, 172, 43, 42, 29, 4, 96, 46, 182, 0, 18, 44, 42, 29, 4, 96, 46]
abbrev dktL_law_4 : List UInt8 := dkwL_law_4 ++ dktL_law_5
def dkwL_law_3 : List UInt8 := [43, 42, 29, 4, 96, 46, 42, 29, 5, 96, 46, 182, 0, 13, 44, 42, 29, 4, 96, 46, 42, 29, 5, 96]
abbrev dktL_law_3 : List UInt8 := dkwL_law_3 ++ dktL_law_4
def dkwL_law_2 : List UInt8 := [170, 0, 0, 0, 0, 0, 158, 0, 0, 0, 0, 0, 0, 0, 4, 0, 0, 0, 35, 0, 0, 0, 68, 0, 0, 0, 89, 0, 0, 0, 112, 0, 0, 0, 135]
abbrev dktL_law_2 : List UInt8 := dkwL_law_2 ++ dktL_law_3
def dkwL_law_1 : List UInt8 := [163, 0, 173, 42, 29, 46, 16, 7, 126]
abbrev dktL_law_1 : List UInt8 := dkwL_law_1 ++ dktL_law_2
def dkwL_law_0 : List UInt8 := [187, 0, 7, 89, 183, 0, 9, 76, 187, 0, 10, 89, 183, 0, 12, 77, 3, 62, 29, 42, 190, 16, 6, 100]
abbrev dktL_law_0 : List UInt8 := dkwL_law_0 ++ dktL_law_1
theorem dksL_law_0 : cL_law.data.toList.drop 0 = dktL_law_0 := by decide +kernel
theorem dksL_law_1 : cL_law.data.toList.drop 24 = dktL_law_1 := dk_seg dksL_law_0 24 rfl rfl
theorem dksL_law_2 : cL_law.data.toList.drop 33 = dktL_law_2 := dk_seg dksL_law_1 9 rfl rfl
theorem dksL_law_3 : cL_law.data.toList.drop 68 = dktL_law_3 := dk_seg dksL_law_2 35 rfl rfl
theorem dksL_law_4 : cL_law.data.toList.drop 92 = dktL_law_4 := dk_seg dksL_law_3 24 rfl rfl
theorem dksL_law_5 : cL_law.data.toList.drop 116 = dktL_law_5 := dk_seg dksL_law_4 24 rfl rfl
theorem dksL_law_6 : cL_law.data.toList.drop 140 = dktL_law_6 := dk_seg dksL_law_5 24 rfl rfl
theorem dksL_law_7 : cL_law.data.toList.drop 163 = dktL_law_7 := dk_seg dksL_law_6 23 rfl rfl
theorem dksL_law_8 : cL_law.data.toList.drop 186 = dktL_law_8 := dk_seg dksL_law_7 23 rfl rfl
theorem dL_law_0 : decode cL_law 0 = .ok (.new 7, 3) := dk_187 0 7 (dk_at dksL_law_0 0 rfl rfl)
theorem dL_law_3 : decode cL_law 3 = .ok (.dup, 1) := dk_89 (dk_at dksL_law_0 3 rfl rfl)
theorem dL_law_4 : decode cL_law 4 = .ok (.invokespecial 9, 3) := dk_183 0 9 (dk_at dksL_law_0 4 rfl rfl)
theorem dL_law_7 : decode cL_law 7 = .ok (.astore_n 1, 1) := dk_76 (dk_at dksL_law_0 7 rfl rfl)
theorem dL_law_8 : decode cL_law 8 = .ok (.new 10, 3) := dk_187 0 10 (dk_at dksL_law_0 8 rfl rfl)
theorem dL_law_11 : decode cL_law 11 = .ok (.dup, 1) := dk_89 (dk_at dksL_law_0 11 rfl rfl)
theorem dL_law_12 : decode cL_law 12 = .ok (.invokespecial 12, 3) := dk_183 0 12 (dk_at dksL_law_0 12 rfl rfl)
theorem dL_law_15 : decode cL_law 15 = .ok (.astore_n 2, 1) := dk_77 (dk_at dksL_law_0 15 rfl rfl)
theorem dL_law_16 : decode cL_law 16 = .ok (.iconst 0, 1) := dk_3 (dk_at dksL_law_0 16 rfl rfl)
theorem dL_law_17 : decode cL_law 17 = .ok (.istore_n 3, 1) := dk_62 (dk_at dksL_law_0 17 rfl rfl)
theorem dL_law_18 : decode cL_law 18 = .ok (.iload_n 3, 1) := dk_29 (dk_at dksL_law_0 18 rfl rfl)
theorem dL_law_19 : decode cL_law 19 = .ok (.aload_n 0, 1) := dk_42 (dk_at dksL_law_0 19 rfl rfl)
theorem dL_law_20 : decode cL_law 20 = .ok (.arraylength, 1) := dk_190 (dk_at dksL_law_0 20 rfl rfl)
theorem dL_law_21 : decode cL_law 21 = .ok (.bipush 6, 2) := dk_16 6 (dk_at dksL_law_0 21 rfl rfl)
theorem dL_law_23 : decode cL_law 23 = .ok (.isub, 1) := dk_100 (dk_at dksL_law_0 23 rfl rfl)
theorem dL_law_24 : decode cL_law 24 = .ok (.if_icmp .gt 173, 3) := dk_163 0 173 (dk_at dksL_law_1 0 rfl rfl)
theorem dL_law_27 : decode cL_law 27 = .ok (.aload_n 0, 1) := dk_42 (dk_at dksL_law_1 3 rfl rfl)
theorem dL_law_28 : decode cL_law 28 = .ok (.iload_n 3, 1) := dk_29 (dk_at dksL_law_1 4 rfl rfl)
theorem dL_law_29 : decode cL_law 29 = .ok (.iaload, 1) := dk_46 (dk_at dksL_law_1 5 rfl rfl)
theorem dL_law_30 : decode cL_law 30 = .ok (.bipush 7, 2) := dk_16 7 (dk_at dksL_law_1 6 rfl rfl)
theorem dL_law_32 : decode cL_law 32 = .ok (.iand, 1) := dk_126 (dk_at dksL_law_1 8 rfl rfl)
theorem dL_law_33 : decode cL_law 33 = .ok (.tableswitch 158 0 4 #[35, 68, 89, 112, 135], 35) := by decide +kernel
theorem dL_law_68 : decode cL_law 68 = .ok (.aload_n 1, 1) := dk_43 (dk_at dksL_law_3 0 rfl rfl)
theorem dL_law_69 : decode cL_law 69 = .ok (.aload_n 0, 1) := dk_42 (dk_at dksL_law_3 1 rfl rfl)
theorem dL_law_70 : decode cL_law 70 = .ok (.iload_n 3, 1) := dk_29 (dk_at dksL_law_3 2 rfl rfl)
theorem dL_law_71 : decode cL_law 71 = .ok (.iconst 1, 1) := dk_4 (dk_at dksL_law_3 3 rfl rfl)
theorem dL_law_72 : decode cL_law 72 = .ok (.iadd, 1) := dk_96 (dk_at dksL_law_3 4 rfl rfl)
theorem dL_law_73 : decode cL_law 73 = .ok (.iaload, 1) := dk_46 (dk_at dksL_law_3 5 rfl rfl)
theorem dL_law_74 : decode cL_law 74 = .ok (.aload_n 0, 1) := dk_42 (dk_at dksL_law_3 6 rfl rfl)
theorem dL_law_75 : decode cL_law 75 = .ok (.iload_n 3, 1) := dk_29 (dk_at dksL_law_3 7 rfl rfl)
theorem dL_law_76 : decode cL_law 76 = .ok (.iconst 2, 1) := dk_5 (dk_at dksL_law_3 8 rfl rfl)
theorem dL_law_77 : decode cL_law 77 = .ok (.iadd, 1) := dk_96 (dk_at dksL_law_3 9 rfl rfl)
theorem dL_law_78 : decode cL_law 78 = .ok (.iaload, 1) := dk_46 (dk_at dksL_law_3 10 rfl rfl)
theorem dL_law_79 : decode cL_law 79 = .ok (.invokevirtual 13, 3) := dk_182 0 13 (dk_at dksL_law_3 11 rfl rfl)
theorem dL_law_82 : decode cL_law 82 = .ok (.aload_n 2, 1) := dk_44 (dk_at dksL_law_3 14 rfl rfl)
theorem dL_law_83 : decode cL_law 83 = .ok (.aload_n 0, 1) := dk_42 (dk_at dksL_law_3 15 rfl rfl)
theorem dL_law_84 : decode cL_law 84 = .ok (.iload_n 3, 1) := dk_29 (dk_at dksL_law_3 16 rfl rfl)
theorem dL_law_85 : decode cL_law 85 = .ok (.iconst 1, 1) := dk_4 (dk_at dksL_law_3 17 rfl rfl)
theorem dL_law_86 : decode cL_law 86 = .ok (.iadd, 1) := dk_96 (dk_at dksL_law_3 18 rfl rfl)
theorem dL_law_87 : decode cL_law 87 = .ok (.iaload, 1) := dk_46 (dk_at dksL_law_3 19 rfl rfl)
theorem dL_law_88 : decode cL_law 88 = .ok (.aload_n 0, 1) := dk_42 (dk_at dksL_law_3 20 rfl rfl)
theorem dL_law_89 : decode cL_law 89 = .ok (.iload_n 3, 1) := dk_29 (dk_at dksL_law_3 21 rfl rfl)
theorem dL_law_90 : decode cL_law 90 = .ok (.iconst 2, 1) := dk_5 (dk_at dksL_law_3 22 rfl rfl)
theorem dL_law_91 : decode cL_law 91 = .ok (.iadd, 1) := dk_96 (dk_at dksL_law_3 23 rfl rfl)
theorem dL_law_92 : decode cL_law 92 = .ok (.iaload, 1) := dk_46 (dk_at dksL_law_4 0 rfl rfl)
theorem dL_law_93 : decode cL_law 93 = .ok (.invokevirtual 17, 3) := dk_182 0 17 (dk_at dksL_law_4 1 rfl rfl)
theorem dL_law_96 : decode cL_law 96 = .ok (.if_icmp .eq 95, 3) := dk_159 0 95 (dk_at dksL_law_4 4 rfl rfl)
theorem dL_law_99 : decode cL_law 99 = .ok (.iconst 0, 1) := dk_3 (dk_at dksL_law_4 7 rfl rfl)
theorem dL_law_100 : decode cL_law 100 = .ok (.ireturn, 1) := dk_172 (dk_at dksL_law_4 8 rfl rfl)
theorem dL_law_101 : decode cL_law 101 = .ok (.aload_n 1, 1) := dk_43 (dk_at dksL_law_4 9 rfl rfl)
theorem dL_law_102 : decode cL_law 102 = .ok (.aload_n 0, 1) := dk_42 (dk_at dksL_law_4 10 rfl rfl)
theorem dL_law_103 : decode cL_law 103 = .ok (.iload_n 3, 1) := dk_29 (dk_at dksL_law_4 11 rfl rfl)
theorem dL_law_104 : decode cL_law 104 = .ok (.iconst 1, 1) := dk_4 (dk_at dksL_law_4 12 rfl rfl)
theorem dL_law_105 : decode cL_law 105 = .ok (.iadd, 1) := dk_96 (dk_at dksL_law_4 13 rfl rfl)
theorem dL_law_106 : decode cL_law 106 = .ok (.iaload, 1) := dk_46 (dk_at dksL_law_4 14 rfl rfl)
theorem dL_law_107 : decode cL_law 107 = .ok (.invokevirtual 18, 3) := dk_182 0 18 (dk_at dksL_law_4 15 rfl rfl)
theorem dL_law_110 : decode cL_law 110 = .ok (.aload_n 2, 1) := dk_44 (dk_at dksL_law_4 18 rfl rfl)
theorem dL_law_111 : decode cL_law 111 = .ok (.aload_n 0, 1) := dk_42 (dk_at dksL_law_4 19 rfl rfl)
theorem dL_law_112 : decode cL_law 112 = .ok (.iload_n 3, 1) := dk_29 (dk_at dksL_law_4 20 rfl rfl)
theorem dL_law_113 : decode cL_law 113 = .ok (.iconst 1, 1) := dk_4 (dk_at dksL_law_4 21 rfl rfl)
theorem dL_law_114 : decode cL_law 114 = .ok (.iadd, 1) := dk_96 (dk_at dksL_law_4 22 rfl rfl)
theorem dL_law_115 : decode cL_law 115 = .ok (.iaload, 1) := dk_46 (dk_at dksL_law_4 23 rfl rfl)
theorem dL_law_116 : decode cL_law 116 = .ok (.invokevirtual 22, 3) := dk_182 0 22 (dk_at dksL_law_5 0 rfl rfl)
theorem dL_law_119 : decode cL_law 119 = .ok (.goto 72, 3) := dk_167 0 72 (dk_at dksL_law_5 3 rfl rfl)
theorem dL_law_122 : decode cL_law 122 = .ok (.aload_n 1, 1) := dk_43 (dk_at dksL_law_5 6 rfl rfl)
theorem dL_law_123 : decode cL_law 123 = .ok (.aload_n 0, 1) := dk_42 (dk_at dksL_law_5 7 rfl rfl)
theorem dL_law_124 : decode cL_law 124 = .ok (.iload_n 3, 1) := dk_29 (dk_at dksL_law_5 8 rfl rfl)
theorem dL_law_125 : decode cL_law 125 = .ok (.iconst 1, 1) := dk_4 (dk_at dksL_law_5 9 rfl rfl)
theorem dL_law_126 : decode cL_law 126 = .ok (.iadd, 1) := dk_96 (dk_at dksL_law_5 10 rfl rfl)
theorem dL_law_127 : decode cL_law 127 = .ok (.iaload, 1) := dk_46 (dk_at dksL_law_5 11 rfl rfl)
theorem dL_law_128 : decode cL_law 128 = .ok (.invokevirtual 23, 3) := dk_182 0 23 (dk_at dksL_law_5 12 rfl rfl)
theorem dL_law_131 : decode cL_law 131 = .ok (.aload_n 2, 1) := dk_44 (dk_at dksL_law_5 15 rfl rfl)
theorem dL_law_132 : decode cL_law 132 = .ok (.aload_n 0, 1) := dk_42 (dk_at dksL_law_5 16 rfl rfl)
theorem dL_law_133 : decode cL_law 133 = .ok (.iload_n 3, 1) := dk_29 (dk_at dksL_law_5 17 rfl rfl)
theorem dL_law_134 : decode cL_law 134 = .ok (.iconst 1, 1) := dk_4 (dk_at dksL_law_5 18 rfl rfl)
theorem dL_law_135 : decode cL_law 135 = .ok (.iadd, 1) := dk_96 (dk_at dksL_law_5 19 rfl rfl)
theorem dL_law_136 : decode cL_law 136 = .ok (.iaload, 1) := dk_46 (dk_at dksL_law_5 20 rfl rfl)
theorem dL_law_137 : decode cL_law 137 = .ok (.invokevirtual 27, 3) := dk_182 0 27 (dk_at dksL_law_5 21 rfl rfl)
theorem dL_law_140 : decode cL_law 140 = .ok (.if_icmp .eq 51, 3) := dk_159 0 51 (dk_at dksL_law_6 0 rfl rfl)
theorem dL_law_143 : decode cL_law 143 = .ok (.iconst 0, 1) := dk_3 (dk_at dksL_law_6 3 rfl rfl)
theorem dL_law_144 : decode cL_law 144 = .ok (.ireturn, 1) := dk_172 (dk_at dksL_law_6 4 rfl rfl)
theorem dL_law_145 : decode cL_law 145 = .ok (.aload_n 1, 1) := dk_43 (dk_at dksL_law_6 5 rfl rfl)
theorem dL_law_146 : decode cL_law 146 = .ok (.aload_n 0, 1) := dk_42 (dk_at dksL_law_6 6 rfl rfl)
theorem dL_law_147 : decode cL_law 147 = .ok (.iload_n 3, 1) := dk_29 (dk_at dksL_law_6 7 rfl rfl)
theorem dL_law_148 : decode cL_law 148 = .ok (.iconst 1, 1) := dk_4 (dk_at dksL_law_6 8 rfl rfl)
theorem dL_law_149 : decode cL_law 149 = .ok (.iadd, 1) := dk_96 (dk_at dksL_law_6 9 rfl rfl)
theorem dL_law_150 : decode cL_law 150 = .ok (.iaload, 1) := dk_46 (dk_at dksL_law_6 10 rfl rfl)
theorem dL_law_151 : decode cL_law 151 = .ok (.invokevirtual 28, 3) := dk_182 0 28 (dk_at dksL_law_6 11 rfl rfl)
theorem dL_law_154 : decode cL_law 154 = .ok (.aload_n 2, 1) := dk_44 (dk_at dksL_law_6 14 rfl rfl)
theorem dL_law_155 : decode cL_law 155 = .ok (.aload_n 0, 1) := dk_42 (dk_at dksL_law_6 15 rfl rfl)
theorem dL_law_156 : decode cL_law 156 = .ok (.iload_n 3, 1) := dk_29 (dk_at dksL_law_6 16 rfl rfl)
theorem dL_law_157 : decode cL_law 157 = .ok (.iconst 1, 1) := dk_4 (dk_at dksL_law_6 17 rfl rfl)
theorem dL_law_158 : decode cL_law 158 = .ok (.iadd, 1) := dk_96 (dk_at dksL_law_6 18 rfl rfl)
theorem dL_law_159 : decode cL_law 159 = .ok (.iaload, 1) := dk_46 (dk_at dksL_law_6 19 rfl rfl)
theorem dL_law_160 : decode cL_law 160 = .ok (.invokevirtual 31, 3) := dk_182 0 31 (dk_at dksL_law_6 20 rfl rfl)
theorem dL_law_163 : decode cL_law 163 = .ok (.if_icmp .eq 28, 3) := dk_159 0 28 (dk_at dksL_law_7 0 rfl rfl)
theorem dL_law_166 : decode cL_law 166 = .ok (.iconst 0, 1) := dk_3 (dk_at dksL_law_7 3 rfl rfl)
theorem dL_law_167 : decode cL_law 167 = .ok (.ireturn, 1) := dk_172 (dk_at dksL_law_7 4 rfl rfl)
theorem dL_law_168 : decode cL_law 168 = .ok (.aload_n 1, 1) := dk_43 (dk_at dksL_law_7 5 rfl rfl)
theorem dL_law_169 : decode cL_law 169 = .ok (.aload_n 0, 1) := dk_42 (dk_at dksL_law_7 6 rfl rfl)
theorem dL_law_170 : decode cL_law 170 = .ok (.iload_n 3, 1) := dk_29 (dk_at dksL_law_7 7 rfl rfl)
theorem dL_law_171 : decode cL_law 171 = .ok (.iconst 1, 1) := dk_4 (dk_at dksL_law_7 8 rfl rfl)
theorem dL_law_172 : decode cL_law 172 = .ok (.iadd, 1) := dk_96 (dk_at dksL_law_7 9 rfl rfl)
theorem dL_law_173 : decode cL_law 173 = .ok (.iaload, 1) := dk_46 (dk_at dksL_law_7 10 rfl rfl)
theorem dL_law_174 : decode cL_law 174 = .ok (.invokevirtual 32, 3) := dk_182 0 32 (dk_at dksL_law_7 11 rfl rfl)
theorem dL_law_177 : decode cL_law 177 = .ok (.aload_n 2, 1) := dk_44 (dk_at dksL_law_7 14 rfl rfl)
theorem dL_law_178 : decode cL_law 178 = .ok (.aload_n 0, 1) := dk_42 (dk_at dksL_law_7 15 rfl rfl)
theorem dL_law_179 : decode cL_law 179 = .ok (.iload_n 3, 1) := dk_29 (dk_at dksL_law_7 16 rfl rfl)
theorem dL_law_180 : decode cL_law 180 = .ok (.iconst 1, 1) := dk_4 (dk_at dksL_law_7 17 rfl rfl)
theorem dL_law_181 : decode cL_law 181 = .ok (.iadd, 1) := dk_96 (dk_at dksL_law_7 18 rfl rfl)
theorem dL_law_182 : decode cL_law 182 = .ok (.iaload, 1) := dk_46 (dk_at dksL_law_7 19 rfl rfl)
theorem dL_law_183 : decode cL_law 183 = .ok (.invokevirtual 35, 3) := dk_182 0 35 (dk_at dksL_law_7 20 rfl rfl)
theorem dL_law_186 : decode cL_law 186 = .ok (.if_icmp .eq 5, 3) := dk_159 0 5 (dk_at dksL_law_8 0 rfl rfl)
theorem dL_law_189 : decode cL_law 189 = .ok (.iconst 0, 1) := dk_3 (dk_at dksL_law_8 3 rfl rfl)
theorem dL_law_190 : decode cL_law 190 = .ok (.ireturn, 1) := dk_172 (dk_at dksL_law_8 4 rfl rfl)
theorem dL_law_191 : decode cL_law 191 = .ok (.iinc 3 6, 3) := dk_132 3 6 (dk_at dksL_law_8 5 rfl rfl)
theorem dL_law_194 : decode cL_law 194 = .ok (.goto (-176), 3) := dk_167 255 80 (dk_at dksL_law_8 8 rfl rfl)
theorem dL_law_197 : decode cL_law 197 = .ok (.iconst 1, 1) := dk_4 (dk_at dksL_law_8 11 rfl rfl)
theorem dL_law_198 : decode cL_law 198 = .ok (.ireturn, 1) := dk_172 (dk_at dksL_law_8 12 rfl rfl)
theorem q1 : (Jvm.Cond.initialized "PdfParityDeskLaw") ∈ lw_all := lw_g (lw_at lw_m1 0 rfl) rfl
set_option maxRecDepth 100000
theorem q19 : (Jvm.Cond.classLink "PdfParityDeskLaw" (7 : Nat) "PdfParityDesk") ∈ lw_all := lw_g (lw_at lw_m1 18 rfl) rfl
theorem q21 : (Jvm.Cond.methodLink "PdfParityDeskLaw" (9 : Nat) ({ cls := "PdfParityDesk", name := "<init>", desc := "()V" } : Jvm.MethodName)) ∈ lw_all := lw_g (lw_at lw_m1 20 rfl) rfl
theorem q40 : (Jvm.Cond.methodLink "PdfParityDeskLaw" (13 : Nat) ({ cls := "PdfParityDesk", name := "put", desc := "(II)Z" } : Jvm.MethodName)) ∈ lw_all := lw_g (lw_at lw_m1 39 rfl) rfl
theorem q45 : (Jvm.Cond.methodLink "PdfParityDeskLaw" (18 : Nat) ({ cls := "PdfParityDesk", name := "drop", desc := "(I)V" } : Jvm.MethodName)) ∈ lw_all := lw_g (lw_at lw_m1 44 rfl) rfl
theorem q49 : (Jvm.Cond.methodLink "PdfParityDeskLaw" (23 : Nat) ({ cls := "PdfParityDesk", name := "make", desc := "(I)I" } : Jvm.MethodName)) ∈ lw_all := lw_g (lw_at lw_m1 48 rfl) rfl
theorem q384 : (Jvm.Cond.methodLink "PdfParityDeskLaw" (28 : Nat) ({ cls := "PdfParityDesk", name := "told", desc := "(I)I" } : Jvm.MethodName)) ∈ lw_all := lw_g (lw_at lw_m2 143 rfl) rfl
theorem q389 : (Jvm.Cond.methodLink "PdfParityDeskLaw" (32 : Nat) ({ cls := "PdfParityDesk", name := "count", desc := "(I)I" } : Jvm.MethodName)) ∈ lw_all := lw_g (lw_at lw_m2 148 rfl) rfl
theorem q394 : (Jvm.Cond.classLink "PdfParityDeskLaw" (10 : Nat) "PdfParityDeskModel") ∈ lw_all := lw_g (lw_at lw_m2 153 rfl) rfl
theorem q396 : (Jvm.Cond.methodLink "PdfParityDeskLaw" (12 : Nat) ({ cls := "PdfParityDeskModel", name := "<init>", desc := "()V" } : Jvm.MethodName)) ∈ lw_all := lw_g (lw_at lw_m2 155 rfl) rfl
theorem q411 : (Jvm.Cond.methodLink "PdfParityDeskLaw" (17 : Nat) ({ cls := "PdfParityDeskModel", name := "put", desc := "(II)Z" } : Jvm.MethodName)) ∈ lw_all := lw_g (lw_at lw_m2 170 rfl) rfl
theorem q419 : (Jvm.Cond.methodLink "PdfParityDeskLaw" (22 : Nat) ({ cls := "PdfParityDeskModel", name := "drop", desc := "(I)V" } : Jvm.MethodName)) ∈ lw_all := lw_g (lw_at lw_m2 178 rfl) rfl
theorem q423 : (Jvm.Cond.methodLink "PdfParityDeskLaw" (35 : Nat) ({ cls := "PdfParityDeskModel", name := "count", desc := "(I)I" } : Jvm.MethodName)) ∈ lw_all := lw_g (lw_at lw_m2 182 rfl) rfl
theorem q427 : (Jvm.Cond.methodLink "PdfParityDeskLaw" (27 : Nat) ({ cls := "PdfParityDeskModel", name := "make", desc := "(I)I" } : Jvm.MethodName)) ∈ lw_all := lw_g (lw_at lw_m2 186 rfl) rfl
theorem q435 : (Jvm.Cond.methodLink "PdfParityDeskLaw" (31 : Nat) ({ cls := "PdfParityDeskModel", name := "told", desc := "(I)I" } : Jvm.MethodName)) ∈ lw_all := lw_g (lw_at lw_m2 194 rfl) rfl
theorem q321 : (Jvm.Cond.sameMethod "[B" "java/lang/Object" "clone" "()Ljava/lang/Object;") ∈ lw_all := lw_g (lw_at lw_m2 80 rfl) rfl
set_option maxRecDepth 100000
theorem q324 : (Jvm.Cond.selects "[B" ({ cls := "[B", name := "clone", desc := "()Ljava/lang/Object;" } : Jvm.MethodName) ({ cls := "java/lang/Object", name := "clone", desc := "()Ljava/lang/Object;" } : Jvm.MethodName)) ∈ lw_all := lw_g (lw_at lw_m2 83 rfl) rfl
theorem q325 : (Jvm.Cond.castable "[B" "java/lang/Cloneable") ∈ lw_tbl := lw_at lw_m2 84 rfl
theorem q202 : (Jvm.Cond.interfaceMethod "java/lang/CharSequence" "java/lang/CharSequence" "length" "()I") ∈ lw_tbl := lw_at lw_m1 201 rfl
set_option maxRecDepth 100000
theorem q203 : (Jvm.Cond.declares ({ cls := "java/lang/CharSequence", name := "length", desc := "()I" } : Jvm.MethodName)) ∈ lw_tbl := lw_at lw_m1 202 rfl
theorem q226 : (Jvm.Cond.interfaceMethod "java/lang/CharSequence" "java/lang/CharSequence" "charAt" "(I)C") ∈ lw_tbl := lw_at lw_m1 225 rfl
theorem q227 : (Jvm.Cond.declares ({ cls := "java/lang/CharSequence", name := "charAt", desc := "(I)C" } : Jvm.MethodName)) ∈ lw_tbl := lw_at lw_m1 226 rfl
theorem q38 : (Jvm.Cond.arrayClass Jvm.ClassFile.FieldType.char) ∈ lw_all := lw_g (lw_at lw_m1 37 rfl) rfl
set_option maxRecDepth 100000
theorem q39 : (Jvm.Cond.arrayClass Jvm.ClassFile.FieldType.byte) ∈ lw_all := lw_g (lw_at lw_m1 38 rfl) rfl
theorem q410 : (Jvm.Cond.arrayClass Jvm.ClassFile.FieldType.int) ∈ lw_all := lw_g (lw_at lw_m2 169 rfl) rfl
theorem q450 : (Jvm.Cond.arrayOver (Jvm.ClassFile.FieldType.array Jvm.ClassFile.FieldType.int)) ∈ lw_tbl := lw_at lw_m2 209 rfl
end
section
/-! OWN ROWS: the classes of the worlds, the statics, the state of a walk, numbers that are never negative -/
set_option maxRecDepth 100000
abbrev vwCl : List vw_C := [(RX0, TX0, 3), (RX1, TX1, 3), (RJ0, TJ0, 4), (RJ10, TJ10, 4)]
/-- the classes' numbers; the array classes of int, char, byte; the coefficients' table and its rows; the constant "" and its bytes -/
abbrev pd_G : Type := va_G × (ClassId × ClassId × ClassId) × (Nat × (Nat → Nat)) × (Nat × Nat)
def pd_D (G : pd_G) : va_G := G.1
def pd_cI (G : pd_G) : ClassId := G.2.1.1
def pd_cC (G : pd_G) : ClassId := G.2.1.2.1
def pd_cB (G : pd_G) : ClassId := G.2.1.2.2
def pd_tE (G : pd_G) : Nat := G.2.2.1.1
def pd_tR (G : pd_G) : Nat → Nat := G.2.2.1.2
def pd_qE (G : pd_G) : Nat := G.2.2.2.1
def pd_vE (G : pd_G) : Nat := G.2.2.2.2
def pd_tys (G : pd_G) : List (ClassId × FieldType) := [(pd_cI G, .int), (pd_cC G, .char), (pd_cB G, .byte)]
def pd_xL : MethodName := ⟨"java/lang/CharSequence", "length", "()I"⟩
def pd_xC : MethodName := ⟨"java/lang/CharSequence", "charAt", "(I)C"⟩
/-- the powers of 3 modulo 929, and the product of x less the first k of them: its coefficients, that of the least power first -/
def pd_pw : Nat → Nat
  | 0 => 1
  | k + 1 => pd_pw k * 3 % 929
def pd_pf : Nat → Nat → Nat
  | 0, i => if i = 0 then 1 else 0
  | k + 1, i => ((if i = 0 then 0 else pd_pf k (i - 1)) + (929 - pd_pw (k + 1)) * pd_pf k i) % 929
def pd_coef (i j : Nat) : Nat := pd_pf (2 ^ (i + 1)) j
/-- what the statics hold, and what the tables say that rides in no list: all of it is the same through the whole run -/
def pd_Z (G : pd_G) (A : Nat → Prop) (U : State) (H : Heap) : Prop :=
  va_Z "java/lang/String" "COMPACT_STRINGS" "Z" (.int 1) A U H ∧
  va_Z "java/lang/StringUTF16" "$assertionsDisabled" "Z" (.int 1) A U H ∧
  va_Z "java/lang/StringUTF16" "HI_BYTE_SHIFT" "I" (.int 0) A U H ∧
  va_Z "java/lang/StringUTF16" "LO_BYTE_SHIFT" "I" (.int 8) A U H ∧
  va_Zq "jdk/internal/util/Preconditions" "SIOOBE_FORMATTER" "Ljava/util/function/BiFunction;" A U H ∧
  va_Z "PDF417ErrorCorrection" "EC_COEFFICIENTS" "[[I" (.ref (pd_tE G)) A U H ∧
  va_T (.array .int) (pd_tE G) 9 (fun i => .ref (pd_tR G i)) A U H ∧
  (∀ i : Nat, i < 8 → va_T .int (pd_tR G i) (2 ^ (i + 1)) (fun j => .int (nI (pd_coef i j))) A U H) ∧
  vk_R "java/lang/String" 7 "" (pd_qE G) U ∧
  vk_R "PdfParityDesk" 13 "" (pd_qE G) U ∧
  vk_S 1 [0] [[]] (fun _ => pd_qE G) (fun _ => pd_vE G) A U H ∧
  va_Fw "java/lang/String" pd_xL yJ0_length U ∧
  va_Fw "java/lang/String" pd_xC yJ0_charAt U ∧
  va_Nw (.castable "[B" "java/lang/Cloneable") U
theorem pd_Z.warm {G : pd_G} {A : Nat → Prop} {s U : State} {H : Heap} (hW : s.WarmedH U.vm) (h : pd_Z G A s H) : pd_Z G A U H := by
  obtain ⟨h1, h2, h3, h4, h5, h6, h7, h8, h9, h10, h11, h12, h13, h14⟩ := h
  exact ⟨h1.moved hW.alike, h2.moved hW.alike, h3.moved hW.alike, h4.moved hW.alike, h5.moved hW.alike, h6.moved hW.alike, h7.moved hW.alike, fun i hi => (h8 i hi).moved hW.alike, h9.warm hW, h10.warm hW, h11.moved hW.alike, h12.moved ⟨by decide, by decide⟩ hW.alike, h13.moved ⟨by decide, by decide⟩ hW.alike, va_Nw.warmC hW h14⟩
theorem pd_Z.calling {G : pd_G} {A : Nat → Prop} {U : State} {g : JFrame} {mk : MethodId} {a : Array Value} (h : pd_Z G A U U.heap) : pd_Z G A (U.calling g mk a) (U.calling g mk a).heap := by
  obtain ⟨h1, h2, h3, h4, h5, h6, h7, h8, h9, h10, h11, h12, h13, h14⟩ := h
  have hv : U.vm.Alike (U.calling g mk a).vm := Vm.Alike.refl U.vm
  exact ⟨h1.moved hv, h2.moved hv, h3.moved hv, h4.moved hv, h5.moved hv, h6.moved hv, h7.moved hv, fun i hi => (h8 i hi).moved hv, vk_R.same (U := U.calling g mk a) rfl h9, vk_R.same (U := U.calling g mk a) rfl h10, h11.moved hv, h12.moved ⟨by decide, by decide⟩ hv, h13.moved ⟨by decide, by decide⟩ hv, va_Nw.same (U := U.calling g mk a) rfl rfl h14⟩
theorem pd_Z.kept {G : pd_G} {A : Nat → Prop} {U : State} {H H1 : Heap} (h : pd_Z G A U H) (hq : ∀ a : Nat, a < H.size → ¬ A a → H1[a]? = H[a]?) : pd_Z G A U H1 := by
  obtain ⟨h1, h2, h3, h4, h5, h6, h7, h8, h9, h10, h11, h12, h13, h14⟩ := h
  exact ⟨h1.kept hq, h2.kept hq, h3.kept hq, h4.kept hq, h5.kept hq, h6.kept hq, h7.kept hq, fun i hi => (h8 i hi).kept hq, h9, h10, h11.kept hq, h12, h13, h14⟩
theorem pd_Z.narrow {G : pd_G} {A B : Nat → Prop} {U : State} {H : Heap} (h : pd_Z G A U H) (hAB : ∀ q, B q → A q) : pd_Z G B U H := by
  obtain ⟨h1, h2, h3, h4, h5, h6, h7, h8, h9, h10, h11, h12, h13, h14⟩ := h
  exact ⟨h1.narrow hAB, h2.narrow hAB, h3.narrow hAB, h4.narrow hAB, h5.narrow hAB, h6.narrow hAB, h7.narrow hAB, fun i hi => (h8 i hi).narrow hAB, h9, h10, h11.narrow hAB, h12, h13, h14⟩
/-- the state of a walk: classes, statics, the world, its frame -/
def pd_W (G : pd_G) (A : Nat → Prop) (s : State) (H : Heap) (locs : List Loc) (ws : va_W) : Prop :=
  va_K (pd_D G) vwCl (pd_tys G) s ∧ pd_Z G A s s.heap ∧ (∀ q : Nat, s.heap.size ≤ q → A q) ∧ va_P (pd_D G) vwCl ws H ∧ va_D A ws ∧ va_S A s.heap H locs
/-- a contract's start -/
def pd_B (G : pd_G) (sz : Nat) (ws : va_W) (U : State) : Prop :=
  U.heap.size = sz ∧ va_K (pd_D G) vwCl (pd_tys G) U ∧ pd_Z G (va_A ws sz) U U.heap ∧ va_P (pd_D G) vwCl ws U.heap ∧ va_D (fun _ => True) ws
/-- a contract's end -/
def pd_F (G : pd_G) (A : Nat → Prop) (ws : va_W) (t : State) : Prop := va_P (pd_D G) vwCl ws t.heap ∧ va_D A ws
theorem pd_blind {G : pd_G} {sz : Nat} {ws : va_W} {As : List Value} : FrameBlind (va_Pc As (pd_B G sz ws)) := fun a U g mk q => by
  obtain ⟨q0, q1, qK, qZ, qP, qD⟩ := q
  exact ⟨q0, q1, va_K.moved (u := U) (U := U.calling g mk a) (Vm.Alike.refl U.vm) qK, qZ.calling, qP, qD⟩
theorem pd_subP {D : va_G} {cl : List vw_C} {ws wc : va_W} {H : Heap} (h : va_P D cl ws H) (is : List Nat) (hC : is.map (fun i => ws[i]?) = wc.map some) : va_P D cl wc H := by
  intro k q hq
  have h1 : (is.map (fun i => ws[i]?))[k]? = some (some q) := by rw [hC, List.getElem?_map, hq]; rfl
  rw [List.getElem?_map] at h1
  cases hi : is[k]? with
  | none => rw [hi] at h1; cases h1
  | some i => rw [hi] at h1; exact h i q (Option.some.inj h1)
theorem pd_W.sub {G : pd_G} {A : Nat → Prop} {s : State} {H : Heap} {locs : List Loc} {ws wc : va_W} (h : pd_W G A s H locs ws) (is : List Nat) (hn : va_nd is = true) (hC : is.map (fun i => ws[i]?) = wc.map some) : pd_W G A s H locs wc := by
  obtain ⟨hK, hZ, hA, hP, hD, hS⟩ := h
  exact ⟨hK, hZ, hA, pd_subP hP is hC, hD.sub is hn hC, hS⟩
theorem pd_pre {G : pd_G} {A : Nat → Prop} {s : State} {H : Heap} {locs : List Loc} {ws wc : va_W} {As : List Value} (h : pd_W G A s H locs ws) (is : List Nat) (hn : va_nd is = true) (hC : is.map (fun i => ws[i]?) = wc.map some) : ∀ U : State, U.heap = H → s.WarmedH U.vm → va_Pc As (pd_B G H.size wc) As.toArray U := by
  obtain ⟨hK, hZ, hA, hP, hD, hS⟩ := h
  intro U hU hW
  have hF := va_free (wc := wc) hD hS hA is hC
  refine ⟨rfl, by rw [hU], va_K.moved hW.alike hK, ?_, by rw [hU]; exact pd_subP hP is hC, (hD.sub is hn hC).weaken (fun _ _ _ _ => trivial)⟩
  rw [hU]
  exact ((hZ.kept hS.2.1).narrow hF).warm hW
theorem pd_recv {G : pd_G} {A : Nat → Prop} {s : State} {H : Heap} {locs : List Loc} {ws : va_W} {a ci : Nat} {q : vw_C} {fs : List Value} (h : pd_W G A s H locs ws) (q0 : Nat) (he : ws[q0]? = some (a, .inr (ci, fs))) (hc : vwCl[ci]? = some q) : ∃ cell : Cell, H[a]? = some cell ∧ cell.vm.isStatics = false ∧ s.vm.findClass q.1 = some cell.cls := va_recv h.1 h.2.2.2.1 hc he
theorem pd_start {l : Launch} {G : pd_G} {y : MethodName} {cc : ByteArray} {n : Nat} {ret : Option FieldType} {rm : Room} {As : List Value} {wc : va_W} {sz : Nat} {Qc : Array Value → State → Outcome → State → Prop} {mc ms : Nat} {free : Addr → Prop} (hy : plainName y.cls = true) (hlen : (lg_sl As).length ≤ n)
    (body : ∀ (p : Program) (e : Env) (s : State) (m : MethodId) (below : List Frame) (meth : Method) (c : Code) (ls : Array Slot) (H : Heap) (locs : List Loc), CallFix p m c cc n s As.toArray lw_all y.cls → meth.sig.returnType = ret → meth.locks = false → meth.name = y.name → s.heap.size = sz → pd_W G (va_A wc sz) s H locs wc → lv_has ls n (lv_args 0 As) → W p l e rm s m As.toArray below meth c H locs 0 0 (MQ below Qc As.toArray s mc ms free) (F0 m 0 ls [])) :
    Met l y (ws_ y cc n ret) rm (va_Pc As (pd_B G sz wc)) Qc mc ms free := by
  refine Met.ofW (cc := cc) (maxL := n) (ret := ret) hy rfl ?_
  intro p e s m args below meth c s₁ B hml hv
  obtain ⟨rfl, hsz, hK, hZ, hP, hD⟩ := hv
  have hts := atoms_spec (ws := ws_ y cc n ret) B.pre
  have hts : ∀ w ∈ lw_all, w.before _ s = true := fun w h => hts w (List.mem_cons_of_mem _ h)
  have hown : s.vm.findClass y.cls = some m.cls := findClass_of_methodNamed B.named
  have hl := lv_entry As (n := n) hlen
  rw [lg_entry_eq]
  exact body p e s m below meth c _ s.heap [] ⟨B.exec, B.bytes, hml, hown, hts⟩ B.returns B.notSynchronized (name_of_methodNamed B.named B.method).1 hsz ⟨hK, hZ, fun q h => Or.inr (by rw [← hsz]; exact h), hP, hD.self, va_S.rf⟩ hl
section PDA
variable {p : Program} {l : Launch} {e : Env} {R : Room} {s : State} {m : MethodId} {args : Array Value} {below : List Frame} {meth : Method} {c : Code} {H : Heap} {locs : List Loc} {cells slots : Nat} {Q : State → Prop}
variable {cc : ByteArray} {nL pc : Nat} {own : String} {ls : Array Slot} {rest st0 : List Value} {G : pd_G} {A : Nat → Prop} {ws wc wr : va_W} {a : Array Value} {mc ms : Nat}
/-- behind a call: the caller's other cells, and what the callee gives back -/
theorem pd_goi {S : Type} {post : Int32 → S → Prop} {wf : S → va_W} (h : pd_W G A s H locs ws) (hr : va_Run p l e R s m args below meth c H locs cells slots mc ms (F0 m pc ls st0) rest (va_Qi post (fun u t => pd_F G (va_A wc H.size) (wf u) t) (va_A wc H.size) a) (va_A wc H.size))
    (isC isR : List Nat) (hC : isC.map (fun i => ws[i]?) = wc.map some) (hR : isR.map (fun i => ws[i]?) = wr.map some) (hn : va_nd isR = true) (hdis : ∀ i ∈ isR, i ∉ isC)
    (kk : ∀ (r : Int32) (u : S) (H1 : Heap) (locs1 : List Loc), post r u → pd_W G A s H1 locs1 (wr ++ wf u) → W p l e R s m args below meth c H1 locs1 (cells + mc) (slots + ms) Q (F0 m (pc + 3) ls (.int r :: rest))) :
    W p l e R s m args below meth c H locs cells slots Q (F0 m pc ls st0) := by
  obtain ⟨hK, hZ, hA, hP, hD, hS⟩ := h
  have hF := va_free (wc := wc) hD hS hA isC hC
  refine va_calli hr hS (fun q _ hq => hF q hq) hF (fun r u t H1 locs1 ht hvm hw hB hz1 hk1 hS => ?_)
  obtain ⟨hP1, hD1⟩ := hB
  rw [ht] at hP1
  obtain ⟨hP2, hD2⟩ := va_join (wr := wr) (w1 := wf u) hP hD isC isR hC hR hn hdis hk1 hF hP1 hD1
  exact kk r u H1 locs1 hw ⟨hK, hZ, hA, hP2, hD2, hS⟩
theorem pd_gov {S : Type} {post : S → Prop} {wf : S → va_W} (h : pd_W G A s H locs ws) (hr : va_Run p l e R s m args below meth c H locs cells slots mc ms (F0 m pc ls st0) rest (va_Qv post (fun u t => pd_F G (va_A wc H.size) (wf u) t) (va_A wc H.size) a) (va_A wc H.size))
    (isC isR : List Nat) (hC : isC.map (fun i => ws[i]?) = wc.map some) (hR : isR.map (fun i => ws[i]?) = wr.map some) (hn : va_nd isR = true) (hdis : ∀ i ∈ isR, i ∉ isC)
    (kk : ∀ (u : S) (H1 : Heap) (locs1 : List Loc), post u → pd_W G A s H1 locs1 (wr ++ wf u) → W p l e R s m args below meth c H1 locs1 (cells + mc) (slots + ms) Q (F0 m (pc + 3) ls rest)) :
    W p l e R s m args below meth c H locs cells slots Q (F0 m pc ls st0) := by
  obtain ⟨hK, hZ, hA, hP, hD, hS⟩ := h
  have hF := va_free (wc := wc) hD hS hA isC hC
  refine va_callv hr hS (fun q _ hq => hF q hq) hF (fun u t H1 locs1 ht hvm hw hB hz1 hk1 hS => ?_)
  obtain ⟨hP1, hD1⟩ := hB
  rw [ht] at hP1
  obtain ⟨hP2, hD2⟩ := va_join (wr := wr) (w1 := wf u) hP hD isC isR hC hR hn hdis hk1 hF hP1 hD1
  exact kk u H1 locs1 hw ⟨hK, hZ, hA, hP2, hD2, hS⟩
theorem pd_gor {S : Type} {post : S → Prop} {wf : S → Nat → va_W} (h : pd_W G A s H locs ws) (hr : va_Run p l e R s m args below meth c H locs cells slots mc ms (F0 m pc ls st0) rest (va_Qr post (fun u q t => pd_F G (va_A wc H.size) (wf u q) t) (va_A wc H.size) a) (va_A wc H.size))
    (isC isR : List Nat) (hC : isC.map (fun i => ws[i]?) = wc.map some) (hR : isR.map (fun i => ws[i]?) = wr.map some) (hn : va_nd isR = true) (hdis : ∀ i ∈ isR, i ∉ isC)
    (kk : ∀ (u : S) (q : Nat) (H1 : Heap) (locs1 : List Loc), post u → pd_W G A s H1 locs1 (wr ++ wf u q) → W p l e R s m args below meth c H1 locs1 (cells + mc) (slots + ms) Q (F0 m (pc + 3) ls (.ref q :: rest))) :
    W p l e R s m args below meth c H locs cells slots Q (F0 m pc ls st0) := by
  obtain ⟨hK, hZ, hA, hP, hD, hS⟩ := h
  have hF := va_free (wc := wc) hD hS hA isC hC
  refine va_callr hr hS (fun q _ hq => hF q hq) hF (fun u q t H1 locs1 ht hvm hw hB hz1 hk1 hS => ?_)
  obtain ⟨hP1, hD1⟩ := hB
  rw [ht] at hP1
  obtain ⟨hP2, hD2⟩ := va_join (wr := wr) (w1 := wf u q) hP hD isC isR hC hR hn hdis hk1 hF hP1 hD1
  exact kk u q H1 locs1 hw ⟨hK, hZ, hA, hP2, hD2, hS⟩
/-- the same behind a call through an interface -/
theorem pd_goFi {S : Type} {post : Int32 → S → Prop} {wf : S → va_W} (h : pd_W G A s H locs ws) (hr : va_Run5 p l e R s m args below meth c H locs cells slots mc ms (F0 m pc ls st0) rest (va_Qi post (fun u t => pd_F G (va_A wc H.size) (wf u) t) (va_A wc H.size) a) (va_A wc H.size))
    (isC isR : List Nat) (hC : isC.map (fun i => ws[i]?) = wc.map some) (hR : isR.map (fun i => ws[i]?) = wr.map some) (hn : va_nd isR = true) (hdis : ∀ i ∈ isR, i ∉ isC)
    (kk : ∀ (r : Int32) (u : S) (H1 : Heap) (locs1 : List Loc), post r u → pd_W G A s H1 locs1 (wr ++ wf u) → W p l e R s m args below meth c H1 locs1 (cells + mc) (slots + ms) Q (F0 m (pc + 5) ls (.int r :: rest))) :
    W p l e R s m args below meth c H locs cells slots Q (F0 m pc ls st0) := by
  obtain ⟨hK, hZ, hA, hP, hD, hS⟩ := h
  have hF := va_free (wc := wc) hD hS hA isC hC
  refine va_callFi hr hS (fun q _ hq => hF q hq) hF (fun r u t H1 locs1 ht hvm hw hB hz1 hk1 hS => ?_)
  obtain ⟨hP1, hD1⟩ := hB
  rw [ht] at hP1
  obtain ⟨hP2, hD2⟩ := va_join (wr := wr) (w1 := wf u) hP hD isC isR hC hR hn hdis hk1 hF hP1 hD1
  exact kk r u H1 locs1 hw ⟨hK, hZ, hA, hP2, hD2, hS⟩
/-- a method's ends -/
theorem pd_iret {S : Type} {post : Int32 → S → Prop} {wf : S → va_W} {sz : Nat} {v : Int32} (hx : p.tables.exec = Jvm.exec) (hb : c.code = cc) (hr : meth.sig.returnType = some .int) (hlk : meth.locks = false) (h : pd_W G (va_A wc sz) s H locs ws) (u : S) (is : List Nat) (hn : va_nd is = true) (hs : is.map (fun i => ws[i]?) = (wf u).map some) (hp : post v u) (h1 : cells ≤ mc) (h2 : slots ≤ ms) (hdg : decode cc pc = .ok (.ireturn, 1)) :
    W p l e R s m args below meth c H locs cells slots (MQ below (va_Qi post (fun u t => pd_F G (va_A wc sz) (wf u) t) (va_A wc sz)) args s mc ms (va_A wc sz)) (F0 m pc ls [.int v]) := by
  obtain ⟨hK, hZ, hA, hP, hD, hS⟩ := h
  refine W.widen h1 h2 ?_
  exact W.iret hx hb hr (fun t ht hW => ⟨⟨v, u, rfl, hp, by rw [ht]; exact pd_subP hP is hs, hD.sub is hn hs⟩, hS.F ht⟩) hS.2.2 hdg (hlocks := hlk)
theorem pd_zret {S : Type} {post : Int32 → S → Prop} {wf : S → va_W} {sz : Nat} {v : Int32} {ty : FieldType} (hx : p.tables.exec = Jvm.exec) (hb : c.code = cc) (hr : meth.sig.returnType = some ty) (hnw : narrow ty (.int v) = .int v) (hlk : meth.locks = false) (h : pd_W G (va_A wc sz) s H locs ws) (u : S) (is : List Nat) (hn : va_nd is = true) (hs : is.map (fun i => ws[i]?) = (wf u).map some) (hp : post v u) (h1 : cells ≤ mc) (h2 : slots ≤ ms) (hdg : decode cc pc = .ok (.ireturn, 1)) :
    W p l e R s m args below meth c H locs cells slots (MQ below (va_Qi post (fun u t => pd_F G (va_A wc sz) (wf u) t) (va_A wc sz)) args s mc ms (va_A wc sz)) (F0 m pc ls [.int v]) := by
  obtain ⟨hK, hZ, hA, hP, hD, hS⟩ := h
  refine W.widen h1 h2 ?_
  exact W.zret hx hb hr hnw (fun t ht hW => ⟨⟨v, u, rfl, hp, by rw [ht]; exact pd_subP hP is hs, hD.sub is hn hs⟩, hS.F ht⟩) hS.2.2 hdg (hlocks := hlk)
theorem pd_vret {S : Type} {post : S → Prop} {wf : S → va_W} {sz : Nat} (hx : p.tables.exec = Jvm.exec) (hb : c.code = cc) (hr : meth.sig.returnType = none) (hlk : meth.locks = false) (h : pd_W G (va_A wc sz) s H locs ws) (u : S) (is : List Nat) (hn : va_nd is = true) (hs : is.map (fun i => ws[i]?) = (wf u).map some) (hp : post u) (h1 : cells ≤ mc) (h2 : slots ≤ ms) (hdg : decode cc pc = .ok (.return_, 1)) :
    W p l e R s m args below meth c H locs cells slots (MQ below (va_Qv post (fun u t => pd_F G (va_A wc sz) (wf u) t) (va_A wc sz)) args s mc ms (va_A wc sz)) (F0 m pc ls []) := by
  obtain ⟨hK, hZ, hA, hP, hD, hS⟩ := h
  refine W.widen h1 h2 ?_
  exact W.vret hx hb hr (fun t ht hW => ⟨⟨u, rfl, hp, by rw [ht]; exact pd_subP hP is hs, hD.sub is hn hs⟩, hS.F ht⟩) hS.2.2 hdg (hlocks := hlk)
theorem pd_aret {S : Type} {post : S → Prop} {wf : S → Nat → va_W} {sz q : Nat} {rt : FieldType} (hx : p.tables.exec = Jvm.exec) (hb : c.code = cc) (hr : meth.sig.returnType = some rt) (hrt : (∃ n, rt = .object n) ∨ ∃ t, rt = .array t) (hlk : meth.locks = false) (h : pd_W G (va_A wc sz) s H locs ws) (u : S) (is : List Nat) (hn : va_nd is = true) (hs : is.map (fun i => ws[i]?) = (wf u q).map some) (hp : post u) (h1 : cells ≤ mc) (h2 : slots ≤ ms) (hdg : decode cc pc = .ok (.areturn, 1)) :
    W p l e R s m args below meth c H locs cells slots (MQ below (va_Qr post (fun u q t => pd_F G (va_A wc sz) (wf u q) t) (va_A wc sz)) args s mc ms (va_A wc sz)) (F0 m pc ls [.ref q]) := by
  obtain ⟨hK, hZ, hA, hP, hD, hS⟩ := h
  refine W.widen h1 h2 ?_
  exact W.aret hx hb hr hrt (Or.inr ⟨q, rfl⟩) (fun t ht hW => ⟨⟨u, q, rfl, hp, by rw [ht]; exact pd_subP hP is hs, hD.sub is hn hs⟩, hS.F ht⟩) hS.2.2 hdg (hlocks := hlk)
end PDA
/-! numbers that are never negative -/
/-- a new array's contents -/
def pd_z : Nat → Nat := fun _ => 0
theorem pd_or (a b : Nat) : nI a ||| nI b = nI (a ||| b) := by
  apply Int32.toBitVec_inj.1
  show BitVec.ofNat 32 a ||| BitVec.ofNat 32 b = BitVec.ofNat 32 (a ||| b)
  apply BitVec.eq_of_getLsbD_eq
  intro i hi
  simp [hi]
theorem pd_or_lt {a b : Nat} (ha : a < 2147483648) (hb : b < 2147483648) : a ||| b < 2147483648 := Nat.or_lt_two_pow (n := 31) ha hb
theorem pd_sub_le {a b : Nat} (h : a ≤ b) (hb : b < 1073741824) : nI a - nI b ≤ 0 := by
  rw [Int32.le_iff_toInt_le, pk_sub_toInt (by omega) hb, show (0 : Int32).toInt = 0 from by decide]
  omega
theorem pd_pow8 {i : Nat} (h : i < 8) : 2 ^ (i + 1) ≤ 256 := by
  have := Nat.pow_le_pow_right (n := 2) (by decide) (show i + 1 ≤ 8 by omega)
  omega
/-- an int's low 31 bits, as '& 2147483647' has them -/
def pd_pl (x : Int32) : Nat := x.toBitVec.toNat % 2 ^ 31
theorem pd_pl_lt (x : Int32) : pd_pl x < 2147483648 := Nat.mod_lt _ (by decide)
theorem pd_pl_and (x : Int32) : x &&& 2147483647 = nI (pd_pl x) := pk_and x 31 (by decide)
/-- an int's low 3 bits -/
def pd_lo (x : Int32) : Nat := x.toBitVec.toNat % 2 ^ 3
theorem pd_lo_lt (x : Int32) : pd_lo x < 8 := Nat.mod_lt _ (by decide)
theorem pd_lo_and (x : Int32) : x &&& 7 = nI (pd_lo x) := pk_and x 3 (by decide)
theorem pd_or8 {a : Nat} (b : Nat) (h : a < 256) : nI a ||| nI (b * 256) = nI (a + b * 256) := by
  have e : a ||| b * 256 = a + b * 256 := by
    rw [Nat.or_comm, Nat.add_comm a, Nat.mul_comm b 256]
    exact (Nat.two_pow_add_eq_or_of_lt (i := 8) h b).symm
  rw [← e]
  apply Int32.toBitVec_inj.1
  show BitVec.ofNat 32 a ||| BitVec.ofNat 32 (b * 256) = BitVec.ofNat 32 (a ||| b * 256)
  apply BitVec.eq_of_getLsbD_eq
  intro i hi
  simp [hi]
theorem pd_b256 (c : Nat) : sb_b (c % 256) = sb_b c := by
  have h : (nI (c % 256)).toInt8 = (nI c).toInt8 := by
    apply Int8.toBitVec_inj.1
    apply BitVec.eq_of_toNat_eq
    show (BitVec.signExtend 8 (nI (c % 256)).toBitVec).toNat = (BitVec.signExtend 8 (nI c).toBitVec).toNat
    rw [BitVec.signExtend_eq_setWidth_of_le _ (by decide), BitVec.signExtend_eq_setWidth_of_le _ (by decide), BitVec.toNat_setWidth, BitVec.toNat_setWidth]
    show (c % 256) % 2 ^ 32 % 2 ^ 8 = c % 2 ^ 32 % 2 ^ 8
    omega
  unfold sb_b
  rw [h]
theorem pd_and255 {c : Nat} (h : c < 256) : sb_b c &&& 255 = nI c := (sb_byte c h).1
theorem pd_nb (c : Nat) : vp_nar .byte (sb_b c) = sb_b c := pk_vb (nI c)
theorem pd_nc {v : Nat} (h : v < 65536) : vp_nar .char (nI v) = nI v := by
  unfold vp_nar
  rw [(pk_charN h).1]
theorem pd_tn (v : Nat) : (nI v).toBitVec.toNat = v % 2 ^ 32 := rfl
theorem pd_i2c {v : Nat} (h : v < 65536) : ((nI v).toUInt32 % 65536).toInt32 = nI v := by
  rw [pk_char, pd_tn]
  exact congrArg nI (by omega)
theorem pd_updI {f : Nat → Nat} {i v : Nat} (h : i < 2 ^ 31) : upd (fun j => nI (f j)) (nI i).toNatClampNeg (nI v) = fun j => nI (va_up f i v j) := by
  rw [nI_clamp h]
  funext j
  by_cases hj : j = i
  · subst hj
    simp [upd, va_up]
  · simp [upd, va_up, hj]
theorem pd_updB {f : Nat → Nat} {i v : Nat} (h : i < 2 ^ 31) : upd (fun j => sb_b (f j)) (nI i).toNatClampNeg (sb_b v) = fun j => sb_b (va_up f i v j) := by
  rw [nI_clamp h]
  funext j
  by_cases hj : j = i
  · subst hj
    simp [upd, va_up]
  · simp [upd, va_up, hj]
theorem pd_coder {n k : Nat} (hk : k < 65536) (hn : n = k ∨ (n = k * 2 ∧ 0 < k)) : ((nI k - nI n).toUInt32 >>> ((nI 31).toUInt32 &&& Int32.toUInt32 31)).toInt32 = nI (if n = k then 0 else 1) := by
  apply Int32.toBitVec_inj.mp
  apply BitVec.eq_of_toNat_eq
  rw [pk_ushr _ _ 31 (by decide)]
  rcases hn with hn | ⟨hn, h0⟩
  · subst hn
    rw [if_pos rfl, Int32.sub_self]
    rfl
  · rw [if_neg (by omega), Int32.toBitVec_sub, BitVec.toNat_sub, pd_tn, pd_tn, pd_tn]
    omega
section PDB
variable {p : Program} {l : Launch} {e : Env} {R : Room} {s : State} {m : MethodId} {args : Array Value} {below : List Frame} {meth : Method} {c : Code} {H : Heap} {locs : List Loc} {cells slots : Nat} {Q : State → Prop}
variable {cc : ByteArray} {nL pc : Nat} {own : String} {ls : Array Slot} {rest st0 : List Value} {G : pd_G} {A : Nat → Prop} {ws wc wr : va_W} {a : Nat} {mc ms : Nat}
theorem pd_top {x y : Int32} (h : x = y) (k : W p l e R s m args below meth c H locs cells slots Q (F0 m pc ls (.int y :: rest))) : W p l e R s m args below meth c H locs cells slots Q (F0 m pc ls (.int x :: rest)) := h ▸ k
theorem pd_add (hx : p.tables.exec = Jvm.exec) (hb : c.code = cc) {x y : Nat} (hdg : decode cc pc = .ok (.iadd, 1)) (k : W p l e R s m args below meth c H locs cells slots Q (F0 m (pc + 1) ls (.int (nI (x + y)) :: rest))) : W p l e R s m args below meth c H locs cells slots Q (F0 m pc ls (.int (nI y) :: .int (nI x) :: rest)) := lv_iadd hx hb hdg (pd_top (nI_add x y) k)
theorem pd_subI (hx : p.tables.exec = Jvm.exec) (hb : c.code = cc) {x y : Nat} (h : y ≤ x) (hdg : decode cc pc = .ok (.isub, 1)) (k : W p l e R s m args below meth c H locs cells slots Q (F0 m (pc + 1) ls (.int (nI (x - y)) :: rest))) : W p l e R s m args below meth c H locs cells slots Q (F0 m pc ls (.int (nI y) :: .int (nI x) :: rest)) := lv_isub hx hb hdg (pd_top (pk_sub h) k)
theorem pd_mul (hx : p.tables.exec = Jvm.exec) (hb : c.code = cc) {x y : Nat} (hdg : decode cc pc = .ok (.imul, 1)) (k : W p l e R s m args below meth c H locs cells slots Q (F0 m (pc + 1) ls (.int (nI (x * y)) :: rest))) : W p l e R s m args below meth c H locs cells slots Q (F0 m pc ls (.int (nI y) :: .int (nI x) :: rest)) := lv_imul hx hb hdg (pd_top (pk_mul x y) k)
theorem pd_rem (hx : p.tables.exec = Jvm.exec) (hb : c.code = cc) {x y : Nat} (h : x < 2147483648) (h0 : 0 < y) (h1 : y < 2147483648) (hdg : decode cc pc = .ok (.irem, 1)) (k : W p l e R s m args below meth c H locs cells slots Q (F0 m (pc + 1) ls (.int (nI (x % y)) :: rest))) : W p l e R s m args below meth c H locs cells slots Q (F0 m pc ls (.int (nI y) :: .int (nI x) :: rest)) := lv_irem hx hb hdg (nI_ne0 h0 h1) (pd_top (pk_rem h h0 h1) k)
theorem pd_shl (hx : p.tables.exec = Jvm.exec) (hb : c.code = cc) {x n : Nat} {y : Int32} (hy : ((y &&& 31).toBitVec.smod 32).toNat = n) (h : x * 2 ^ n < 4294967296) (hdg : decode cc pc = .ok (.ishl, 1)) (k : W p l e R s m args below meth c H locs cells slots Q (F0 m (pc + 1) ls (.int (nI (x * 2 ^ n)) :: rest))) : W p l e R s m args below meth c H locs cells slots Q (F0 m pc ls (.int y :: .int (nI x) :: rest)) := lv_ishl hx hb hdg (pd_top (pk_shlN _ n hy h) k)
theorem pd_shr (hx : p.tables.exec = Jvm.exec) (hb : c.code = cc) {x n : Nat} {y : Int32} (hy : ((y &&& 31).toBitVec.smod 32).toNat = n) (h : x < 2147483648) (hdg : decode cc pc = .ok (.ishr, 1)) (k : W p l e R s m args below meth c H locs cells slots Q (F0 m (pc + 1) ls (.int (nI (x / 2 ^ n)) :: rest))) : W p l e R s m args below meth c H locs cells slots Q (F0 m pc ls (.int y :: .int (nI x) :: rest)) := lv_ishr hx hb hdg (pd_top (pk_shrN h _ n hy) k)
theorem pd_i2cN (hx : p.tables.exec = Jvm.exec) (hb : c.code = cc) {v : Nat} (h : v < 65536) (hdg : decode cc pc = .ok (.i2c, 1)) (k : W p l e R s m args below meth c H locs cells slots Q (F0 m (pc + 1) ls (.int (nI v) :: rest))) : W p l e R s m args below meth c H locs cells slots Q (F0 m pc ls (.int (nI v) :: rest)) := lv_i2c hx hb hdg (pd_i2c h) k
theorem pd_i2bN (hx : p.tables.exec = Jvm.exec) (hb : c.code = cc) {v : Nat} (hdg : decode cc pc = .ok (.i2b, 1)) (k : W p l e R s m args below meth c H locs cells slots Q (F0 m (pc + 1) ls (.int (sb_b (v % 256)) :: rest))) : W p l e R s m args below meth c H locs cells slots Q (F0 m pc ls (.int (nI v) :: rest)) := lv_i2b (v := sb_b (v % 256)) hx hb hdg (pd_b256 v).symm k
/-- branches on numbers -/
theorem pd_icmp_ge (hx : p.tables.exec = Jvm.exec) (hb : c.code = cc) {x y tgt : Nat} {off : Int} (h1 : x < 2147483648) (h2 : y < 2147483648) (hdg : decode cc pc = .ok (.if_icmp .ge off, 3)) (ht : (pc : Int) + off = (tgt : Int)) (kt : y ≤ x → W p l e R s m args below meth c H locs cells slots Q (F0 m tgt ls rest)) (kf : x < y → W p l e R s m args below meth c H locs cells slots Q (F0 m (pc + 3) ls rest)) : W p l e R s m args below meth c H locs cells slots Q (F0 m pc ls (.int (nI y) :: .int (nI x) :: rest)) :=
  lv_icmp_ge (tgt := tgt) hx hb hdg ht (fun q => kt ((nI_leI h2 h1).mp q)) (fun q => kf (Nat.lt_of_not_le fun z => q ((nI_leI h2 h1).mpr z)))
theorem pd_icmp_gt (hx : p.tables.exec = Jvm.exec) (hb : c.code = cc) {x y tgt : Nat} {off : Int} (h1 : x < 2147483648) (h2 : y < 2147483648) (hdg : decode cc pc = .ok (.if_icmp .gt off, 3)) (ht : (pc : Int) + off = (tgt : Int)) (kt : y < x → W p l e R s m args below meth c H locs cells slots Q (F0 m tgt ls rest)) (kf : x ≤ y → W p l e R s m args below meth c H locs cells slots Q (F0 m (pc + 3) ls rest)) : W p l e R s m args below meth c H locs cells slots Q (F0 m pc ls (.int (nI y) :: .int (nI x) :: rest)) :=
  lv_icmp_gt (tgt := tgt) hx hb hdg ht (fun q => kt ((nI_ltI h2 h1).mp q)) (fun q => kf (Nat.le_of_not_lt fun z => q ((nI_ltI h2 h1).mpr z)))
theorem pd_icmp_le (hx : p.tables.exec = Jvm.exec) (hb : c.code = cc) {x y tgt : Nat} {off : Int} (h1 : x < 2147483648) (h2 : y < 2147483648) (hdg : decode cc pc = .ok (.if_icmp .le off, 3)) (ht : (pc : Int) + off = (tgt : Int)) (kt : x ≤ y → W p l e R s m args below meth c H locs cells slots Q (F0 m tgt ls rest)) (kf : y < x → W p l e R s m args below meth c H locs cells slots Q (F0 m (pc + 3) ls rest)) : W p l e R s m args below meth c H locs cells slots Q (F0 m pc ls (.int (nI y) :: .int (nI x) :: rest)) :=
  lv_icmp_le (tgt := tgt) hx hb hdg ht (fun q => kt ((nI_leI h1 h2).mp q)) (fun q => kf (Nat.lt_of_not_le fun z => q ((nI_leI h1 h2).mpr z)))
theorem pd_icmp_lt (hx : p.tables.exec = Jvm.exec) (hb : c.code = cc) {x y tgt : Nat} {off : Int} (h1 : x < 2147483648) (h2 : y < 2147483648) (hdg : decode cc pc = .ok (.if_icmp .lt off, 3)) (ht : (pc : Int) + off = (tgt : Int)) (kt : x < y → W p l e R s m args below meth c H locs cells slots Q (F0 m tgt ls rest)) (kf : y ≤ x → W p l e R s m args below meth c H locs cells slots Q (F0 m (pc + 3) ls rest)) : W p l e R s m args below meth c H locs cells slots Q (F0 m pc ls (.int (nI y) :: .int (nI x) :: rest)) :=
  lv_icmp_lt (tgt := tgt) hx hb hdg ht (fun q => kt ((nI_ltI h1 h2).mp q)) (fun q => kf (Nat.le_of_not_lt fun z => q ((nI_ltI h1 h2).mpr z)))
theorem pd_icmp_ne (hx : p.tables.exec = Jvm.exec) (hb : c.code = cc) {x y tgt : Nat} {off : Int} (h1 : x < 2147483648) (h2 : y < 2147483648) (hdg : decode cc pc = .ok (.if_icmp .ne off, 3)) (ht : (pc : Int) + off = (tgt : Int)) (kt : x ≠ y → W p l e R s m args below meth c H locs cells slots Q (F0 m tgt ls rest)) (kf : x = y → W p l e R s m args below meth c H locs cells slots Q (F0 m (pc + 3) ls rest)) : W p l e R s m args below meth c H locs cells slots Q (F0 m pc ls (.int (nI y) :: .int (nI x) :: rest)) :=
  lv_icmp_ne (tgt := tgt) hx hb hdg ht (fun q => kt (fun z => q (by rw [z]))) (fun q => kf ((nI_eq h1 h2).mp (by first | exact q | exact Classical.byContradiction q)))
theorem pd_icmp_eq (hx : p.tables.exec = Jvm.exec) (hb : c.code = cc) {x y tgt : Nat} {off : Int} (h1 : x < 2147483648) (h2 : y < 2147483648) (hdg : decode cc pc = .ok (.if_icmp .eq off, 3)) (ht : (pc : Int) + off = (tgt : Int)) (kt : x = y → W p l e R s m args below meth c H locs cells slots Q (F0 m tgt ls rest)) (kf : x ≠ y → W p l e R s m args below meth c H locs cells slots Q (F0 m (pc + 3) ls rest)) : W p l e R s m args below meth c H locs cells slots Q (F0 m pc ls (.int (nI y) :: .int (nI x) :: rest)) :=
  lv_icmp_eq (tgt := tgt) hx hb hdg ht (fun q => kt ((nI_eq h1 h2).mp q)) (fun q => kf (fun z => q (by rw [z])))
theorem pd_if_eq (hx : p.tables.exec = Jvm.exec) (hb : c.code = cc) {x tgt : Nat} {off : Int} (h1 : x < 2147483648) (hdg : decode cc pc = .ok (.ifCond .eq off, 3)) (ht : (pc : Int) + off = (tgt : Int)) (kt : x = 0 → W p l e R s m args below meth c H locs cells slots Q (F0 m tgt ls rest)) (kf : 0 < x → W p l e R s m args below meth c H locs cells slots Q (F0 m (pc + 3) ls rest)) : W p l e R s m args below meth c H locs cells slots Q (F0 m pc ls (.int (nI x) :: rest)) :=
  lv_if_eq (tgt := tgt) hx hb hdg ht (fun q => kt (Classical.byContradiction fun z => nI_ne0 (Nat.pos_of_ne_zero z) h1 q)) (fun q => kf (Nat.pos_of_ne_zero fun z => q (by rw [z]; rfl)))
theorem pd_if_ne (hx : p.tables.exec = Jvm.exec) (hb : c.code = cc) {x tgt : Nat} {off : Int} (h1 : x < 2147483648) (hdg : decode cc pc = .ok (.ifCond .ne off, 3)) (ht : (pc : Int) + off = (tgt : Int)) (kt : 0 < x → W p l e R s m args below meth c H locs cells slots Q (F0 m tgt ls rest)) (kf : x = 0 → W p l e R s m args below meth c H locs cells slots Q (F0 m (pc + 3) ls rest)) : W p l e R s m args below meth c H locs cells slots Q (F0 m pc ls (.int (nI x) :: rest)) :=
  lv_if_ne (tgt := tgt) hx hb hdg ht (fun q => kt (Nat.pos_of_ne_zero fun z => q (by rw [z]; rfl))) (fun q => kf (Classical.byContradiction fun z => nI_ne0 (Nat.pos_of_ne_zero z) h1 (by first | exact q | exact Classical.byContradiction q)))
/-- arrays -/
theorem pd_iald (hx : p.tables.exec = Jvm.exec) (hb : c.code = cc) (h : pd_W G A s H locs ws) (q0 : Nat) {n i : Nat} {f : Nat → Nat} (ha : ws[q0]? = some (a, .inl (pd_cI G, n, .inl (fun j => nI (f j))))) (hi : i < n) (hn : n < 2147483648) (hdg : decode cc pc = .ok (.iaload, 1)) (k : W p l e R s m args below meth c H locs cells slots Q (F0 m (pc + 1) ls (.int (nI (f i)) :: rest))) : W p l e R s m args below meth c H locs cells slots Q (F0 m pc ls (.int (nI i) :: .ref a :: rest)) := by
  refine va_iald hx hb h.1 h.2.2.2.1 q0 0 ha rfl (vp_in_nI hi hn) hdg ?_
  rw [nI_clamp (Nat.lt_trans hi hn)]
  exact k
theorem pd_cald (hx : p.tables.exec = Jvm.exec) (hb : c.code = cc) (h : pd_W G A s H locs ws) (q0 : Nat) {n i : Nat} {f : Nat → Nat} (ha : ws[q0]? = some (a, .inl (pd_cC G, n, .inl (fun j => nI (f j))))) (hi : i < n) (hn : n < 2147483648) (hdg : decode cc pc = .ok (.caload, 1)) (k : W p l e R s m args below meth c H locs cells slots Q (F0 m (pc + 1) ls (.int (nI (f i)) :: rest))) : W p l e R s m args below meth c H locs cells slots Q (F0 m pc ls (.int (nI i) :: .ref a :: rest)) := by
  refine va_cald hx hb h.1 h.2.2.2.1 q0 1 ha rfl (vp_in_nI hi hn) hdg ?_
  rw [nI_clamp (Nat.lt_trans hi hn)]
  exact k
theorem pd_bald (hx : p.tables.exec = Jvm.exec) (hb : c.code = cc) (h : pd_W G A s H locs ws) (q0 : Nat) {n i : Nat} {f : Nat → Nat} (ha : ws[q0]? = some (a, .inl (pd_cB G, n, .inl (fun j => sb_b (f j))))) (hi : i < n) (hn : n < 2147483648) (hdg : decode cc pc = .ok (.baload, 1)) (k : W p l e R s m args below meth c H locs cells slots Q (F0 m (pc + 1) ls (.int (sb_b (f i)) :: rest))) : W p l e R s m args below meth c H locs cells slots Q (F0 m pc ls (.int (nI i) :: .ref a :: rest)) := by
  refine va_bald hx hb h.1 h.2.2.2.1 q0 2 ha rfl (vp_in_nI hi hn) hdg ?_
  rw [nI_clamp (Nat.lt_trans hi hn)]
  exact k
theorem pd_iast (hx : p.tables.exec = Jvm.exec) (hb : c.code = cc) (h : pd_W G A s H locs ws) (q0 : Nat) {n i v : Nat} {f : Nat → Nat} (ha : ws[q0]? = some (a, .inl (pd_cI G, n, .inl (fun j => nI (f j))))) (hi : i < n) (hn : n < 2147483648) (hdg : decode cc pc = .ok (.iastore, 1)) (k : ∀ (H1 : Heap) (locs1 : List Loc), pd_W G A s H1 locs1 (ws.set q0 (a, .inl (pd_cI G, n, .inl (fun j => nI (va_up f i v j))))) → W p l e R s m args below meth c H1 locs1 cells slots Q (F0 m (pc + 1) ls rest)) : W p l e R s m args below meth c H locs cells slots Q (F0 m pc ls (.int (nI v) :: .int (nI i) :: .ref a :: rest)) := by
  obtain ⟨hK, hZ, hA, hP, hD, hS⟩ := h
  refine va_iast hx hb hK hP hD hS q0 0 ha rfl (vp_in_nI hi hn) hdg (fun H1 locs1 hP hD hS => ?_)
  rw [pd_updI (Nat.lt_trans hi hn)] at hP hD
  exact k H1 locs1 ⟨hK, hZ, hA, hP, hD, hS⟩
theorem pd_cast (hx : p.tables.exec = Jvm.exec) (hb : c.code = cc) (h : pd_W G A s H locs ws) (q0 : Nat) {n i v : Nat} {f : Nat → Nat} (ha : ws[q0]? = some (a, .inl (pd_cC G, n, .inl (fun j => nI (f j))))) (hi : i < n) (hn : n < 2147483648) (hv : v < 65536) (hdg : decode cc pc = .ok (.castore, 1)) (k : ∀ (H1 : Heap) (locs1 : List Loc), pd_W G A s H1 locs1 (ws.set q0 (a, .inl (pd_cC G, n, .inl (fun j => nI (va_up f i v j))))) → W p l e R s m args below meth c H1 locs1 cells slots Q (F0 m (pc + 1) ls rest)) : W p l e R s m args below meth c H locs cells slots Q (F0 m pc ls (.int (nI v) :: .int (nI i) :: .ref a :: rest)) := by
  obtain ⟨hK, hZ, hA, hP, hD, hS⟩ := h
  refine va_cast hx hb hK hP hD hS q0 1 ha rfl (vp_in_nI hi hn) hdg (fun H1 locs1 hP hD hS => ?_)
  rw [pd_nc hv, pd_updI (Nat.lt_trans hi hn)] at hP hD
  exact k H1 locs1 ⟨hK, hZ, hA, hP, hD, hS⟩
theorem pd_bast (hx : p.tables.exec = Jvm.exec) (hb : c.code = cc) (h : pd_W G A s H locs ws) (q0 : Nat) {n i v : Nat} {f : Nat → Nat} (ha : ws[q0]? = some (a, .inl (pd_cB G, n, .inl (fun j => sb_b (f j))))) (hi : i < n) (hn : n < 2147483648) (hdg : decode cc pc = .ok (.bastore, 1)) (k : ∀ (H1 : Heap) (locs1 : List Loc), pd_W G A s H1 locs1 (ws.set q0 (a, .inl (pd_cB G, n, .inl (fun j => sb_b (va_up f i v j))))) → W p l e R s m args below meth c H1 locs1 cells slots Q (F0 m (pc + 1) ls rest)) : W p l e R s m args below meth c H locs cells slots Q (F0 m pc ls (.int (sb_b v) :: .int (nI i) :: .ref a :: rest)) := by
  obtain ⟨hK, hZ, hA, hP, hD, hS⟩ := h
  refine va_bast hx hb hK hP hD hS q0 2 ha rfl (vp_in_nI hi hn) hdg (fun H1 locs1 hP hD hS => ?_)
  rw [pd_nb, pd_updB (Nat.lt_trans hi hn)] at hP hD
  exact k H1 locs1 ⟨hK, hZ, hA, hP, hD, hS⟩
theorem pd_alenI (hx : p.tables.exec = Jvm.exec) (hb : c.code = cc) (h : pd_W G A s H locs ws) (q0 : Nat) {n : Nat} {f : Nat → Int32} (ha : ws[q0]? = some (a, .inl (pd_cI G, n, .inl f))) (hdg : decode cc pc = .ok (.arraylength, 1)) (k : W p l e R s m args below meth c H locs cells slots Q (F0 m (pc + 1) ls (.int (nI n) :: rest))) : W p l e R s m args below meth c H locs cells slots Q (F0 m pc ls (.ref a :: rest)) := va_alen hx hb h.1 h.2.2.2.1 q0 0 ha (ty := .int) rfl rfl hdg k
theorem pd_alenC (hx : p.tables.exec = Jvm.exec) (hb : c.code = cc) (h : pd_W G A s H locs ws) (q0 : Nat) {n : Nat} {f : Nat → Int32} (ha : ws[q0]? = some (a, .inl (pd_cC G, n, .inl f))) (hdg : decode cc pc = .ok (.arraylength, 1)) (k : W p l e R s m args below meth c H locs cells slots Q (F0 m (pc + 1) ls (.int (nI n) :: rest))) : W p l e R s m args below meth c H locs cells slots Q (F0 m pc ls (.ref a :: rest)) := va_alen hx hb h.1 h.2.2.2.1 q0 1 ha (ty := .char) rfl rfl hdg k
theorem pd_alenB (hx : p.tables.exec = Jvm.exec) (hb : c.code = cc) (h : pd_W G A s H locs ws) (q0 : Nat) {n : Nat} {f : Nat → Int32} (ha : ws[q0]? = some (a, .inl (pd_cB G, n, .inl f))) (hdg : decode cc pc = .ok (.arraylength, 1)) (k : W p l e R s m args below meth c H locs cells slots Q (F0 m (pc + 1) ls (.int (nI n) :: rest))) : W p l e R s m args below meth c H locs cells slots Q (F0 m pc ls (.ref a :: rest)) := va_alen hx hb h.1 h.2.2.2.1 q0 2 ha (ty := .byte) rfl rfl hdg k
theorem pd_newI (hx : p.tables.exec = Jvm.exec) (hb : c.code = cc) (hts : ∀ w ∈ lw_all, w.before args s = true) (h : pd_W G A s H locs ws) {N : Nat} (hN : N ≤ 134217728) (hcells : cells + 1 ≤ R.cells) (hslots : slots + N ≤ R.slots) (hdg : decode cc pc = .ok (.newarray .int, 2)) (k : ∀ (q : Nat) (H1 : Heap), pd_W G A s H1 locs (ws ++ [(q, .inl (pd_cI G, N, .inl (fun _ => nI 0)))]) → W p l e R s m args below meth c H1 locs (cells + 1) (slots + N) Q (F0 m (pc + 2) ls (.ref q :: rest))) : W p l e R s m args below meth c H locs cells slots Q (F0 m pc ls (.int (nI N) :: rest)) := by
  obtain ⟨hK, hZ, hA, hP, hD, hS⟩ := h
  refine va_newa (atype := .int) (ty := .int) (a0 := (N, .inl (fun _ => nI 0))) hx hb (hts _ q410) rfl hK hP hD hS hA (fun cA => rfl) (nI_pos (by omega)) (nI_clamp (by omega)) (by show N * 4 ≤ 536870912; omega) hcells hslots hdg (fun q cA H1 hK1 hP1 hD1 hS1 => ?_)
  have e1 : s.vm.findClass ("[" ++ FieldType.int.toString) = some cA := (hK1.2 3 (cA, .int) rfl).2
  have e2 : s.vm.findClass ("[" ++ FieldType.int.toString) = some (pd_cI G) := (hK.2 0 (pd_cI G, .int) rfl).2
  obtain rfl : cA = pd_cI G := Option.some.inj (e1.symm.trans e2)
  exact k q H1 ⟨hK, hZ, hA, hP1, hD1, hS1⟩
theorem pd_newC (hx : p.tables.exec = Jvm.exec) (hb : c.code = cc) (hts : ∀ w ∈ lw_all, w.before args s = true) (h : pd_W G A s H locs ws) {N : Nat} (hN : N ≤ 134217728) (hcells : cells + 1 ≤ R.cells) (hslots : slots + N ≤ R.slots) (hdg : decode cc pc = .ok (.newarray .char, 2)) (k : ∀ (q : Nat) (H1 : Heap), pd_W G A s H1 locs (ws ++ [(q, .inl (pd_cC G, N, .inl (fun _ => nI 0)))]) → W p l e R s m args below meth c H1 locs (cells + 1) (slots + N) Q (F0 m (pc + 2) ls (.ref q :: rest))) : W p l e R s m args below meth c H locs cells slots Q (F0 m pc ls (.int (nI N) :: rest)) := by
  obtain ⟨hK, hZ, hA, hP, hD, hS⟩ := h
  refine va_newa (atype := .char) (ty := .char) (a0 := (N, .inl (fun _ => nI 0))) hx hb (hts _ q38) rfl hK hP hD hS hA (fun cA => rfl) (nI_pos (by omega)) (nI_clamp (by omega)) (by show N * 2 ≤ 536870912; omega) hcells hslots hdg (fun q cA H1 hK1 hP1 hD1 hS1 => ?_)
  have e1 : s.vm.findClass ("[" ++ FieldType.char.toString) = some cA := (hK1.2 3 (cA, .char) rfl).2
  have e2 : s.vm.findClass ("[" ++ FieldType.char.toString) = some (pd_cC G) := (hK.2 1 (pd_cC G, .char) rfl).2
  obtain rfl : cA = pd_cC G := Option.some.inj (e1.symm.trans e2)
  exact k q H1 ⟨hK, hZ, hA, hP1, hD1, hS1⟩
theorem pd_newB (hx : p.tables.exec = Jvm.exec) (hb : c.code = cc) (hts : ∀ w ∈ lw_all, w.before args s = true) (h : pd_W G A s H locs ws) {N : Nat} (hN : N ≤ 134217728) (hcells : cells + 1 ≤ R.cells) (hslots : slots + N ≤ R.slots) (hdg : decode cc pc = .ok (.newarray .byte, 2)) (k : ∀ (q : Nat) (H1 : Heap), pd_W G A s H1 locs (ws ++ [(q, .inl (pd_cB G, N, .inl (fun _ => sb_b 0)))]) → W p l e R s m args below meth c H1 locs (cells + 1) (slots + N) Q (F0 m (pc + 2) ls (.ref q :: rest))) : W p l e R s m args below meth c H locs cells slots Q (F0 m pc ls (.int (nI N) :: rest)) := by
  obtain ⟨hK, hZ, hA, hP, hD, hS⟩ := h
  refine va_newa (atype := .byte) (ty := .byte) (a0 := (N, .inl (fun _ => sb_b 0))) hx hb (hts _ q39) rfl hK hP hD hS hA (fun cA => by show arrV cA N (fun _ => .int (sb_b 0)) = arrV cA N (fun _ => .int 0); rw [show sb_b 0 = 0 from by decide]) (nI_pos (by omega)) (nI_clamp (by omega)) (by show N * 1 ≤ 536870912; omega) hcells hslots hdg (fun q cA H1 hK1 hP1 hD1 hS1 => ?_)
  have e1 : s.vm.findClass ("[" ++ FieldType.byte.toString) = some cA := (hK1.2 3 (cA, .byte) rfl).2
  have e2 : s.vm.findClass ("[" ++ FieldType.byte.toString) = some (pd_cB G) := (hK.2 2 (pd_cB G, .byte) rfl).2
  obtain rfl : cA = pd_cB G := Option.some.inj (e1.symm.trans e2)
  exact k q H1 ⟨hK, hZ, hA, hP1, hD1, hS1⟩
/-- fields -/
theorem pd_put (hx : p.tables.exec = Jvm.exec) (hb : c.code = cc) (hts : ∀ w ∈ lw_all, w.before args s = true) (hown : s.vm.findClass own = some m.cls) (h : pd_W G A s H locs ws) {ref C : String} {T : u_T} {N ci index : Nat} (hin : ∀ w ∈ u_ws C T N, w ∈ lw_all) (ty0 : Nat → FieldType) (hty : ∀ k, k < N → parseFieldDescriptor (T k).2.2.1 = some (ty0 k)) (hnm : ∀ a, a < N → ∀ b, b < N → a ≠ b → (T a).2.1 ≠ (T b).2.1) (q0 : Nat) {fs : List Value} (he : ws[q0]? = some (a, .inr (ci, fs))) (hc : vwCl[ci]? = some (C, T, N)) (k : Nat) (hk : k < N) (hlink : (Cond.fieldLink own index ref (T k).2.1 (T k).2.2.1).before args s = true) (hsame : ∀ x, s.fieldFound? (T k).1 (T k).2.1 (T k).2.2.1 = some x → s.fieldFound? ref (T k).2.1 (T k).2.2.1 = some x) (hfin : (T k).2.2.2 = false) {ty : FieldType} {v : Value} (hd : parseFieldDescriptor (T k).2.2.1 = some ty) (hn : narrow ty v = v) (hfit : fits ty v = true) (hl : k < fs.length)
    (hdg : decode cc pc = .ok (.putfield index, 3)) (kk : ∀ (H1 : Heap) (locs1 : List Loc), pd_W G A s H1 locs1 (ws.set q0 (a, .inr (ci, fs.set k v))) → W p l e R s m args below meth c H1 locs1 cells slots Q (F0 m (pc + 3) ls rest)) : W p l e R s m args below meth c H locs cells slots Q (F0 m pc ls (v :: .ref a :: rest)) := by
  obtain ⟨hK, hZ, hA, hP, hD, hS⟩ := h
  exact va_put hx hb hts hin ty0 hty hnm hown hK hP hD hS q0 he hc k hk hlink hsame hfin hd hn hfit hl hdg (fun H1 locs1 hP hD hS => kk H1 locs1 ⟨hK, hZ, hA, hP, hD, hS⟩)
theorem pd_putF (hx : p.tables.exec = Jvm.exec) (hb : c.code = cc) (hts : ∀ w ∈ lw_all, w.before args s = true) (hown : s.vm.findClass own = some m.cls) (h : pd_W G A s H locs ws) {ref C : String} {T : u_T} {N ci index : Nat} (hin : ∀ w ∈ u_ws C T N, w ∈ lw_all) (ty0 : Nat → FieldType) (hty : ∀ k, k < N → parseFieldDescriptor (T k).2.2.1 = some (ty0 k)) (hnm : ∀ a, a < N → ∀ b, b < N → a ≠ b → (T a).2.1 ≠ (T b).2.1) (q0 : Nat) {fs : List Value} (he : ws[q0]? = some (a, .inr (ci, fs))) (hc : vwCl[ci]? = some (C, T, N)) (k : Nat) (hk : k < N) (hlink : (Cond.fieldLink own index ref (T k).2.1 (T k).2.2.1).before args s = true) (hsame : ∀ x, s.fieldFound? (T k).1 (T k).2.1 (T k).2.2.1 = some x → s.fieldFound? ref (T k).2.1 (T k).2.2.1 = some x) (hfin : (T k).2.2.2 = true) (hin2 : meth.name = "<init>") (hdecl : (T k).1 = own) {ty : FieldType} {v : Value} (hd : parseFieldDescriptor (T k).2.2.1 = some ty) (hn : narrow ty v = v) (hfit : fits ty v = true) (hl : k < fs.length)
    (hdg : decode cc pc = .ok (.putfield index, 3)) (kk : ∀ (H1 : Heap) (locs1 : List Loc), pd_W G A s H1 locs1 (ws.set q0 (a, .inr (ci, fs.set k v))) → W p l e R s m args below meth c H1 locs1 cells slots Q (F0 m (pc + 3) ls rest)) : W p l e R s m args below meth c H locs cells slots Q (F0 m pc ls (v :: .ref a :: rest)) := by
  obtain ⟨hK, hZ, hA, hP, hD, hS⟩ := h
  exact va_putF hx hb hts hin ty0 hty hnm hown hK hP hD hS q0 he hc k hk hlink hsame hfin hin2 hdecl hd hn hfit hl hdg (fun H1 locs1 hP hD hS => kk H1 locs1 ⟨hK, hZ, hA, hP, hD, hS⟩)
theorem pd_new (hx : p.tables.exec = Jvm.exec) (hb : c.code = cc) (hts : ∀ w ∈ lw_all, w.before args s = true) (hown : s.vm.findClass own = some m.cls) (h : pd_W G A s H locs ws) {C : String} {T : u_T} {N ci index : Nat} (hin : ∀ w ∈ u_ws C T N, w ∈ lw_all) (ty : Nat → FieldType) (hty : ∀ k, k < N → parseFieldDescriptor (T k).2.2.1 = some (ty k)) (hcl : (Cond.classLink own index C).before args s = true) (hinst : (Cond.instantiable C N).before args s = true) (hini : (Cond.initialized C).before args s = true)
    (hc : vwCl[ci]? = some (C, T, N)) {fs : List Value} (hfs : ∀ j, j < N → defaultValue (ty j) = vp_V fs j) (hcells : cells + 1 ≤ R.cells) (hslots : slots + N ≤ R.slots) (hdg : decode cc pc = .ok (.new index, 3))
    (kk : ∀ (q : Nat) (H1 : Heap), pd_W G A s H1 locs (ws ++ [(q, .inr (ci, fs))]) → W p l e R s m args below meth c H1 locs (cells + 1) (slots + N) Q (F0 m (pc + 3) ls (.ref q :: rest))) : W p l e R s m args below meth c H locs cells slots Q (F0 m pc ls rest) := by
  obtain ⟨hK, hZ, hA, hP, hD, hS⟩ := h
  exact va_new hx hb hts hin ty hty hown hcl hinst hini hK hP hD hS hA hc hfs hcells hslots hdg (fun q H1 hP hD hS => kk q H1 ⟨hK, hZ, hA, hP, hD, hS⟩)
/-- statics, the coefficients' table, the constant "" -/
theorem pd_gsC (hx : p.tables.exec = Jvm.exec) (hb : c.code = cc) (hown : s.vm.findClass own = some m.cls) (h : pd_W G A s H locs ws) {index : Nat} (hlink : (Cond.fieldLink own index "java/lang/String" "COMPACT_STRINGS" "Z").before args s = true) (hdg : decode cc pc = .ok (.getstatic index, 3)) (k : W p l e R s m args below meth c H locs cells slots Q (F0 m (pc + 3) ls (.int (nI 1) :: rest))) : W p l e R s m args below meth c H locs cells slots Q (F0 m pc ls rest) := va_gets hx hb h.2.1.1 h.2.2.2.2.2 hown hlink (fun _ z => z) hdg k
theorem pd_gsA (hx : p.tables.exec = Jvm.exec) (hb : c.code = cc) (hown : s.vm.findClass own = some m.cls) (h : pd_W G A s H locs ws) {index : Nat} (hlink : (Cond.fieldLink own index "java/lang/StringUTF16" "$assertionsDisabled" "Z").before args s = true) (hdg : decode cc pc = .ok (.getstatic index, 3)) (k : W p l e R s m args below meth c H locs cells slots Q (F0 m (pc + 3) ls (.int (nI 1) :: rest))) : W p l e R s m args below meth c H locs cells slots Q (F0 m pc ls rest) := va_gets hx hb h.2.1.2.1 h.2.2.2.2.2 hown hlink (fun _ z => z) hdg k
theorem pd_gsH (hx : p.tables.exec = Jvm.exec) (hb : c.code = cc) (hown : s.vm.findClass own = some m.cls) (h : pd_W G A s H locs ws) {index : Nat} (hlink : (Cond.fieldLink own index "java/lang/StringUTF16" "HI_BYTE_SHIFT" "I").before args s = true) (hdg : decode cc pc = .ok (.getstatic index, 3)) (k : W p l e R s m args below meth c H locs cells slots Q (F0 m (pc + 3) ls (.int (nI 0) :: rest))) : W p l e R s m args below meth c H locs cells slots Q (F0 m pc ls rest) := va_gets hx hb h.2.1.2.2.1 h.2.2.2.2.2 hown hlink (fun _ z => z) hdg k
theorem pd_gsL (hx : p.tables.exec = Jvm.exec) (hb : c.code = cc) (hown : s.vm.findClass own = some m.cls) (h : pd_W G A s H locs ws) {index : Nat} (hlink : (Cond.fieldLink own index "java/lang/StringUTF16" "LO_BYTE_SHIFT" "I").before args s = true) (hdg : decode cc pc = .ok (.getstatic index, 3)) (k : W p l e R s m args below meth c H locs cells slots Q (F0 m (pc + 3) ls (.int (nI 8) :: rest))) : W p l e R s m args below meth c H locs cells slots Q (F0 m pc ls rest) := va_gets hx hb h.2.1.2.2.2.1 h.2.2.2.2.2 hown hlink (fun _ z => z) hdg k
theorem pd_gsF (hx : p.tables.exec = Jvm.exec) (hb : c.code = cc) (hown : s.vm.findClass own = some m.cls) (h : pd_W G A s H locs ws) {index : Nat} (hlink : (Cond.fieldLink own index "jdk/internal/util/Preconditions" "SIOOBE_FORMATTER" "Ljava/util/function/BiFunction;").before args s = true) (hdg : decode cc pc = .ok (.getstatic index, 3)) (k : ∀ r : Option Nat, W p l e R s m args below meth c H locs cells slots Q (F0 m (pc + 3) ls (va_rf r :: rest))) : W p l e R s m args below meth c H locs cells slots Q (F0 m pc ls rest) := by
  rcases h.2.1.2.2.2.2.1 with hz | ⟨t, hz⟩
  · exact va_gets hx hb hz h.2.2.2.2.2 hown hlink (fun _ z => z) hdg (k none)
  · exact va_gets hx hb hz h.2.2.2.2.2 hown hlink (fun _ z => z) hdg (k (some t))
theorem pd_gsE (hx : p.tables.exec = Jvm.exec) (hb : c.code = cc) (hown : s.vm.findClass own = some m.cls) (h : pd_W G A s H locs ws) {index : Nat} (hlink : (Cond.fieldLink own index "PDF417ErrorCorrection" "EC_COEFFICIENTS" "[[I").before args s = true) (hdg : decode cc pc = .ok (.getstatic index, 3)) (k : W p l e R s m args below meth c H locs cells slots Q (F0 m (pc + 3) ls (.ref (pd_tE G) :: rest))) : W p l e R s m args below meth c H locs cells slots Q (F0 m pc ls rest) := va_gets hx hb h.2.1.2.2.2.2.2.1 h.2.2.2.2.2 hown hlink (fun _ z => z) hdg k
theorem pd_tabE (hx : p.tables.exec = Jvm.exec) (hb : c.code = cc) (h : pd_W G A s H locs ws) {i : Nat} (hi : i < 8) (hdg : decode cc pc = .ok (.aaload, 1)) (k : W p l e R s m args below meth c H locs cells slots Q (F0 m (pc + 1) ls (.ref (pd_tR G i) :: rest))) : W p l e R s m args below meth c H locs cells slots Q (F0 m pc ls (.int (nI i) :: .ref (pd_tE G) :: rest)) := by
  obtain ⟨cell, h1, h2, h3, h4, h5, h6, h7⟩ := h.2.1.2.2.2.2.2.2.1
  have hS := h.2.2.2.2.2
  have hcl : (nI i).toNatClampNeg = i := nI_clamp (by omega)
  have hin' : ¬ (nI i < 0 ∨ cell.slots.size ≤ (nI i).toNatClampNeg) := by
    intro q
    rcases q with q | q
    · exact nI_pos (by omega) q
    · rw [hcl] at q
      omega
  exact W.aald (v := .ref (pd_tR G i)) (ty := .array .int) hx hb (by rw [hS.2.1 _ (Array.getElem?_eq_some_iff.mp h1).1 h7]; exact h1) h2 rfl h3 hin' (by rw [hcl, h6 i (by omega)]) rfl rfl hdg k
theorem pd_tabR (hx : p.tables.exec = Jvm.exec) (hb : c.code = cc) (h : pd_W G A s H locs ws) {i j : Nat} (hi : i < 8) (hj : j < 2 ^ (i + 1)) (hdg : decode cc pc = .ok (.iaload, 1)) (k : W p l e R s m args below meth c H locs cells slots Q (F0 m (pc + 1) ls (.int (nI (pd_coef i j)) :: rest))) : W p l e R s m args below meth c H locs cells slots Q (F0 m pc ls (.int (nI j) :: .ref (pd_tR G i) :: rest)) := by
  have hp : 2 ^ (i + 1) ≤ 2 ^ 8 := Nat.pow_le_pow_right (by decide) (by omega)
  exact va_ti hx hb (h.2.1.2.2.2.2.2.2.2.1 i hi) h.2.2.2.2.2 (vp_in_nI hj (by omega)) (by rw [nI_clamp (by omega)]) hdg k
theorem pd_emp (h : pd_W G A s H locs ws) : va_O "java/lang/String" (pd_qE G) A s s.heap ∧ va_OF "java/lang/String" "coder" "B" (.int 0) (pd_qE G) A s s.heap ∧ va_OF "java/lang/String" "value" "[B" (.ref (pd_vE G)) (pd_qE G) A s s.heap ∧ va_T .byte (pd_vE G) 0 (fun j => .int (([[]] : List (List Int32)).getD 0 [] |>.getD j 0)) A s s.heap := h.2.1.2.2.2.2.2.2.2.2.2.2.1.1 0 (by decide)
theorem pd_ldcS (hx : p.tables.exec = Jvm.exec) (hb : c.code = cc) (hown : s.vm.findClass "java/lang/String" = some m.cls) (h : pd_W G A s H locs ws) (hdg : decode cc pc = .ok (.ldc 7, 2)) (k : W p l e R s m args below meth c H locs cells slots Q (F0 m (pc + 2) ls (.ref (pd_qE G) :: rest))) : W p l e R s m args below meth c H locs cells slots Q (F0 m pc ls rest) := va_ldcS hx hb hown h.2.1.2.2.2.2.2.2.2.2.1 hdg k
theorem pd_ldcD (hx : p.tables.exec = Jvm.exec) (hb : c.code = cc) (hown : s.vm.findClass "PdfParityDesk" = some m.cls) (h : pd_W G A s H locs ws) (hdg : decode cc pc = .ok (.ldc 13, 2)) (k : W p l e R s m args below meth c H locs cells slots Q (F0 m (pc + 2) ls (.ref (pd_qE G) :: rest))) : W p l e R s m args below meth c H locs cells slots Q (F0 m pc ls rest) := va_ldcS hx hb hown h.2.1.2.2.2.2.2.2.2.2.2.1 hdg k
theorem pd_recvE (h : pd_W G A s H locs ws) : ∃ cell : Cell, H[pd_qE G]? = some cell ∧ cell.vm.isStatics = false ∧ s.vm.findClass "java/lang/String" = some cell.cls := by
  obtain ⟨cell, h1, h2, h3, -⟩ := (pd_emp h).1.kept h.2.2.2.2.2.2.1
  exact ⟨cell, h1, h2, h3⟩
theorem pd_lenE (hx : p.tables.exec = Jvm.exec) (hb : c.code = cc) (h : pd_W G A s H locs ws) (hdg : decode cc pc = .ok (.arraylength, 1)) (k : W p l e R s m args below meth c H locs cells slots Q (F0 m (pc + 1) ls (.int (nI 0) :: rest))) : W p l e R s m args below meth c H locs cells slots Q (F0 m pc ls (.ref (pd_vE G) :: rest)) := va_tlen hx hb (pd_emp h).2.2.2 h.2.2.2.2.2 (v := nI 0) rfl hdg k
end PDB
section PDC
variable {p : Program} {l : Launch} {e : Env} {R : Room} {s : State} {m : MethodId} {args : Array Value} {below : List Frame} {meth : Method} {c : Code} {H : Heap} {locs : List Loc} {cells slots : Nat} {Q : State → Prop}
variable {cc : ByteArray} {nL pc : Nat} {own : String} {ls : Array Slot} {rest st0 : List Value} {G : pd_G} {A : Nat → Prop} {ws wc wr : va_W} {mc ms : Nat}
/-- an answer that is a known reference, or null -/
theorem pd_goq {a : Array Value} {S : Type} {post : Option Nat → S → Prop} {wf : S → va_W} (h : pd_W G A s H locs ws) (hr : va_Run p l e R s m args below meth c H locs cells slots mc ms (F0 m pc ls st0) rest (va_Qq post (fun u t => pd_F G (va_A wc H.size) (wf u) t) (va_A wc H.size) a) (va_A wc H.size))
    (isC isR : List Nat) (hC : isC.map (fun i => ws[i]?) = wc.map some) (hR : isR.map (fun i => ws[i]?) = wr.map some) (hn : va_nd isR = true) (hdis : ∀ i ∈ isR, i ∉ isC)
    (kk : ∀ (r : Option Nat) (u : S) (H1 : Heap) (locs1 : List Loc), post r u → pd_W G A s H1 locs1 (wr ++ wf u) → W p l e R s m args below meth c H1 locs1 (cells + mc) (slots + ms) Q (F0 m (pc + 3) ls (va_rf r :: rest))) :
    W p l e R s m args below meth c H locs cells slots Q (F0 m pc ls st0) := by
  obtain ⟨hK, hZ, hA, hP, hD, hS⟩ := h
  have hF := va_free (wc := wc) hD hS hA isC hC
  refine va_callq hr hS (fun q _ hq => hF q hq) hF (fun r u t H1 locs1 ht hvm hw hB hz1 hk1 hS => ?_)
  obtain ⟨hP1, hD1⟩ := hB
  rw [ht] at hP1
  obtain ⟨hP2, hD2⟩ := va_join (wr := wr) (w1 := wf u) hP hD isC isR hC hR hn hdis hk1 hF hP1 hD1
  exact kk r u H1 locs1 hw ⟨hK, hZ, hA, hP2, hD2, hS⟩
theorem pd_qret {S : Type} {post : Option Nat → S → Prop} {wf : S → va_W} {sz : Nat} {r : Option Nat} {v : Value} {rt : FieldType} (hx : p.tables.exec = Jvm.exec) (hb : c.code = cc) (hr : meth.sig.returnType = some rt) (hrt : (∃ n, rt = .object n) ∨ ∃ t, rt = .array t) (hv : v = va_rf r) (hlk : meth.locks = false) (h : pd_W G (va_A wc sz) s H locs ws) (u : S) (is : List Nat) (hn : va_nd is = true) (hs : is.map (fun i => ws[i]?) = (wf u).map some) (hp : post r u) (h1 : cells ≤ mc) (h2 : slots ≤ ms) (hdg : decode cc pc = .ok (.areturn, 1)) :
    W p l e R s m args below meth c H locs cells slots (MQ below (va_Qq post (fun u t => pd_F G (va_A wc sz) (wf u) t) (va_A wc sz)) args s mc ms (va_A wc sz)) (F0 m pc ls [v]) := by
  obtain ⟨hK, hZ, hA, hP, hD, hS⟩ := h
  subst hv
  refine W.widen h1 h2 ?_
  exact W.aret hx hb hr hrt (by cases r with
    | none => exact Or.inl rfl
    | some z => exact Or.inr ⟨z, rfl⟩) (fun t ht hW => ⟨⟨r, u, rfl, hp, by rw [ht]; exact pd_subP hP is hs, hD.sub is hn hs⟩, hS.F ht⟩) hS.2.2 hdg (hlocks := hlk)
/-- a byte array's clone, and the cast behind it -/
theorem pd_cloneB {a : Nat} (hx : p.tables.exec = Jvm.exec) (hb : c.code = cc) (hml : c.maxLocals = ls.size) (hown : s.vm.findClass own = some m.cls) (hts : ∀ w ∈ lw_all, w.before args s = true) (h : pd_W G A s H locs ws) {index : Nat} (hlink : (Cond.methodLink own index ⟨"[B", "clone", "()Ljava/lang/Object;"⟩).before args s = true) (q0 : Nat) {n : Nat} {f : Nat → Nat} (ha : ws[q0]? = some (a, .inl (pd_cB G, n, .inl (fun j => sb_b (f j))))) (hframes : 1 ≤ R.frames) (hlocals : (rest.map fun v => v.category).sum + 14 ≤ R.locals) (hcells : cells + 1 ≤ R.cells) (hslots : slots + n ≤ R.slots) (hdg : decode cc pc = .ok (.invokevirtual index, 3))
    (k : ∀ (q : Nat) (H1 : Heap), pd_W G A s H1 locs (ws ++ [(q, .inl (pd_cB G, n, .inl (fun j => sb_b (f j))))]) → W p l e R s m args below meth c H1 locs (cells + 1) (slots + n) Q (F0 m (pc + 3) ls (.ref q :: rest))) : W p l e R s m args below meth c H locs cells slots Q (F0 m pc ls (.ref a :: rest)) := by
  obtain ⟨hK, hZ, hA, hP, hD, hS⟩ := h
  have e2 : s.vm.findClass ("[" ++ FieldType.byte.toString) = some (pd_cB G) := (hK.2 2 (pd_cB G, .byte) rfl).2
  have hfit : ∀ (i : Nat) (v : Value), (vp_cell (pd_cB G) (n, .inl (fun j => sb_b (f j)))).slots[i]? = some v → fits .byte v = true := by
    intro i v hv
    have hv' : (arrV (pd_cB G) n (fun j => .int (sb_b (f j)))).slots[i]? = some v := hv
    have hi : i < n := by
      have := (Array.getElem?_eq_some_iff.mp hv').1
      rw [arrV_size] at this
      exact this
    rw [arrV_read _ _ hi] at hv'
    cases hv'
    exact sb_fitB (f i)
  exact va_clone hx hb hml hown hlink (hts _ q321) (hts _ q322) (hts _ q323) (hts _ q324) hZ.2.2.2.2.2.2.2.2.2.2.2.2.2 hK hP hD hS hA q0 2 ha rfl e2 hfit hframes hlocals hcells hslots hdg (fun q H1 hK1 hP1 hD1 hS1 => k q H1 ⟨hK, hZ, hA, hP1, hD1, hS1⟩)
theorem pd_castB {a : Nat} (hx : p.tables.exec = Jvm.exec) (hb : c.code = cc) (hown : s.vm.findClass own = some m.cls) (h : pd_W G A s H locs ws) {index : Nat} (hlink : (Cond.classLink own index "[B").before args s = true) (q0 : Nat) {x : vp_A} (ha : ws[q0]? = some (a, .inl (pd_cB G, x))) (hdg : decode cc pc = .ok (.checkcast index, 3)) (k : W p l e R s m args below meth c H locs cells slots Q (F0 m (pc + 3) ls (.ref a :: rest))) : W p l e R s m args below meth c H locs cells slots Q (F0 m pc ls (.ref a :: rest)) := by
  have e2 : s.vm.findClass ("[" ++ FieldType.byte.toString) = some (pd_cB G) := (h.1.2 2 (pd_cB G, .byte) rfl).2
  exact va_castA hx hb hown hlink h.2.2.2.1 q0 ha e2 hdg k
end PDC
end
section
/-! THE PLAIN LAW: the library's shift register and the reference's long division leave the same rest -/
theorem pd_pw_lt : ∀ k, pd_pw k < 929
  | 0 => by decide
  | k + 1 => Nat.mod_lt _ (by decide)
theorem pd_pf_lt : ∀ k i, pd_pf k i < 929
  | 0, i => by
    unfold pd_pf
    split <;> decide
  | k + 1, i => Nat.mod_lt _ (by decide)
theorem pd_pf_0 : ∀ k i, k < i → pd_pf k i = 0
  | 0, i, h => by
    unfold pd_pf
    rw [if_neg (by omega)]
  | k + 1, i, h => by
    unfold pd_pf
    rw [if_neg (by omega), pd_pf_0 k (i - 1) (by omega), pd_pf_0 k i (by omega), Nat.mul_zero]
/-- the register behind i words -/
def pd_e (k : Nat) (w : Nat → Nat) : Nat → Nat → Nat
  | 0, _ => 0
  | i + 1, j => ((if j = 0 then 0 else pd_e k w i (j - 1)) + (929 - (w i + pd_e k w i (k - 1)) % 929 * pd_pf k j % 929)) % 929
theorem pd_e_lt (k : Nat) (w : Nat → Nat) : ∀ i j, pd_e k w i j < 929
  | 0, j => show 0 < 929 by decide
  | i + 1, j => Nat.mod_lt _ (by decide)
theorem pd_e_0 (k : Nat) (w : Nat → Nat) (j : Nat) : pd_e k w 0 j = 0 := rfl
theorem pd_e_s (k : Nat) (w : Nat → Nat) (i j : Nat) : pd_e k w (i + 1) j = ((if j = 0 then 0 else pd_e k w i (j - 1)) + (929 - (w i + pd_e k w i (k - 1)) % 929 * pd_pf k j % 929)) % 929 := rfl
/-- the sign that is told at place q -/
def pd_out (k : Nat) (w : Nat → Nat) (n q : Nat) : Nat := (929 - pd_e k w n (k - 1 - q)) % 929
theorem pd_out_lt (k : Nat) (w : Nat → Nat) (n q : Nat) : pd_out k w n q < 929 := Nat.mod_lt _ (by decide)
/-- the reference's row, i steps done -/
def pd_row (k : Nat) (w : Nat → Nat) (n i x : Nat) : Nat := if x < i + k then ((if x < n then w x else 0) + pd_e k w i (k - 1 - (x - i))) % 929 else (if x < n then w x else 0)
theorem pd_row_0 {k : Nat} {w : Nat → Nat} {n x : Nat} (hw : ∀ j, w j < 929) : pd_row k w n 0 x = if x < n then w x else 0 := by
  have hx := hw x
  unfold pd_row
  rw [pd_e_0]
  by_cases h : x < n
  · rw [if_pos h]
    split
    · omega
    · rfl
  · rw [if_neg h]
    split <;> rfl
theorem pd_row_lt {k : Nat} {w : Nat → Nat} {n i x : Nat} (hw : ∀ j, w j < 929) : pd_row k w n i x < 929 := by
  have hx := hw x
  unfold pd_row
  split
  · exact Nat.mod_lt _ (by decide)
  · split
    · exact hx
    · decide
theorem pd_row_far {k : Nat} {w : Nat → Nat} {n i x : Nat} (h : i + k < x) : pd_row k w n i x = pd_row k w n (i + 1) x := by
  unfold pd_row
  rw [if_neg (show ¬ x < i + k by omega), if_neg (show ¬ x < i + 1 + k by omega)]
theorem pd_row_step {k : Nat} {w : Nat → Nat} {n i c : Nat} (hw : ∀ j, w j < 929) (hi : i < n) (hc : 1 ≤ c) (hk : c ≤ k) : (pd_row k w n i (i + c) + 929 - pd_row k w n i i * pd_pf k (k - c) % 929) % 929 = pd_row k w n (i + 1) (i + c) := by
  have hti : pd_row k w n i i = (w i + pd_e k w i (k - 1)) % 929 := by
    unfold pd_row
    rw [if_pos (by omega), if_pos hi, Nat.sub_self, Nat.sub_zero]
  have hr : pd_row k w n (i + 1) (i + c) = ((if i + c < n then w (i + c) else 0) + pd_e k w (i + 1) (k - c)) % 929 := by
    unfold pd_row
    rw [if_pos (by omega), show k - 1 - (i + c - (i + 1)) = k - c by omega]
  rw [hti, hr, pd_e_s]
  have hP : (w i + pd_e k w i (k - 1)) % 929 * pd_pf k (k - c) % 929 < 929 := Nat.mod_lt _ (by decide)
  generalize (w i + pd_e k w i (k - 1)) % 929 * pd_pf k (k - c) % 929 = P at hP ⊢
  have hW : (if i + c < n then w (i + c) else 0) < 929 := by
    have := hw (i + c)
    split <;> omega
  by_cases hck : c < k
  · have hx : pd_row k w n i (i + c) = ((if i + c < n then w (i + c) else 0) + pd_e k w i (k - c - 1)) % 929 := by
      unfold pd_row
      rw [if_pos (by omega), show k - 1 - (i + c - i) = k - c - 1 by omega]
    rw [hx, if_neg (show ¬ k - c = 0 by omega)]
    generalize (if i + c < n then w (i + c) else 0) = B at hW ⊢
    generalize pd_e k w i (k - c - 1) = D
    omega
  · have hx : pd_row k w n i (i + c) = (if i + c < n then w (i + c) else 0) := by
      unfold pd_row
      rw [if_neg (by omega)]
    rw [hx, if_pos (show k - c = 0 by omega)]
    generalize (if i + c < n then w (i + c) else 0) = B at hW ⊢
    omega
theorem pd_row_end {k : Nat} {w : Nat → Nat} {n q : Nat} (hq : q < k) : pd_row k w n n (n + q) = pd_e k w n (k - 1 - q) := by
  have h := pd_e_lt k w n (k - 1 - q)
  unfold pd_row
  rw [if_pos (by omega), if_neg (by omega), show n + q - n = q by omega]
  omega
theorem pd_one_shl : ∀ i, i < 8 → nI 1 <<< (nI (i + 1) &&& 31) = nI (2 ^ (i + 1)) := by decide +kernel
/-- one place of the generator's row -/
theorem pd_gen_s {kk i k v : Nat} {g : Nat → Nat} (h1 : ∀ x, i + 1 ≤ x → x ≤ k → g x = pd_pf (kk + 1) x) (h2 : ∀ x, x < i + 1 → g x = pd_pf kk x) (hv : v = ((if i = 0 then 0 else g (i - 1)) + (929 - pd_pw (kk + 1)) * g i) % 929) : (∀ x, i ≤ x → x ≤ k → va_up g i v x = pd_pf (kk + 1) x) ∧ (∀ x, x < i → va_up g i v x = pd_pf kk x) := by
  constructor
  · intro x hx hk
    by_cases e : x = i
    · subst e
      rw [va_up_self, hv, h2 x (by omega)]
      show _ = ((if x = 0 then 0 else pd_pf kk (x - 1)) + (929 - pd_pw (kk + 1)) * pd_pf kk x) % 929
      by_cases h0 : x = 0
      · rw [if_pos h0, if_pos h0]
      · rw [if_neg h0, if_neg h0, h2 (x - 1) (by omega)]
    · rw [va_up_ne g v e]
      exact h1 x (by omega) hk
  · intro x hx
    rw [va_up_ne g v (by omega)]
    exact h2 x (by omega)
theorem pd_gen_0 {kk k : Nat} {g : Nat → Nat} (h : ∀ x, x ≤ k → g x = pd_pf kk x) : (∀ x, kk + 2 ≤ x → x ≤ k → g x = pd_pf (kk + 1) x) := by
  intro x hx hk
  rw [h x hk, pd_pf_0 kk x (by omega), pd_pf_0 (kk + 1) x (by omega)]
/-- what stands up to a place, one more -/
theorem pd_fill {f t : Nat → Nat} {i v : Nat} (h : ∀ j, j < i → f j = t j) (hv : v = t i) : ∀ j, j < i + 1 → va_up f i v j = t j := by
  intro j hj
  by_cases e : j = i
  · subst e
    rw [va_up_self, hv]
  · rw [va_up_ne f v e]
    exact h j (by omega)
/-- the reference's row: one place of a step; the step's end -/
theorem pd_div_s {k n i c v : Nat} {w f : Nat → Nat} (hw : ∀ j, w j < 929) (hi : i < n) (hc : 1 ≤ c) (hk : c ≤ k) (h1 : ∀ x, i < x → x < i + c → f x = pd_row k w n (i + 1) x) (h2 : ∀ x, i + c ≤ x → x < n + k → f x = pd_row k w n i x) (hv : v = (pd_row k w n i (i + c) + 929 - pd_row k w n i i * pd_pf k (k - c) % 929) % 929) : (∀ x, i < x → x < i + (c + 1) → va_up f (i + c) v x = pd_row k w n (i + 1) x) ∧ (∀ x, i + (c + 1) ≤ x → x < n + k → va_up f (i + c) v x = pd_row k w n i x) := by
  constructor
  · intro x hx h9
    by_cases e : x = i + c
    · subst e
      rw [va_up_self, hv]
      exact pd_row_step hw hi hc hk
    · rw [va_up_ne f v e]
      exact h1 x hx (by omega)
  · intro x hx h9
    rw [va_up_ne f v (by omega)]
    exact h2 x (by omega) h9
theorem pd_div_e {k n i v : Nat} {w f : Nat → Nat} (h1 : ∀ x, i < x → x < i + (k + 1) → f x = pd_row k w n (i + 1) x) (h2 : ∀ x, i + (k + 1) ≤ x → x < n + k → f x = pd_row k w n i x) : ∀ x, i + 1 ≤ x → x < n + k → va_up f i v x = pd_row k w n (i + 1) x := by
  intro x hx h9
  rw [va_up_ne f v (by omega)]
  by_cases h : x < i + (k + 1)
  · exact h1 x (by omega) h
  · rw [h2 x (by omega) h9]
    exact pd_row_far (by omega)
/-- the register: one place of a step, from the top down; the step's end -/
theorem pd_reg_s {k i j v : Nat} {w f : Nat → Nat} (hj : 1 ≤ j) (h1 : ∀ x, j < x → x < k → f x = pd_e k w (i + 1) x) (h2 : ∀ x, x ≤ j → x < k → f x = pd_e k w i x) (hjk : j < k) (hv : v = (pd_e k w i (j - 1) + (929 - (w i + pd_e k w i (k - 1)) % 929 * pd_pf k j % 929)) % 929) : (∀ x, j - 1 < x → x < k → va_up f j v x = pd_e k w (i + 1) x) ∧ (∀ x, x ≤ j - 1 → x < k → va_up f j v x = pd_e k w i x) := by
  constructor
  · intro x hx h9
    by_cases e : x = j
    · subst e
      rw [va_up_self, hv, pd_e_s, if_neg (by omega)]
    · rw [va_up_ne f v e]
      exact h1 x (by omega) h9
  · intro x hx h9
    rw [va_up_ne f v (by omega)]
    exact h2 x (by omega) h9
theorem pd_reg_e {k i v : Nat} {w f : Nat → Nat} (h1 : ∀ x, 0 < x → x < k → f x = pd_e k w (i + 1) x) (hv : v = (929 - (w i + pd_e k w i (k - 1)) % 929 * pd_pf k 0 % 929) % 929) : ∀ x, x < k → va_up f 0 v x = pd_e k w (i + 1) x := by
  intro x h9
  by_cases e : x = 0
  · subst e
    rw [va_up_self, hv, pd_e_s, if_pos rfl, Nat.zero_add]
  · rw [va_up_ne f v e]
    exact h1 x (by omega) h9
end
section
/-! the leaves of the JDK that are reached -/
set_option maxRecDepth 100000
set_option maxHeartbeats 4000000 in
set_option maxRecDepth 100000 in
theorem met_chk (l : Launch) (G : pd_G) (i n : Nat) (rf : Option Nat) (sz : Nat) (hi : i < n) (hn : n < 2147483648) : Met l yJ1_checkIndex (ws_ yJ1_checkIndex cJ1_checkIndex 3 (some .int)) ({ frames := 0, cells := 0, slots := 0, locals := 0 } : Room) (va_Pc [.int (nI i), .int (nI n), va_rf rf] (pd_B G sz [])) (va_Qi (fun (r : Int32) (u : Unit) => r = nI i) (fun (u : Unit) t9 => pd_F G (va_A [] sz) ([]) t9) (va_A [] sz)) 0 0 (va_A [] sz) := by
  refine pd_start (by decide) (by cases rf <;> exact Nat.le_of_ble_eq_true rfl) ?_
  intro p e s m below meth co ls H locs ⟨hx, hb, hml, hown, hts⟩ hr hlk hnm hsz h hl
  have hown : s.vm.findClass RJ1 = some m.cls := hown
  have hl : lv_has ls 3 [(0, .int (nI i)), (1, .int (nI n)), (2, va_rf rf)] := hl
  refine lv_iload_n hx hb dJ1_checkIndex_0 rfl (lv_at hl 0 rfl) ?_
  refine lv_if_lt (tgt := 9) hx hb dJ1_checkIndex_1 (by decide) (fun z => absurd z (nI_pos (by omega))) (fun _ => ?_)
  refine lv_iload_n hx hb dJ1_checkIndex_4 rfl (lv_at hl 0 rfl) ?_
  refine lv_iload_n hx hb dJ1_checkIndex_5 rfl (lv_at hl 1 rfl) ?_
  refine pd_icmp_lt (tgt := 16) hx hb (by omega) (by omega) dJ1_checkIndex_6 (by decide) (fun c1 => ?_) (fun c1 => absurd c1 (by omega))
  refine lv_iload_n hx hb dJ1_checkIndex_16 rfl (lv_at hl 0 rfl) ?_
  exact pd_iret hx hb hr hlk h () [] (by decide) rfl rfl (by first | omega | (dsimp only; omega)) (by first | omega | (dsimp only; omega)) dJ1_checkIndex_17
set_option maxHeartbeats 4000000 in
set_option maxRecDepth 100000 in
theorem met_cfs (l : Launch) (G : pd_G) (a b n : Nat) (rf : Option Nat) (sz : Nat) (hi : a + b ≤ n) (hn : n < 2147483648) : Met l yJ1_checkFromIndexSize (ws_ yJ1_checkFromIndexSize cJ1_checkFromIndexSize 4 (some .int)) ({ frames := 0, cells := 0, slots := 0, locals := 0 } : Room) (va_Pc [.int (nI a), .int (nI b), .int (nI n), va_rf rf] (pd_B G sz [])) (va_Qi (fun (r : Int32) (u : Unit) => r = nI a) (fun (u : Unit) t9 => pd_F G (va_A [] sz) ([]) t9) (va_A [] sz)) 0 0 (va_A [] sz) := by
  refine pd_start (by decide) (by cases rf <;> exact Nat.le_of_ble_eq_true rfl) ?_
  intro p e s m below meth co ls H locs ⟨hx, hb, hml, hown, hts⟩ hr hlk hnm hsz h hl
  have hown : s.vm.findClass RJ1 = some m.cls := hown
  have hl : lv_has ls 4 [(0, .int (nI a)), (1, .int (nI b)), (2, .int (nI n)), (3, va_rf rf)] := hl
  refine lv_iload_n hx hb dJ1_checkFromIndexSize_0 rfl (lv_at hl 2 rfl) ?_
  refine lv_iload_n hx hb dJ1_checkFromIndexSize_1 rfl (lv_at hl 0 rfl) ?_
  refine lv_ior hx hb dJ1_checkFromIndexSize_2 ?_
  refine pd_top (y := (nI (n ||| a))) (pd_or n a) ?_
  refine lv_iload_n hx hb dJ1_checkFromIndexSize_3 rfl (lv_at hl 1 rfl) ?_
  refine lv_ior hx hb dJ1_checkFromIndexSize_4 ?_
  refine pd_top (y := (nI ((n ||| a) ||| b))) (pd_or (n ||| a) b) ?_
  refine lv_if_lt (tgt := 15) hx hb dJ1_checkFromIndexSize_5 (by decide) (fun z => absurd z (nI_pos (pd_or_lt (pd_or_lt (by omega) (by omega)) (by omega)))) (fun _ => ?_)
  refine lv_iload_n hx hb dJ1_checkFromIndexSize_8 rfl (lv_at hl 1 rfl) ?_
  refine lv_iload_n hx hb dJ1_checkFromIndexSize_9 rfl (lv_at hl 2 rfl) ?_
  refine lv_iload_n hx hb dJ1_checkFromIndexSize_10 rfl (lv_at hl 0 rfl) ?_
  refine pd_subI hx hb (by omega) dJ1_checkFromIndexSize_11 ?_
  refine pd_icmp_le (tgt := 23) hx hb (by omega) (by omega) dJ1_checkFromIndexSize_12 (by decide) (fun c1 => ?_) (fun c1 => absurd c1 (by omega))
  refine lv_iload_n hx hb dJ1_checkFromIndexSize_23 rfl (lv_at hl 0 rfl) ?_
  exact pd_iret hx hb hr hlk h () [] (by decide) rfl rfl (by first | omega | (dsimp only; omega)) (by first | omega | (dsimp only; omega)) dJ1_checkFromIndexSize_24
set_option maxHeartbeats 4000000 in
set_option maxRecDepth 100000 in
theorem met_sci (l : Launch) (G : pd_G) (i n : Nat) (sz : Nat) (hi : i < n) (hn : n < 2147483648) : Met l yJ0_checkIndex (ws_ yJ0_checkIndex cJ0_checkIndex 2 none) ({ frames := 1, cells := 0, slots := 0, locals := 22 } : Room) (va_Pc [.int (nI i), .int (nI n)] (pd_B G sz [])) (va_Qv (fun (u : Unit) => True) (fun (u : Unit) t9 => pd_F G (va_A [] sz) ([]) t9) (va_A [] sz)) 0 0 (va_A [] sz) := by
  refine pd_start (by decide) (Nat.le_of_ble_eq_true rfl) ?_
  intro p e s m below meth co ls H locs ⟨hx, hb, hml, hown, hts⟩ hr hlk hnm hsz h hl
  have hown : s.vm.findClass RJ0 = some m.cls := hown
  have hl : lv_has ls 2 [(0, .int (nI i)), (1, .int (nI n))] := hl
  refine lv_iload_n hx hb dJ0_checkIndex_0 rfl (lv_at hl 0 rfl) ?_
  refine lv_iload_n hx hb dJ0_checkIndex_1 rfl (lv_at hl 1 rfl) ?_
  refine pd_gsF hx hb hown h (hts _ q64) dJ0_checkIndex_2 (fun rf => ?_)
  refine pd_goi (wc := []) (wr := []) h (va_runS (As := [.int (nI i), .int (nI n), va_rf rf]) (rest := []) ⟨hx, hb, hml, hown, hts⟩ (met_chk l G i n rf H.size hi hn) (va_cwS 3 hts (lw_S q243 q244 q5 q245) rfl rfl rfl (by decide +kernel) ⟨Nat.le_of_ble_eq_true rfl, Nat.le_of_ble_eq_true rfl⟩) ⟨pd_blind, pd_pre h [] (by decide) rfl⟩ rfl rfl hl.1 rfl (lv_room (Nat.le_of_ble_eq_true rfl)) dJ0_checkIndex_5 ⟨(by first | omega | (dsimp only; omega)), (by first | omega | (dsimp only; omega))⟩) [] [] rfl rfl (by decide) (by decide) (fun r1 u H locs hp h => ?_)
  have h : pd_W G _ s H locs [] := h
  obtain rfl : r1 = (nI i) := hp
  refine lv_pop hx hb dJ0_checkIndex_8 rfl ?_
  exact pd_vret hx hb hr hlk h () [] (by decide) rfl trivial (by first | omega | (dsimp only; omega)) (by first | omega | (dsimp only; omega)) dJ0_checkIndex_9
set_option maxHeartbeats 4000000 in
set_option maxRecDepth 100000 in
theorem met_sbo (l : Launch) (G : pd_G) (a b n : Nat) (sz : Nat) (hi : a + b ≤ n) (hn : n < 2147483648) : Met l yJ0_checkBoundsOffCount (ws_ yJ0_checkBoundsOffCount cJ0_checkBoundsOffCount 3 (some .int)) ({ frames := 1, cells := 0, slots := 0, locals := 23 } : Room) (va_Pc [.int (nI a), .int (nI b), .int (nI n)] (pd_B G sz [])) (va_Qi (fun (r : Int32) (u : Unit) => r = nI a) (fun (u : Unit) t9 => pd_F G (va_A [] sz) ([]) t9) (va_A [] sz)) 0 0 (va_A [] sz) := by
  refine pd_start (by decide) (Nat.le_of_ble_eq_true rfl) ?_
  intro p e s m below meth co ls H locs ⟨hx, hb, hml, hown, hts⟩ hr hlk hnm hsz h hl
  have hown : s.vm.findClass RJ0 = some m.cls := hown
  have hl : lv_has ls 3 [(0, .int (nI a)), (1, .int (nI b)), (2, .int (nI n))] := hl
  refine lv_iload_n hx hb dJ0_checkBoundsOffCount_0 rfl (lv_at hl 0 rfl) ?_
  refine lv_iload_n hx hb dJ0_checkBoundsOffCount_1 rfl (lv_at hl 1 rfl) ?_
  refine lv_iload_n hx hb dJ0_checkBoundsOffCount_2 rfl (lv_at hl 2 rfl) ?_
  refine pd_gsF hx hb hown h (hts _ q64) dJ0_checkBoundsOffCount_3 (fun rf => ?_)
  refine pd_goi (wc := []) (wr := []) h (va_runS (As := [.int (nI a), .int (nI b), .int (nI n), va_rf rf]) (rest := []) ⟨hx, hb, hml, hown, hts⟩ (met_cfs l G a b n rf H.size hi hn) (va_cwS 4 hts (lw_S q66 q67 q5 q68) rfl rfl rfl (by decide +kernel) ⟨Nat.le_of_ble_eq_true rfl, Nat.le_of_ble_eq_true rfl⟩) ⟨pd_blind, pd_pre h [] (by decide) rfl⟩ rfl rfl hl.1 rfl (lv_room (Nat.le_of_ble_eq_true rfl)) dJ0_checkBoundsOffCount_6 ⟨(by first | omega | (dsimp only; omega)), (by first | omega | (dsimp only; omega))⟩) [] [] rfl rfl (by decide) (by decide) (fun r1 u H locs hp h => ?_)
  have h : pd_W G _ s H locs [] := h
  obtain rfl : r1 = (nI a) := hp
  exact pd_iret hx hb hr hlk h () [] (by decide) rfl rfl (by first | omega | (dsimp only; omega)) (by first | omega | (dsimp only; omega)) dJ0_checkBoundsOffCount_9
set_option maxHeartbeats 4000000 in
set_option maxRecDepth 100000 in
theorem met_ulen (l : Launch) (G : pd_G) (h0 n : Nat) (f : Nat → Nat) (sz : Nat) (hn : n < 2147483648) : Met l yJ2_length (ws_ yJ2_length cJ2_length 1 (some .int)) ({ frames := 0, cells := 0, slots := 0, locals := 0 } : Room) (va_Pc [.ref h0] (pd_B G sz [(h0, .inl (pd_cB G, n, .inl (fun j => sb_b (f j))))])) (va_Qi (fun (r : Int32) (u : Unit) => r = nI (n / 2)) (fun (u : Unit) t9 => pd_F G (va_A [(h0, .inl (pd_cB G, n, .inl (fun j => sb_b (f j))))] sz) ([(h0, .inl (pd_cB G, n, .inl (fun j => sb_b (f j))))]) t9) (va_A [(h0, .inl (pd_cB G, n, .inl (fun j => sb_b (f j))))] sz)) 0 0 (va_A [(h0, .inl (pd_cB G, n, .inl (fun j => sb_b (f j))))] sz) := by
  refine pd_start (by decide) (Nat.le_of_ble_eq_true rfl) ?_
  intro p e s m below meth co ls H locs ⟨hx, hb, hml, hown, hts⟩ hr hlk hnm hsz h hl
  have hown : s.vm.findClass RJ2 = some m.cls := hown
  have hl : lv_has ls 1 [(0, .ref h0)] := hl
  refine lv_aload_n hx hb dJ2_length_0 rfl (lv_at hl 0 rfl) ?_
  refine pd_alenB hx hb h 0 rfl dJ2_length_1 ?_
  refine lv_iconst (v := (nI 1)) hx hb dJ2_length_2 (by decide) ?_
  refine pd_shr (n := 1) hx hb (by decide) (by omega) dJ2_length_3 ?_
  exact pd_iret hx hb hr hlk h () [0] (by decide) rfl rfl (by first | omega | (dsimp only; omega)) (by first | omega | (dsimp only; omega)) dJ2_length_4
set_option maxHeartbeats 4000000 in
set_option maxRecDepth 100000 in
theorem met_uci (l : Launch) (G : pd_G) (i h0 n : Nat) (f : Nat → Nat) (sz : Nat) (hn : n < 2147483648) (hi : i < n / 2) : Met l yJ2_checkIndex (ws_ yJ2_checkIndex cJ2_checkIndex 2 none) ({ frames := 2, cells := 0, slots := 0, locals := 43 } : Room) (va_Pc [.int (nI i), .ref h0] (pd_B G sz [(h0, .inl (pd_cB G, n, .inl (fun j => sb_b (f j))))])) (va_Qv (fun (u : Unit) => True) (fun (u : Unit) t9 => pd_F G (va_A [(h0, .inl (pd_cB G, n, .inl (fun j => sb_b (f j))))] sz) ([(h0, .inl (pd_cB G, n, .inl (fun j => sb_b (f j))))]) t9) (va_A [(h0, .inl (pd_cB G, n, .inl (fun j => sb_b (f j))))] sz)) 0 0 (va_A [(h0, .inl (pd_cB G, n, .inl (fun j => sb_b (f j))))] sz) := by
  refine pd_start (by decide) (Nat.le_of_ble_eq_true rfl) ?_
  intro p e s m below meth co ls H locs ⟨hx, hb, hml, hown, hts⟩ hr hlk hnm hsz h hl
  have hown : s.vm.findClass RJ2 = some m.cls := hown
  have hl : lv_has ls 2 [(0, .int (nI i)), (1, .ref h0)] := hl
  refine lv_iload_n hx hb dJ2_checkIndex_0 rfl (lv_at hl 0 rfl) ?_
  refine lv_aload_n hx hb dJ2_checkIndex_1 rfl (lv_at hl 1 rfl) ?_
  refine pd_goi (wc := [(h0, .inl (pd_cB G, n, .inl (fun j => sb_b (f j))))]) (wr := []) h (va_runS (As := [.ref h0]) (rest := [.int (nI i)]) ⟨hx, hb, hml, hown, hts⟩ (met_ulen l G h0 n f H.size hn) (va_cwS 1 hts (lw_S q97 q98 q6 q99) rfl rfl rfl (by decide +kernel) ⟨Nat.le_of_ble_eq_true rfl, Nat.le_of_ble_eq_true rfl⟩) ⟨pd_blind, pd_pre h [0] (by decide) rfl⟩ rfl rfl hl.1 rfl (lv_room (Nat.le_of_ble_eq_true rfl)) dJ2_checkIndex_2 ⟨(by first | omega | (dsimp only; omega)), (by first | omega | (dsimp only; omega))⟩) [0] [] rfl rfl (by decide) (by decide) (fun r1 u H locs hp h => ?_)
  have h : pd_W G _ s H locs [(h0, .inl (pd_cB G, n, .inl (fun j => sb_b (f j))))] := h
  obtain rfl : r1 = (nI (n / 2)) := hp
  refine pd_gov (wc := []) (wr := [(h0, .inl (pd_cB G, n, .inl (fun j => sb_b (f j))))]) h (va_runS (As := [.int (nI i), .int (nI (n / 2))]) (rest := []) ⟨hx, hb, hml, hown, hts⟩ (met_sci l G i (n / 2) H.size hi (by omega)) (va_cwS 2 hts (lw_S q252 q241 q4 q242) rfl rfl rfl (by decide +kernel) ⟨Nat.le_of_ble_eq_true rfl, Nat.le_of_ble_eq_true rfl⟩) ⟨pd_blind, pd_pre h [] (by decide) rfl⟩ rfl rfl hl.1 rfl (lv_room (Nat.le_of_ble_eq_true rfl)) dJ2_checkIndex_5 ⟨(by first | omega | (dsimp only; omega)), (by first | omega | (dsimp only; omega))⟩) [] [0] rfl rfl (by decide) (by decide) (fun u H locs hp h => ?_)
  have h : pd_W G _ s H locs [(h0, .inl (pd_cB G, n, .inl (fun j => sb_b (f j))))] := h
  exact pd_vret hx hb hr hlk h () [0] (by decide) rfl trivial (by first | omega | (dsimp only; omega)) (by first | omega | (dsimp only; omega)) dJ2_checkIndex_8
set_option maxHeartbeats 4000000 in
set_option maxRecDepth 100000 in
theorem met_ubo (l : Launch) (G : pd_G) (a b h0 n : Nat) (f : Nat → Nat) (sz : Nat) (hn : n < 2147483648) (hi : a + b ≤ n / 2) : Met l yJ2_checkBoundsOffCount (ws_ yJ2_checkBoundsOffCount cJ2_checkBoundsOffCount 3 none) ({ frames := 2, cells := 0, slots := 0, locals := 45 } : Room) (va_Pc [.int (nI a), .int (nI b), .ref h0] (pd_B G sz [(h0, .inl (pd_cB G, n, .inl (fun j => sb_b (f j))))])) (va_Qv (fun (u : Unit) => True) (fun (u : Unit) t9 => pd_F G (va_A [(h0, .inl (pd_cB G, n, .inl (fun j => sb_b (f j))))] sz) ([(h0, .inl (pd_cB G, n, .inl (fun j => sb_b (f j))))]) t9) (va_A [(h0, .inl (pd_cB G, n, .inl (fun j => sb_b (f j))))] sz)) 0 0 (va_A [(h0, .inl (pd_cB G, n, .inl (fun j => sb_b (f j))))] sz) := by
  refine pd_start (by decide) (Nat.le_of_ble_eq_true rfl) ?_
  intro p e s m below meth co ls H locs ⟨hx, hb, hml, hown, hts⟩ hr hlk hnm hsz h hl
  have hown : s.vm.findClass RJ2 = some m.cls := hown
  have hl : lv_has ls 3 [(0, .int (nI a)), (1, .int (nI b)), (2, .ref h0)] := hl
  refine lv_iload_n hx hb dJ2_checkBoundsOffCount_0 rfl (lv_at hl 0 rfl) ?_
  refine lv_iload_n hx hb dJ2_checkBoundsOffCount_1 rfl (lv_at hl 1 rfl) ?_
  refine lv_aload_n hx hb dJ2_checkBoundsOffCount_2 rfl (lv_at hl 2 rfl) ?_
  refine pd_goi (wc := [(h0, .inl (pd_cB G, n, .inl (fun j => sb_b (f j))))]) (wr := []) h (va_runS (As := [.ref h0]) (rest := [.int (nI b), .int (nI a)]) ⟨hx, hb, hml, hown, hts⟩ (met_ulen l G h0 n f H.size hn) (va_cwS 1 hts (lw_S q97 q98 q6 q99) rfl rfl rfl (by decide +kernel) ⟨Nat.le_of_ble_eq_true rfl, Nat.le_of_ble_eq_true rfl⟩) ⟨pd_blind, pd_pre h [0] (by decide) rfl⟩ rfl rfl hl.1 rfl (lv_room (Nat.le_of_ble_eq_true rfl)) dJ2_checkBoundsOffCount_3 ⟨(by first | omega | (dsimp only; omega)), (by first | omega | (dsimp only; omega))⟩) [0] [] rfl rfl (by decide) (by decide) (fun r1 u H locs hp h => ?_)
  have h : pd_W G _ s H locs [(h0, .inl (pd_cB G, n, .inl (fun j => sb_b (f j))))] := h
  obtain rfl : r1 = (nI (n / 2)) := hp
  refine pd_goi (wc := []) (wr := [(h0, .inl (pd_cB G, n, .inl (fun j => sb_b (f j))))]) h (va_runS (As := [.int (nI a), .int (nI b), .int (nI (n / 2))]) (rest := []) ⟨hx, hb, hml, hown, hts⟩ (met_sbo l G a b (n / 2) H.size hi (by omega)) (va_cwS 3 hts (lw_S q113 q62 q4 q63) rfl rfl rfl (by decide +kernel) ⟨Nat.le_of_ble_eq_true rfl, Nat.le_of_ble_eq_true rfl⟩) ⟨pd_blind, pd_pre h [] (by decide) rfl⟩ rfl rfl hl.1 rfl (lv_room (Nat.le_of_ble_eq_true rfl)) dJ2_checkBoundsOffCount_6 ⟨(by first | omega | (dsimp only; omega)), (by first | omega | (dsimp only; omega))⟩) [] [0] rfl rfl (by decide) (by decide) (fun r3 u H locs hp h => ?_)
  have h : pd_W G _ s H locs [(h0, .inl (pd_cB G, n, .inl (fun j => sb_b (f j))))] := h
  obtain rfl : r3 = (nI a) := hp
  refine lv_pop hx hb dJ2_checkBoundsOffCount_9 rfl ?_
  exact pd_vret hx hb hr hlk h () [0] (by decide) rfl trivial (by first | omega | (dsimp only; omega)) (by first | omega | (dsimp only; omega)) dJ2_checkBoundsOffCount_10
set_option maxHeartbeats 4000000 in
set_option maxRecDepth 100000 in
theorem met_nbl (l : Launch) (G : pd_G) (n : Nat) (sz : Nat) (hn : n < 1073741823) : Met l yJ2_newBytesLength (ws_ yJ2_newBytesLength cJ2_newBytesLength 1 (some .int)) ({ frames := 0, cells := 0, slots := 0, locals := 0 } : Room) (va_Pc [.int (nI n)] (pd_B G sz [])) (va_Qi (fun (r : Int32) (u : Unit) => r = nI (n * 2)) (fun (u : Unit) t9 => pd_F G (va_A [] sz) ([]) t9) (va_A [] sz)) 0 0 (va_A [] sz) := by
  refine pd_start (by decide) (Nat.le_of_ble_eq_true rfl) ?_
  intro p e s m below meth co ls H locs ⟨hx, hb, hml, hown, hts⟩ hr hlk hnm hsz h hl
  have hown : s.vm.findClass RJ2 = some m.cls := hown
  have hl : lv_has ls 1 [(0, .int (nI n))] := hl
  refine lv_iload_n hx hb dJ2_newBytesLength_0 rfl (lv_at hl 0 rfl) ?_
  refine lv_if_ge (tgt := 12) hx hb dJ2_newBytesLength_1 (by decide) (fun _ => ?_) (fun z => absurd (nI_pos' (by omega)) z)
  refine lv_iload_n hx hb dJ2_newBytesLength_12 rfl (lv_at hl 0 rfl) ?_
  refine lv_ldc (v := 1073741823) hx hb hown (hts _ q91) dJ2_newBytesLength_13 ?_
  refine pd_top (y := (nI 1073741823)) (show (1073741823 : Int32) = nI 1073741823 from rfl) ?_
  refine pd_icmp_lt (tgt := 55) hx hb (by omega) (by omega) dJ2_newBytesLength_15 (by decide) (fun c1 => ?_) (fun c1 => absurd c1 (by omega))
  refine lv_iload_n hx hb dJ2_newBytesLength_55 rfl (lv_at hl 0 rfl) ?_
  refine lv_iconst (v := (nI 1)) hx hb dJ2_newBytesLength_56 (by decide) ?_
  refine pd_shl (n := 1) hx hb (by decide) (by omega) dJ2_newBytesLength_57 ?_
  refine pd_top (y := (nI (n * 2))) rfl ?_
  exact pd_iret hx hb hr hlk h () [] (by decide) rfl rfl (by first | omega | (dsimp only; omega)) (by first | omega | (dsimp only; omega)) dJ2_newBytesLength_58
set_option maxHeartbeats 4000000 in
set_option maxRecDepth 100000 in
theorem met_nbf (l : Launch) (G : pd_G) (n : Nat) (sz : Nat) (hn : n < 67108864) : Met l yJ2_newBytesFor (ws_ yJ2_newBytesFor cJ2_newBytesFor 1 (some (.array .byte))) ({ frames := 1, cells := 1, slots := n * 2, locals := 20 } : Room) (va_Pc [.int (nI n)] (pd_B G sz [])) (va_Qr (fun (u : Unit) => True) (fun (u : Unit) (q : Nat) t9 => pd_F G (va_A [] sz) ([(q, .inl (pd_cB G, n * 2, .inl (fun j => sb_b (pd_z j))))]) t9) (va_A [] sz)) 1 (n * 2) (va_A [] sz) := by
  refine pd_start (by decide) (Nat.le_of_ble_eq_true rfl) ?_
  intro p e s m below meth co ls H locs ⟨hx, hb, hml, hown, hts⟩ hr hlk hnm hsz h hl
  have hown : s.vm.findClass RJ2 = some m.cls := hown
  have hl : lv_has ls 1 [(0, .int (nI n))] := hl
  refine lv_iload_n hx hb dJ2_newBytesFor_0 rfl (lv_at hl 0 rfl) ?_
  refine pd_goi (wc := []) (wr := []) h (va_runS (As := [.int (nI n)]) (rest := []) ⟨hx, hb, hml, hown, hts⟩ (met_nbl l G n H.size (by omega)) (va_cwS 1 hts (lw_S q88 q89 q6 q90) rfl rfl rfl (by decide +kernel) ⟨Nat.le_of_ble_eq_true rfl, Nat.le_of_ble_eq_true rfl⟩) ⟨pd_blind, pd_pre h [] (by decide) rfl⟩ rfl rfl hl.1 rfl (lv_room (Nat.le_of_ble_eq_true rfl)) dJ2_newBytesFor_1 ⟨(by first | omega | (dsimp only; omega)), (by first | omega | (dsimp only; omega))⟩) [] [] rfl rfl (by decide) (by decide) (fun r1 u H locs hp h => ?_)
  have h : pd_W G _ s H locs [] := h
  obtain rfl : r1 = (nI (n * 2)) := hp
  refine pd_newB hx hb hts h (by omega) (by first | omega | (dsimp only; omega)) (by first | omega | (dsimp only; omega)) dJ2_newBytesFor_4 (fun q9 H h => ?_)
  have h : pd_W G _ s H locs [(q9, .inl (pd_cB G, n * 2, .inl (fun j => sb_b (pd_z j))))] := h
  exact pd_aret hx hb hr (Or.inr ⟨_, rfl⟩) hlk h () [0] (by decide) rfl trivial (by first | omega | (dsimp only; omega)) (by first | omega | (dsimp only; omega)) dJ2_newBytesFor_6
set_option maxHeartbeats 4000000 in
set_option maxRecDepth 100000 in
theorem met_upc (l : Launch) (G : pd_G) (h0 n i v : Nat) (f : Nat → Nat) (sz : Nat) (hn : n < 2147483648) (hi : 2 * i + 1 < n) (hv : v < 65536) : Met l yJ2_putChar (ws_ yJ2_putChar cJ2_putChar 3 none) ({ frames := 0, cells := 0, slots := 0, locals := 0 } : Room) (va_Pc [.ref h0, .int (nI i), .int (nI v)] (pd_B G sz [(h0, .inl (pd_cB G, n, .inl (fun j => sb_b (f j))))])) (va_Qv (fun (u : Unit) => True) (fun (u : Unit) t9 => pd_F G (va_A [(h0, .inl (pd_cB G, n, .inl (fun j => sb_b (f j))))] sz) ([(h0, .inl (pd_cB G, n, .inl (fun j => sb_b ((va_up (va_up f (2 * i) (v % 256)) (2 * i + 1) (v / 256)) j))))]) t9) (va_A [(h0, .inl (pd_cB G, n, .inl (fun j => sb_b (f j))))] sz)) 0 0 (va_A [(h0, .inl (pd_cB G, n, .inl (fun j => sb_b (f j))))] sz) := by
  refine pd_start (by decide) (Nat.le_of_ble_eq_true rfl) ?_
  intro p e s m below meth co ls H locs ⟨hx, hb, hml, hown, hts⟩ hr hlk hnm hsz h hl
  have hown : s.vm.findClass RJ2 = some m.cls := hown
  have hl : lv_has ls 3 [(0, .ref h0), (1, .int (nI i)), (2, .int (nI v))] := hl
  refine pd_gsA hx hb hown h (hts _ q95) dJ2_putChar_0 ?_
  refine pd_if_ne (tgt := 28) hx hb (by omega) dJ2_putChar_3 (by decide) (fun c1 => ?_) (fun c1 => absurd c1 (by omega))
  refine lv_iload_n hx hb dJ2_putChar_28 rfl (lv_at hl 1 rfl) ?_
  refine lv_iconst (v := (nI 1)) hx hb dJ2_putChar_29 (by decide) ?_
  refine pd_shl (n := 1) hx hb (by decide) (by omega) dJ2_putChar_30 ?_
  refine pd_top (y := (nI (2 * i))) (congrArg nI (by omega)) ?_
  refine lv_istore_n (lv' := [(1, .int (nI (2 * i))), (0, .ref h0), (2, .int (nI v))]) hx hb dJ2_putChar_31 rfl hl (by decide) rfl (fun ls hl => ?_)
  refine lv_aload_n hx hb dJ2_putChar_32 rfl (lv_at hl 1 rfl) ?_
  refine lv_iload_n hx hb dJ2_putChar_33 rfl (lv_at hl 0 rfl) ?_
  refine lv_iinc (v := (nI (2 * i + 1))) (lv' := [(1, .int (nI (2 * i + 1))), (0, .ref h0), (2, .int (nI v))]) hx hb dJ2_putChar_34 hl (k := 0) rfl (by rw [show Int32.ofInt 1 = nI 1 from rfl, nI_add]) (by decide) rfl (fun ls hl => ?_)
  refine lv_iload_n hx hb dJ2_putChar_37 rfl (lv_at hl 2 rfl) ?_
  refine pd_gsH hx hb hown h (hts _ q100) dJ2_putChar_38 ?_
  refine pd_shr (n := 0) hx hb (by decide) (by omega) dJ2_putChar_41 ?_
  refine pd_top (y := (nI v)) (congrArg nI (by omega)) ?_
  refine pd_i2bN hx hb dJ2_putChar_42 ?_
  refine pd_bast hx hb h 0 rfl (by omega) (by omega) dJ2_putChar_43 (fun H locs h => ?_)
  have h : pd_W G _ s H locs [(h0, .inl (pd_cB G, n, .inl (fun j => sb_b ((va_up f (2 * i) (v % 256)) j))))] := h
  refine lv_aload_n hx hb dJ2_putChar_44 rfl (lv_at hl 1 rfl) ?_
  refine lv_iload_n hx hb dJ2_putChar_45 rfl (lv_at hl 0 rfl) ?_
  refine lv_iload_n hx hb dJ2_putChar_46 rfl (lv_at hl 2 rfl) ?_
  refine pd_gsL hx hb hown h (hts _ q102) dJ2_putChar_47 ?_
  refine pd_shr (n := 8) hx hb (by decide) (by omega) dJ2_putChar_50 ?_
  refine pd_top (y := (nI (v / 256))) (congrArg nI (by omega)) ?_
  refine pd_i2bN hx hb dJ2_putChar_51 ?_
  refine pd_top (y := (sb_b (v / 256))) (congrArg sb_b (by omega)) ?_
  refine pd_bast hx hb h 0 rfl (by omega) (by omega) dJ2_putChar_52 (fun H locs h => ?_)
  have h : pd_W G _ s H locs [(h0, .inl (pd_cB G, n, .inl (fun j => sb_b ((va_up (va_up f (2 * i) (v % 256)) (2 * i + 1) (v / 256)) j))))] := h
  exact pd_vret hx hb hr hlk h () [0] (by decide) rfl trivial (by first | omega | (dsimp only; omega)) (by first | omega | (dsimp only; omega)) dJ2_putChar_53
set_option maxHeartbeats 4000000 in
set_option maxRecDepth 100000 in
theorem met_ugc (l : Launch) (G : pd_G) (h0 n i : Nat) (f : Nat → Nat) (sz : Nat) (hn : n < 2147483648) (hi : 2 * i + 1 < n) (h8 : f (2 * i) < 256) (h9 : f (2 * i + 1) < 256) : Met l yJ2_getChar (ws_ yJ2_getChar cJ2_getChar 2 (some .char)) ({ frames := 0, cells := 0, slots := 0, locals := 0 } : Room) (va_Pc [.ref h0, .int (nI i)] (pd_B G sz [(h0, .inl (pd_cB G, n, .inl (fun j => sb_b (f j))))])) (va_Qi (fun (r : Int32) (u : Unit) => r = nI (f (2 * i) + f (2 * i + 1) * 256)) (fun (u : Unit) t9 => pd_F G (va_A [(h0, .inl (pd_cB G, n, .inl (fun j => sb_b (f j))))] sz) ([(h0, .inl (pd_cB G, n, .inl (fun j => sb_b (f j))))]) t9) (va_A [(h0, .inl (pd_cB G, n, .inl (fun j => sb_b (f j))))] sz)) 0 0 (va_A [(h0, .inl (pd_cB G, n, .inl (fun j => sb_b (f j))))] sz) := by
  refine pd_start (by decide) (Nat.le_of_ble_eq_true rfl) ?_
  intro p e s m below meth co ls H locs ⟨hx, hb, hml, hown, hts⟩ hr hlk hnm hsz h hl
  have hown : s.vm.findClass RJ2 = some m.cls := hown
  have hl : lv_has ls 2 [(0, .ref h0), (1, .int (nI i))] := hl
  refine pd_gsA hx hb hown h (hts _ q95) dJ2_getChar_0 ?_
  refine pd_if_ne (tgt := 28) hx hb (by omega) dJ2_getChar_3 (by decide) (fun c1 => ?_) (fun c1 => absurd c1 (by omega))
  refine lv_iload_n hx hb dJ2_getChar_28 rfl (lv_at hl 1 rfl) ?_
  refine lv_iconst (v := (nI 1)) hx hb dJ2_getChar_29 (by decide) ?_
  refine pd_shl (n := 1) hx hb (by decide) (by omega) dJ2_getChar_30 ?_
  refine pd_top (y := (nI (2 * i))) (congrArg nI (by omega)) ?_
  refine lv_istore_n (lv' := [(1, .int (nI (2 * i))), (0, .ref h0)]) hx hb dJ2_getChar_31 rfl hl (by decide) rfl (fun ls hl => ?_)
  refine lv_aload_n hx hb dJ2_getChar_32 rfl (lv_at hl 1 rfl) ?_
  refine lv_iload_n hx hb dJ2_getChar_33 rfl (lv_at hl 0 rfl) ?_
  refine lv_iinc (v := (nI (2 * i + 1))) (lv' := [(1, .int (nI (2 * i + 1))), (0, .ref h0)]) hx hb dJ2_getChar_34 hl (k := 0) rfl (by rw [show Int32.ofInt 1 = nI 1 from rfl, nI_add]) (by decide) rfl (fun ls hl => ?_)
  refine pd_bald hx hb h 0 rfl (by omega) (by omega) dJ2_getChar_37 ?_
  refine lv_sipush (v := (nI 255)) hx hb dJ2_getChar_38 (by decide) ?_
  refine lv_iand hx hb dJ2_getChar_41 ?_
  refine pd_top (y := (nI (f (2 * i)))) (pd_and255 h8) ?_
  refine pd_gsH hx hb hown h (hts _ q100) dJ2_getChar_42 ?_
  refine pd_shl (n := 0) hx hb (by decide) (by omega) dJ2_getChar_45 ?_
  refine pd_top (y := (nI (f (2 * i)))) (congrArg nI (by omega)) ?_
  refine lv_aload_n hx hb dJ2_getChar_46 rfl (lv_at hl 1 rfl) ?_
  refine lv_iload_n hx hb dJ2_getChar_47 rfl (lv_at hl 0 rfl) ?_
  refine pd_bald hx hb h 0 rfl (by omega) (by omega) dJ2_getChar_48 ?_
  refine lv_sipush (v := (nI 255)) hx hb dJ2_getChar_49 (by decide) ?_
  refine lv_iand hx hb dJ2_getChar_52 ?_
  refine pd_top (y := (nI (f (2 * i + 1)))) (pd_and255 h9) ?_
  refine pd_gsL hx hb hown h (hts _ q102) dJ2_getChar_53 ?_
  refine pd_shl (n := 8) hx hb (by decide) (by omega) dJ2_getChar_56 ?_
  refine pd_top (y := (nI (f (2 * i + 1) * 256))) (congrArg nI (by omega)) ?_
  refine lv_ior hx hb dJ2_getChar_57 ?_
  refine pd_top (y := (nI (f (2 * i) + f (2 * i + 1) * 256))) (pd_or8 _ h8) ?_
  refine pd_i2cN hx hb (by omega) dJ2_getChar_58 ?_
  exact pd_zret hx hb hr (pk_charN (by omega)).1 hlk h () [0] (by decide) rfl rfl (by first | omega | (dsimp only; omega)) (by first | omega | (dsimp only; omega)) dJ2_getChar_59
set_option maxHeartbeats 4000000 in
set_option maxRecDepth 100000 in
theorem met_uca (l : Launch) (G : pd_G) (h0 n i : Nat) (f : Nat → Nat) (sz : Nat) (hn : n < 2147483648) (hi : i < n / 2) (h8 : f (2 * i) < 256) (h9 : f (2 * i + 1) < 256) : Met l yJ2_charAt (ws_ yJ2_charAt cJ2_charAt 2 (some .char)) ({ frames := 3, cells := 0, slots := 0, locals := 64 } : Room) (va_Pc [.ref h0, .int (nI i)] (pd_B G sz [(h0, .inl (pd_cB G, n, .inl (fun j => sb_b (f j))))])) (va_Qi (fun (r : Int32) (u : Unit) => r = nI (f (2 * i) + f (2 * i + 1) * 256)) (fun (u : Unit) t9 => pd_F G (va_A [(h0, .inl (pd_cB G, n, .inl (fun j => sb_b (f j))))] sz) ([(h0, .inl (pd_cB G, n, .inl (fun j => sb_b (f j))))]) t9) (va_A [(h0, .inl (pd_cB G, n, .inl (fun j => sb_b (f j))))] sz)) 0 0 (va_A [(h0, .inl (pd_cB G, n, .inl (fun j => sb_b (f j))))] sz) := by
  refine pd_start (by decide) (Nat.le_of_ble_eq_true rfl) ?_
  intro p e s m below meth co ls H locs ⟨hx, hb, hml, hown, hts⟩ hr hlk hnm hsz h hl
  have hown : s.vm.findClass RJ2 = some m.cls := hown
  have hl : lv_has ls 2 [(0, .ref h0), (1, .int (nI i))] := hl
  refine lv_iload_n hx hb dJ2_charAt_0 rfl (lv_at hl 1 rfl) ?_
  refine lv_aload_n hx hb dJ2_charAt_1 rfl (lv_at hl 0 rfl) ?_
  refine pd_gov (wc := [(h0, .inl (pd_cB G, n, .inl (fun j => sb_b (f j))))]) (wr := []) h (va_runS (As := [.int (nI i), .ref h0]) (rest := []) ⟨hx, hb, hml, hown, hts⟩ (met_uci l G i h0 n f H.size hn hi) (va_cwS 2 hts (lw_S q249 q250 q6 q251) rfl rfl rfl (by decide +kernel) ⟨Nat.le_of_ble_eq_true rfl, Nat.le_of_ble_eq_true rfl⟩) ⟨pd_blind, pd_pre h [0] (by decide) rfl⟩ rfl rfl hl.1 rfl (lv_room (Nat.le_of_ble_eq_true rfl)) dJ2_charAt_2 ⟨(by first | omega | (dsimp only; omega)), (by first | omega | (dsimp only; omega))⟩) [0] [] rfl rfl (by decide) (by decide) (fun u H locs hp h => ?_)
  have h : pd_W G _ s H locs [(h0, .inl (pd_cB G, n, .inl (fun j => sb_b (f j))))] := h
  refine lv_aload_n hx hb dJ2_charAt_5 rfl (lv_at hl 0 rfl) ?_
  refine lv_iload_n hx hb dJ2_charAt_6 rfl (lv_at hl 1 rfl) ?_
  refine pd_goi (wc := [(h0, .inl (pd_cB G, n, .inl (fun j => sb_b (f j))))]) (wr := []) h (va_runS (As := [.ref h0, .int (nI i)]) (rest := []) ⟨hx, hb, hml, hown, hts⟩ (met_ugc l G h0 n i f H.size hn (by omega) h8 h9) (va_cwS 2 hts (lw_S q104 q105 q6 q106) rfl rfl rfl (by decide +kernel) ⟨Nat.le_of_ble_eq_true rfl, Nat.le_of_ble_eq_true rfl⟩) ⟨pd_blind, pd_pre h [0] (by decide) rfl⟩ rfl rfl hl.1 rfl (lv_room (Nat.le_of_ble_eq_true rfl)) dJ2_charAt_7 ⟨(by first | omega | (dsimp only; omega)), (by first | omega | (dsimp only; omega))⟩) [0] [] rfl rfl (by decide) (by decide) (fun r2 u H locs hp h => ?_)
  have h : pd_W G _ s H locs [(h0, .inl (pd_cB G, n, .inl (fun j => sb_b (f j))))] := h
  obtain rfl : r2 = (nI (f (2 * i) + f (2 * i + 1) * 256)) := hp
  exact pd_zret hx hb hr (pk_charN (by omega)).1 hlk h () [0] (by decide) rfl rfl (by first | omega | (dsimp only; omega)) (by first | omega | (dsimp only; omega)) dJ2_charAt_10
set_option maxHeartbeats 4000000 in
set_option maxRecDepth 100000 in
theorem met_ups (l : Launch) (G : pd_G) (h0 n i v : Nat) (f : Nat → Nat) (sz : Nat) (hn : n < 2147483648) (hi : i < n / 2) (hv : v < 65536) : Met l yJ2_putCharSB (ws_ yJ2_putCharSB cJ2_putCharSB 3 none) ({ frames := 3, cells := 0, slots := 0, locals := 64 } : Room) (va_Pc [.ref h0, .int (nI i), .int (nI v)] (pd_B G sz [(h0, .inl (pd_cB G, n, .inl (fun j => sb_b (f j))))])) (va_Qv (fun (u : Unit) => True) (fun (u : Unit) t9 => pd_F G (va_A [(h0, .inl (pd_cB G, n, .inl (fun j => sb_b (f j))))] sz) ([(h0, .inl (pd_cB G, n, .inl (fun j => sb_b ((va_up (va_up f (2 * i) (v % 256)) (2 * i + 1) (v / 256)) j))))]) t9) (va_A [(h0, .inl (pd_cB G, n, .inl (fun j => sb_b (f j))))] sz)) 0 0 (va_A [(h0, .inl (pd_cB G, n, .inl (fun j => sb_b (f j))))] sz) := by
  refine pd_start (by decide) (Nat.le_of_ble_eq_true rfl) ?_
  intro p e s m below meth co ls H locs ⟨hx, hb, hml, hown, hts⟩ hr hlk hnm hsz h hl
  have hown : s.vm.findClass RJ2 = some m.cls := hown
  have hl : lv_has ls 3 [(0, .ref h0), (1, .int (nI i)), (2, .int (nI v))] := hl
  refine lv_iload_n hx hb dJ2_putCharSB_0 rfl (lv_at hl 1 rfl) ?_
  refine lv_aload_n hx hb dJ2_putCharSB_1 rfl (lv_at hl 0 rfl) ?_
  refine pd_gov (wc := [(h0, .inl (pd_cB G, n, .inl (fun j => sb_b (f j))))]) (wr := []) h (va_runS (As := [.int (nI i), .ref h0]) (rest := []) ⟨hx, hb, hml, hown, hts⟩ (met_uci l G i h0 n f H.size hn hi) (va_cwS 2 hts (lw_S q249 q250 q6 q251) rfl rfl rfl (by decide +kernel) ⟨Nat.le_of_ble_eq_true rfl, Nat.le_of_ble_eq_true rfl⟩) ⟨pd_blind, pd_pre h [0] (by decide) rfl⟩ rfl rfl hl.1 rfl (lv_room (Nat.le_of_ble_eq_true rfl)) dJ2_putCharSB_2 ⟨(by first | omega | (dsimp only; omega)), (by first | omega | (dsimp only; omega))⟩) [0] [] rfl rfl (by decide) (by decide) (fun u H locs hp h => ?_)
  have h : pd_W G _ s H locs [(h0, .inl (pd_cB G, n, .inl (fun j => sb_b (f j))))] := h
  refine lv_aload_n hx hb dJ2_putCharSB_5 rfl (lv_at hl 0 rfl) ?_
  refine lv_iload_n hx hb dJ2_putCharSB_6 rfl (lv_at hl 1 rfl) ?_
  refine lv_iload_n hx hb dJ2_putCharSB_7 rfl (lv_at hl 2 rfl) ?_
  refine pd_gov (wc := [(h0, .inl (pd_cB G, n, .inl (fun j => sb_b (f j))))]) (wr := []) h (va_runS (As := [.ref h0, .int (nI i), .int (nI v)]) (rest := []) ⟨hx, hb, hml, hown, hts⟩ (met_upc l G h0 n i v f H.size hn (by omega) hv) (va_cwS 3 hts (lw_S q92 q93 q6 q94) rfl rfl rfl (by decide +kernel) ⟨Nat.le_of_ble_eq_true rfl, Nat.le_of_ble_eq_true rfl⟩) ⟨pd_blind, pd_pre h [0] (by decide) rfl⟩ rfl rfl hl.1 rfl (lv_room (Nat.le_of_ble_eq_true rfl)) dJ2_putCharSB_8 ⟨(by first | omega | (dsimp only; omega)), (by first | omega | (dsimp only; omega))⟩) [0] [] rfl rfl (by decide) (by decide) (fun u H locs hp h => ?_)
  have h : pd_W G _ s H locs [(h0, .inl (pd_cB G, n, .inl (fun j => sb_b ((va_up (va_up f (2 * i) (v % 256)) (2 * i + 1) (v / 256)) j))))] := h
  exact pd_vret hx hb hr hlk h () [0] (by decide) rfl trivial (by first | omega | (dsimp only; omega)) (by first | omega | (dsimp only; omega)) dJ2_putCharSB_11
set_option maxHeartbeats 4000000 in
set_option maxRecDepth 100000 in
theorem met_ucl (l : Launch) (G : pd_G) (h0 n k : Nat) (f : Nat → Nat) (sz : Nat) (hk : k < 65536) (hn : n = k ∨ (n = k * 2 ∧ 0 < k)) : Met l yJ2_coderFromArrayLen (ws_ yJ2_coderFromArrayLen cJ2_coderFromArrayLen 2 (some .byte)) ({ frames := 0, cells := 0, slots := 0, locals := 0 } : Room) (va_Pc [.ref h0, .int (nI k)] (pd_B G sz [(h0, .inl (pd_cB G, n, .inl (fun j => sb_b (f j))))])) (va_Qi (fun (r : Int32) (u : Unit) => r = nI (if n = k then 0 else 1)) (fun (u : Unit) t9 => pd_F G (va_A [(h0, .inl (pd_cB G, n, .inl (fun j => sb_b (f j))))] sz) ([(h0, .inl (pd_cB G, n, .inl (fun j => sb_b (f j))))]) t9) (va_A [(h0, .inl (pd_cB G, n, .inl (fun j => sb_b (f j))))] sz)) 0 0 (va_A [(h0, .inl (pd_cB G, n, .inl (fun j => sb_b (f j))))] sz) := by
  refine pd_start (by decide) (Nat.le_of_ble_eq_true rfl) ?_
  intro p e s m below meth co ls H locs ⟨hx, hb, hml, hown, hts⟩ hr hlk hnm hsz h hl
  have hown : s.vm.findClass RJ2 = some m.cls := hown
  have hl : lv_has ls 2 [(0, .ref h0), (1, .int (nI k))] := hl
  refine lv_iload_n hx hb dJ2_coderFromArrayLen_0 rfl (lv_at hl 1 rfl) ?_
  refine lv_aload_n hx hb dJ2_coderFromArrayLen_1 rfl (lv_at hl 0 rfl) ?_
  refine pd_alenB hx hb h 0 rfl dJ2_coderFromArrayLen_2 ?_
  refine lv_isub hx hb dJ2_coderFromArrayLen_3 ?_
  refine lv_bipush (v := (nI 31)) hx hb dJ2_coderFromArrayLen_4 (by decide) ?_
  refine lv_iushr (v := nI (if n = k then 0 else 1)) hx hb dJ2_coderFromArrayLen_6 (pd_coder hk hn) ?_
  refine lv_i2b (v := nI (if n = k then 0 else 1)) hx hb dJ2_coderFromArrayLen_7 (by split <;> decide) ?_
  exact pd_zret hx hb hr (by split <;> decide) hlk h () [0] (by decide) rfl rfl (by first | omega | (dsimp only; omega)) (by first | omega | (dsimp only; omega)) dJ2_coderFromArrayLen_8
set_option maxHeartbeats 4000000 in
set_option maxRecDepth 100000 in
theorem met_lce (l : Launch) (G : pd_G) (v : Nat) (sz : Nat) (hv : v < 65536) : Met l yJ7_canEncode (ws_ yJ7_canEncode cJ7_canEncode 1 (some .boolean)) ({ frames := 0, cells := 0, slots := 0, locals := 0 } : Room) (va_Pc [.int (nI v)] (pd_B G sz [])) (va_Qi (fun (r : Int32) (u : Unit) => r = nI (if v < 256 then 1 else 0)) (fun (u : Unit) t9 => pd_F G (va_A [] sz) ([]) t9) (va_A [] sz)) 0 0 (va_A [] sz) := by
  refine pd_start (by decide) (Nat.le_of_ble_eq_true rfl) ?_
  intro p e s m below meth co ls H locs ⟨hx, hb, hml, hown, hts⟩ hr hlk hnm hsz h hl
  have hown : s.vm.findClass RJ7 = some m.cls := hown
  have hl : lv_has ls 1 [(0, .int (nI v))] := hl
  refine lv_iload_n hx hb dJ7_canEncode_0 rfl (lv_at hl 0 rfl) ?_
  refine lv_sipush (v := (nI 255)) hx hb dJ7_canEncode_1 (by decide) ?_
  refine pd_icmp_gt (tgt := 11) hx hb (by omega) (by omega) dJ7_canEncode_4 (by decide) (fun c1 => ?_) (fun c1 => ?_)
  · refine lv_iconst (v := (nI 0)) hx hb dJ7_canEncode_11 (by decide) ?_
    exact pd_zret hx hb hr rfl hlk h () [] (by decide) rfl (by rw [if_neg (by omega)]) (by first | omega | (dsimp only; omega)) (by first | omega | (dsimp only; omega)) dJ7_canEncode_12
  · refine lv_iconst (v := (nI 1)) hx hb dJ7_canEncode_7 (by decide) ?_
    refine lv_goto (tgt := 12) hx hb dJ7_canEncode_8 (by decide) ?_
    exact pd_zret hx hb hr rfl hlk h () [] (by decide) rfl (by rw [if_pos (by omega)]) (by first | omega | (dsimp only; omega)) (by first | omega | (dsimp only; omega)) dJ7_canEncode_12
set_option maxHeartbeats 4000000 in
set_option maxRecDepth 100000 in
theorem met_lca (l : Launch) (G : pd_G) (h0 n i : Nat) (f : Nat → Nat) (sz : Nat) (hn : n < 2147483648) (hi : i < n) (h8 : f i < 256) : Met l yJ7_charAt (ws_ yJ7_charAt cJ7_charAt 2 (some .char)) ({ frames := 2, cells := 0, slots := 0, locals := 43 } : Room) (va_Pc [.ref h0, .int (nI i)] (pd_B G sz [(h0, .inl (pd_cB G, n, .inl (fun j => sb_b (f j))))])) (va_Qi (fun (r : Int32) (u : Unit) => r = nI (f i)) (fun (u : Unit) t9 => pd_F G (va_A [(h0, .inl (pd_cB G, n, .inl (fun j => sb_b (f j))))] sz) ([(h0, .inl (pd_cB G, n, .inl (fun j => sb_b (f j))))]) t9) (va_A [(h0, .inl (pd_cB G, n, .inl (fun j => sb_b (f j))))] sz)) 0 0 (va_A [(h0, .inl (pd_cB G, n, .inl (fun j => sb_b (f j))))] sz) := by
  refine pd_start (by decide) (Nat.le_of_ble_eq_true rfl) ?_
  intro p e s m below meth co ls H locs ⟨hx, hb, hml, hown, hts⟩ hr hlk hnm hsz h hl
  have hown : s.vm.findClass RJ7 = some m.cls := hown
  have hl : lv_has ls 2 [(0, .ref h0), (1, .int (nI i))] := hl
  refine lv_iload_n hx hb dJ7_charAt_0 rfl (lv_at hl 1 rfl) ?_
  refine lv_aload_n hx hb dJ7_charAt_1 rfl (lv_at hl 0 rfl) ?_
  refine pd_alenB hx hb h 0 rfl dJ7_charAt_2 ?_
  refine pd_gov (wc := []) (wr := [(h0, .inl (pd_cB G, n, .inl (fun j => sb_b (f j))))]) h (va_runS (As := [.int (nI i), .int (nI n)]) (rest := []) ⟨hx, hb, hml, hown, hts⟩ (met_sci l G i n H.size hi hn) (va_cwS 2 hts (lw_S q240 q241 q4 q242) rfl rfl rfl (by decide +kernel) ⟨Nat.le_of_ble_eq_true rfl, Nat.le_of_ble_eq_true rfl⟩) ⟨pd_blind, pd_pre h [] (by decide) rfl⟩ rfl rfl hl.1 rfl (lv_room (Nat.le_of_ble_eq_true rfl)) dJ7_charAt_3 ⟨(by first | omega | (dsimp only; omega)), (by first | omega | (dsimp only; omega))⟩) [] [0] rfl rfl (by decide) (by decide) (fun u H locs hp h => ?_)
  have h : pd_W G _ s H locs [(h0, .inl (pd_cB G, n, .inl (fun j => sb_b (f j))))] := h
  refine lv_aload_n hx hb dJ7_charAt_6 rfl (lv_at hl 0 rfl) ?_
  refine lv_iload_n hx hb dJ7_charAt_7 rfl (lv_at hl 1 rfl) ?_
  refine pd_bald hx hb h 0 rfl (by omega) (by omega) dJ7_charAt_8 ?_
  refine lv_sipush (v := (nI 255)) hx hb dJ7_charAt_9 (by decide) ?_
  refine lv_iand hx hb dJ7_charAt_12 ?_
  refine pd_top (y := (nI (f i))) (pd_and255 h8) ?_
  refine pd_i2cN hx hb (by omega) dJ7_charAt_13 ?_
  exact pd_zret hx hb hr (pk_charN (by omega)).1 hlk h () [0] (by decide) rfl rfl (by first | omega | (dsimp only; omega)) (by first | omega | (dsimp only; omega)) dJ7_charAt_14
end
section
/-! strings out of chars, and what is asked of them -/
set_option maxRecDepth 100000
/-- nb bytes f hold the L letters t, Latin-1 (cd = 0) or two bytes a letter (cd = 1) -/
def pd_st (cd nb : Nat) (f : Nat → Nat) (L : Nat) (t : Nat → Nat) : Prop := (cd = 0 ∧ nb = L ∧ ∀ j, j < L → t j < 256 ∧ f j = t j) ∨ (cd = 1 ∧ nb = 2 * L ∧ ∀ j, j < L → t j < 65536 ∧ f (2 * j) = t j % 256 ∧ f (2 * j + 1) = t j / 256)
theorem pd_up_s {f : Nat → Nat} {k v : Nat} : va_up f k v k = v := va_up_self f k v
theorem pd_up_n {f : Nat → Nat} {k j v : Nat} (h : j ≠ k) : va_up f k v j = f j := va_up_ne f v h
/-- one more letter, Latin-1 -/
theorem pd_lat {f t : Nat → Nat} {i v : Nat} (h : ∀ j, j < i → t j < 256 ∧ f j = t j) (hv : v = t i) (h8 : t i < 256) : ∀ j, j < i + 1 → t j < 256 ∧ va_up f i v j = t j := by
  intro j hj
  by_cases e : j = i
  · subst e
    exact ⟨h8, by rw [pd_up_s]; exact hv⟩
  · rw [pd_up_n e]
    exact h j (by omega)
/-- one more letter, two bytes -/
theorem pd_two {f t : Nat → Nat} {i v w : Nat} (h : ∀ j, j < i → t j < 65536 ∧ f (2 * j) = t j % 256 ∧ f (2 * j + 1) = t j / 256) (hv : v = t i % 256) (hw : w = t i / 256) (h8 : t i < 65536) : ∀ j, j < i + 1 → t j < 65536 ∧ va_up (va_up f (2 * i) v) (2 * i + 1) w (2 * j) = t j % 256 ∧ va_up (va_up f (2 * i) v) (2 * i + 1) w (2 * j + 1) = t j / 256 := by
  intro j hj
  by_cases e : j = i
  · subst e
    refine ⟨h8, ?_, ?_⟩
    · rw [pd_up_n (by omega), pd_up_s, hv]
    · rw [pd_up_s, hw]
  · rw [pd_up_n (by omega), pd_up_n (by omega), pd_up_n (by omega), pd_up_n (by omega)]
    exact h j (by omega)
set_option maxHeartbeats 4000000 in
set_option maxRecDepth 100000 in
theorem met_cmp2 (l : Launch) (G : pd_G) (h0 h1 N k : Nat) (w g0 : Nat → Nat) (sz : Nat) (hN : N < 2147483648) (hk : k ≤ N) (hw : ∀ j, w j < 65536) : Met l yJ2_compress_2 (ws_ yJ2_compress_2 cJ2_compress_2 7 (some .int)) ({ frames := 0, cells := 0, slots := 0, locals := 0 } : Room) (va_Pc [.ref h0, .int (nI 0), .ref h1, .int (nI 0), .int (nI k)] (pd_B G sz [(h0, .inl (pd_cC G, N, .inl (fun j => nI (w j)))), (h1, .inl (pd_cB G, k, .inl (fun j => sb_b (g0 j))))])) (va_Qi (fun (r : Int32) (u : Nat → Nat) => ∃ i : Nat, r = nI i ∧ i ≤ k ∧ (∀ j, j < i → w j < 256 ∧ u j = w j) ∧ (i < k → 255 < w i)) (fun (u : Nat → Nat) t9 => pd_F G (va_A [(h0, .inl (pd_cC G, N, .inl (fun j => nI (w j)))), (h1, .inl (pd_cB G, k, .inl (fun j => sb_b (g0 j))))] sz) ([(h0, .inl (pd_cC G, N, .inl (fun j => nI (w j)))), (h1, .inl (pd_cB G, k, .inl (fun j => sb_b (u j))))]) t9) (va_A [(h0, .inl (pd_cC G, N, .inl (fun j => nI (w j)))), (h1, .inl (pd_cB G, k, .inl (fun j => sb_b (g0 j))))] sz)) 0 0 (va_A [(h0, .inl (pd_cC G, N, .inl (fun j => nI (w j)))), (h1, .inl (pd_cB G, k, .inl (fun j => sb_b (g0 j))))] sz) := by
  refine pd_start (by decide) (Nat.le_of_ble_eq_true rfl) ?_
  intro p e s m below meth co ls H locs ⟨hx, hb, hml, hown, hts⟩ hr hlk hnm hsz h hl
  have hown : s.vm.findClass RJ2 = some m.cls := hown
  have hl : lv_has ls 7 [(0, .ref h0), (1, .int (nI 0)), (2, .ref h1), (3, .int (nI 0)), (4, .int (nI k))] := hl
  refine lv_iconst (v := (nI 0)) hx hb dJ2_compress_2_0 (by decide) ?_
  refine lv_istore (lv' := [(5, .int (nI 0)), (0, .ref h0), (1, .int (nI 0)), (2, .ref h1), (3, .int (nI 0)), (4, .int (nI k))]) hx hb dJ2_compress_2_1 hl (by decide) rfl (fun ls hl => ?_)
  have key : ∀ (d : Nat) (i : Nat) (g : Nat → Nat) (H : Heap) (locs : List Loc) (ls : Array Slot), i + d = k → (∀ j, j < i → w j < 256 ∧ g j = w j) → pd_W G (va_A [(h0, .inl (pd_cC G, N, .inl (fun j => nI (w j)))), (h1, .inl (pd_cB G, k, .inl (fun j => sb_b (g0 j))))] sz) s H locs [(h0, .inl (pd_cC G, N, .inl (fun j => nI (w j)))), (h1, .inl (pd_cB G, k, .inl (fun j => sb_b (g j))))] → lv_has ls 7 [(0, .ref h0), (1, .int (nI i)), (2, .ref h1), (3, .int (nI i)), (4, .int (nI k)), (5, .int (nI i))] → W p l e ({ frames := 0, cells := 0, slots := 0, locals := 0 } : Room) s m ([.ref h0, .int (nI 0), .ref h1, .int (nI 0), .int (nI k)] : List Value).toArray below meth co H locs 0 0 (MQ below (va_Qi (fun (r : Int32) (u : Nat → Nat) => ∃ i : Nat, r = nI i ∧ i ≤ k ∧ (∀ j, j < i → w j < 256 ∧ u j = w j) ∧ (i < k → 255 < w i)) (fun (u : Nat → Nat) t9 => pd_F G (va_A [(h0, .inl (pd_cC G, N, .inl (fun j => nI (w j)))), (h1, .inl (pd_cB G, k, .inl (fun j => sb_b (g0 j))))] sz) ([(h0, .inl (pd_cC G, N, .inl (fun j => nI (w j)))), (h1, .inl (pd_cB G, k, .inl (fun j => sb_b (u j))))]) t9) (va_A [(h0, .inl (pd_cC G, N, .inl (fun j => nI (w j)))), (h1, .inl (pd_cB G, k, .inl (fun j => sb_b (g0 j))))] sz)) ([.ref h0, .int (nI 0), .ref h1, .int (nI 0), .int (nI k)] : List Value).toArray s 0 0 (va_A [(h0, .inl (pd_cC G, N, .inl (fun j => nI (w j)))), (h1, .inl (pd_cB G, k, .inl (fun j => sb_b (g0 j))))] sz)) (F0 m 3 ls []) := by
    intro d
    induction d with
    | zero =>
      intro i g H locs ls hi hg h hl
      refine lv_iload hx hb dJ2_compress_2_3 (lv_at hl 5 rfl) ?_
      refine lv_iload hx hb dJ2_compress_2_5 (lv_at hl 4 rfl) ?_
      refine pd_icmp_ge (tgt := 44) hx hb (by omega) (by omega) dJ2_compress_2_7 (by decide) (fun c1 => ?_) (fun c1 => absurd c1 (by omega))
      refine lv_iload hx hb dJ2_compress_2_44 (lv_at hl 4 rfl) ?_
      exact pd_iret hx hb hr hlk h g [0, 1] (by decide) rfl ⟨k, rfl, Nat.le_refl k, fun j hj => hg j (by omega), fun z => absurd z (Nat.lt_irrefl k)⟩ (by first | omega | (dsimp only; omega)) (by first | omega | (dsimp only; omega)) dJ2_compress_2_46
    | succ d ih =>
      intro i g H locs ls hi hg h hl
      refine lv_iload hx hb dJ2_compress_2_3 (lv_at hl 5 rfl) ?_
      refine lv_iload hx hb dJ2_compress_2_5 (lv_at hl 4 rfl) ?_
      refine pd_icmp_ge (tgt := 44) hx hb (by omega) (by omega) dJ2_compress_2_7 (by decide) (fun c1 => absurd c1 (by omega)) (fun c1 => ?_)
      refine lv_aload_n hx hb dJ2_compress_2_10 rfl (lv_at hl 0 rfl) ?_
      refine lv_iload_n hx hb dJ2_compress_2_11 rfl (lv_at hl 1 rfl) ?_
      refine pd_cald hx hb h 0 rfl (by omega) (by omega) dJ2_compress_2_12 ?_
      refine lv_istore (lv' := [(6, .int (nI (w i))), (0, .ref h0), (1, .int (nI i)), (2, .ref h1), (3, .int (nI i)), (4, .int (nI k)), (5, .int (nI i))]) hx hb dJ2_compress_2_13 hl (by decide) rfl (fun ls hl => ?_)
      refine lv_iload hx hb dJ2_compress_2_15 (lv_at hl 0 rfl) ?_
      refine lv_sipush (v := (nI 255)) hx hb dJ2_compress_2_17 (by decide) ?_
      refine pd_icmp_le (tgt := 26) hx hb (Nat.lt_trans (hw i) (by decide)) (by omega) dJ2_compress_2_20 (by decide) (fun c2 => ?_) (fun c2 => ?_)
      · refine lv_aload_n hx hb dJ2_compress_2_26 rfl (lv_at hl 3 rfl) ?_
        refine lv_iload_n hx hb dJ2_compress_2_27 rfl (lv_at hl 4 rfl) ?_
        refine lv_iload hx hb dJ2_compress_2_28 (lv_at hl 0 rfl) ?_
        refine pd_i2bN hx hb dJ2_compress_2_30 ?_
        refine pd_top (y := (sb_b (w i))) (congrArg sb_b (by omega)) ?_
        refine pd_bast hx hb h 1 rfl (by omega) (by omega) dJ2_compress_2_31 (fun H locs h => ?_)
        have h : pd_W G _ s H locs [(h0, .inl (pd_cC G, N, .inl (fun j => nI (w j)))), (h1, .inl (pd_cB G, k, .inl (fun j => sb_b ((va_up g i (w i)) j))))] := h
        refine lv_iinc (v := (nI (i + 1))) (lv' := [(1, .int (nI (i + 1))), (6, .int (nI (w i))), (0, .ref h0), (2, .ref h1), (3, .int (nI i)), (4, .int (nI k)), (5, .int (nI i))]) hx hb dJ2_compress_2_32 hl (k := 2) rfl (by rw [show Int32.ofInt 1 = nI 1 from rfl, nI_add]) (by decide) rfl (fun ls hl => ?_)
        refine lv_iinc (v := (nI (i + 1))) (lv' := [(3, .int (nI (i + 1))), (1, .int (nI (i + 1))), (6, .int (nI (w i))), (0, .ref h0), (2, .ref h1), (4, .int (nI k)), (5, .int (nI i))]) hx hb dJ2_compress_2_35 hl (k := 4) rfl (by rw [show Int32.ofInt 1 = nI 1 from rfl, nI_add]) (by decide) rfl (fun ls hl => ?_)
        refine lv_iinc (v := (nI (i + 1))) (lv' := [(5, .int (nI (i + 1))), (3, .int (nI (i + 1))), (1, .int (nI (i + 1))), (6, .int (nI (w i))), (0, .ref h0), (2, .ref h1), (4, .int (nI k))]) hx hb dJ2_compress_2_38 hl (k := 6) rfl (by rw [show Int32.ofInt 1 = nI 1 from rfl, nI_add]) (by decide) rfl (fun ls hl => ?_)
        refine lv_goto (tgt := 3) hx hb dJ2_compress_2_41 (by decide) ?_
        exact ih (i + 1) (va_up g i (w i)) H locs ls (by omega) (pd_lat hg rfl (by omega)) (h.sub [0, 1] (by decide) rfl) (lv_sub hl [4, 2, 5, 1, 6, 0] rfl)
      · refine lv_iload hx hb dJ2_compress_2_23 (lv_at hl 6 rfl) ?_
        exact pd_iret hx hb hr hlk h g [0, 1] (by decide) rfl ⟨i, rfl, by omega, hg, fun _ => c2⟩ (by first | omega | (dsimp only; omega)) (by first | omega | (dsimp only; omega)) dJ2_compress_2_25
  exact key k 0 g0 H locs ls (by omega) (fun j hj => absurd hj (Nat.not_lt_zero j)) (h.sub [0, 1] (by decide) rfl) (lv_sub hl [1, 2, 3, 4, 5, 0] rfl)
set_option maxHeartbeats 4000000 in
set_option maxRecDepth 100000 in
theorem met_utb (l : Launch) (G : pd_G) (h0 N k : Nat) (w : Nat → Nat) (sz : Nat) (hN : N < 2147483648) (hk : k ≤ N) (hk2 : k < 65536) (hw : ∀ j, w j < 65536) : Met l yJ2_toBytes (ws_ yJ2_toBytes cJ2_toBytes 5 (some (.array .byte))) ({ frames := 2, cells := 1, slots := k * 2, locals := 40 } : Room) (va_Pc [.ref h0, .int (nI 0), .int (nI k)] (pd_B G sz [(h0, .inl (pd_cC G, N, .inl (fun j => nI (w j))))])) (va_Qr (fun (u : Nat → Nat) => ∀ j, j < k → w j < 65536 ∧ u (2 * j) = w j % 256 ∧ u (2 * j + 1) = w j / 256) (fun (u : Nat → Nat) (q : Nat) t9 => pd_F G (va_A [(h0, .inl (pd_cC G, N, .inl (fun j => nI (w j))))] sz) ([(h0, .inl (pd_cC G, N, .inl (fun j => nI (w j)))), (q, .inl (pd_cB G, k * 2, .inl (fun j => sb_b (u j))))]) t9) (va_A [(h0, .inl (pd_cC G, N, .inl (fun j => nI (w j))))] sz)) 1 (k * 2) (va_A [(h0, .inl (pd_cC G, N, .inl (fun j => nI (w j))))] sz) := by
  refine pd_start (by decide) (Nat.le_of_ble_eq_true rfl) ?_
  intro p e s m below meth co ls H locs ⟨hx, hb, hml, hown, hts⟩ hr hlk hnm hsz h hl
  have hown : s.vm.findClass RJ2 = some m.cls := hown
  have hl : lv_has ls 5 [(0, .ref h0), (1, .int (nI 0)), (2, .int (nI k))] := hl
  refine lv_iload_n hx hb dJ2_toBytes_0 rfl (lv_at hl 2 rfl) ?_
  refine pd_gor (wc := []) (wr := [(h0, .inl (pd_cC G, N, .inl (fun j => nI (w j))))]) h (va_runS (As := [.int (nI k)]) (rest := []) ⟨hx, hb, hml, hown, hts⟩ (met_nbf l G k H.size (by omega)) (va_cwS 1 hts (lw_S q85 q86 q6 q87) rfl rfl rfl (by decide +kernel) ⟨Nat.le_of_ble_eq_true rfl, Nat.le_of_ble_eq_true rfl⟩) ⟨pd_blind, pd_pre h [] (by decide) rfl⟩ rfl rfl hl.1 rfl (lv_room (Nat.le_of_ble_eq_true rfl)) dJ2_toBytes_1 ⟨(by first | omega | (dsimp only; omega)), (by first | omega | (dsimp only; omega))⟩) [] [0] rfl rfl (by decide) (by decide) (fun u qb H locs hp h => ?_)
  have h : pd_W G _ s H locs [(h0, .inl (pd_cC G, N, .inl (fun j => nI (w j)))), (qb, .inl (pd_cB G, k * 2, .inl (fun j => sb_b (pd_z j))))] := h
  refine lv_astore_n (lv' := [(3, .ref qb), (0, .ref h0), (1, .int (nI 0)), (2, .int (nI k))]) hx hb dJ2_toBytes_4 rfl hl (by decide) rfl (fun ls hl => ?_)
  refine lv_iconst (v := (nI 0)) hx hb dJ2_toBytes_5 (by decide) ?_
  refine lv_istore (lv' := [(4, .int (nI 0)), (3, .ref qb), (0, .ref h0), (1, .int (nI 0)), (2, .int (nI k))]) hx hb dJ2_toBytes_6 hl (by decide) rfl (fun ls hl => ?_)
  have key : ∀ (d : Nat) (i : Nat) (g : Nat → Nat) (H : Heap) (locs : List Loc) (ls : Array Slot), i + d = k → (∀ j, j < i → w j < 65536 ∧ g (2 * j) = w j % 256 ∧ g (2 * j + 1) = w j / 256) → pd_W G (va_A [(h0, .inl (pd_cC G, N, .inl (fun j => nI (w j))))] sz) s H locs [(h0, .inl (pd_cC G, N, .inl (fun j => nI (w j)))), (qb, .inl (pd_cB G, k * 2, .inl (fun j => sb_b (g j))))] → lv_has ls 5 [(0, .ref h0), (1, .int (nI i)), (2, .int (nI k)), (3, .ref qb), (4, .int (nI i))] → W p l e ({ frames := 2, cells := 1, slots := k * 2, locals := 40 } : Room) s m ([.ref h0, .int (nI 0), .int (nI k)] : List Value).toArray below meth co H locs (0 + 1) (0 + k * 2) (MQ below (va_Qr (fun (u : Nat → Nat) => ∀ j, j < k → w j < 65536 ∧ u (2 * j) = w j % 256 ∧ u (2 * j + 1) = w j / 256) (fun (u : Nat → Nat) (q : Nat) t9 => pd_F G (va_A [(h0, .inl (pd_cC G, N, .inl (fun j => nI (w j))))] sz) ([(h0, .inl (pd_cC G, N, .inl (fun j => nI (w j)))), (q, .inl (pd_cB G, k * 2, .inl (fun j => sb_b (u j))))]) t9) (va_A [(h0, .inl (pd_cC G, N, .inl (fun j => nI (w j))))] sz)) ([.ref h0, .int (nI 0), .int (nI k)] : List Value).toArray s 1 (k * 2) (va_A [(h0, .inl (pd_cC G, N, .inl (fun j => nI (w j))))] sz)) (F0 m 8 ls []) := by
    intro d
    induction d with
    | zero =>
      intro i g H locs ls hi hg h hl
      refine lv_iload hx hb dJ2_toBytes_8 (lv_at hl 4 rfl) ?_
      refine lv_iload_n hx hb dJ2_toBytes_10 rfl (lv_at hl 2 rfl) ?_
      refine pd_icmp_ge (tgt := 32) hx hb (by omega) (by omega) dJ2_toBytes_11 (by decide) (fun c1 => ?_) (fun c1 => absurd c1 (by omega))
      refine lv_aload_n hx hb dJ2_toBytes_32 rfl (lv_at hl 3 rfl) ?_
      exact pd_aret hx hb hr (Or.inr ⟨_, rfl⟩) hlk h g [0, 1] (by decide) rfl (fun j hj => hg j (by omega)) (by first | omega | (dsimp only; omega)) (by first | omega | (dsimp only; omega)) dJ2_toBytes_33
    | succ d ih =>
      intro i g H locs ls hi hg h hl
      refine lv_iload hx hb dJ2_toBytes_8 (lv_at hl 4 rfl) ?_
      refine lv_iload_n hx hb dJ2_toBytes_10 rfl (lv_at hl 2 rfl) ?_
      refine pd_icmp_ge (tgt := 32) hx hb (by omega) (by omega) dJ2_toBytes_11 (by decide) (fun c1 => absurd c1 (by omega)) (fun c1 => ?_)
      refine lv_aload_n hx hb dJ2_toBytes_14 rfl (lv_at hl 3 rfl) ?_
      refine lv_iload hx hb dJ2_toBytes_15 (lv_at hl 4 rfl) ?_
      refine lv_aload_n hx hb dJ2_toBytes_17 rfl (lv_at hl 0 rfl) ?_
      refine lv_iload_n hx hb dJ2_toBytes_18 rfl (lv_at hl 1 rfl) ?_
      refine pd_cald hx hb h 0 rfl (by omega) (by omega) dJ2_toBytes_19 ?_
      refine pd_gov (wc := [(qb, .inl (pd_cB G, k * 2, .inl (fun j => sb_b (g j))))]) (wr := [(h0, .inl (pd_cC G, N, .inl (fun j => nI (w j))))]) h (va_runS (As := [.ref qb, .int (nI i), .int (nI (w i))]) (rest := []) ⟨hx, hb, hml, hown, hts⟩ (met_upc l G qb (k * 2) i (w i) g H.size (by omega) (by omega) (hw i)) (va_cwS 3 hts (lw_S q92 q93 q6 q94) rfl rfl rfl (by decide +kernel) ⟨Nat.le_of_ble_eq_true rfl, Nat.le_of_ble_eq_true rfl⟩) ⟨pd_blind, pd_pre h [1] (by decide) rfl⟩ rfl rfl hl.1 rfl (lv_room (Nat.le_of_ble_eq_true rfl)) dJ2_toBytes_20 ⟨(by first | omega | (dsimp only; omega)), (by first | omega | (dsimp only; omega))⟩) [1] [0] rfl rfl (by decide) (by decide) (fun u H locs hp h => ?_)
      have h : pd_W G _ s H locs [(h0, .inl (pd_cC G, N, .inl (fun j => nI (w j)))), (qb, .inl (pd_cB G, k * 2, .inl (fun j => sb_b ((va_up (va_up g (2 * i) (w i % 256)) (2 * i + 1) (w i / 256)) j))))] := h
      refine lv_iinc (v := (nI (i + 1))) (lv' := [(1, .int (nI (i + 1))), (0, .ref h0), (2, .int (nI k)), (3, .ref qb), (4, .int (nI i))]) hx hb dJ2_toBytes_23 hl (k := 1) rfl (by rw [show Int32.ofInt 1 = nI 1 from rfl, nI_add]) (by decide) rfl (fun ls hl => ?_)
      refine lv_iinc (v := (nI (i + 1))) (lv' := [(4, .int (nI (i + 1))), (1, .int (nI (i + 1))), (0, .ref h0), (2, .int (nI k)), (3, .ref qb)]) hx hb dJ2_toBytes_26 hl (k := 4) rfl (by rw [show Int32.ofInt 1 = nI 1 from rfl, nI_add]) (by decide) rfl (fun ls hl => ?_)
      refine lv_goto (tgt := 8) hx hb dJ2_toBytes_29 (by decide) ?_
      exact ih (i + 1) (va_up (va_up g (2 * i) (w i % 256)) (2 * i + 1) (w i / 256)) H _ ls (by omega) (pd_two hg rfl rfl (hw i)) (h.sub [0, 1] (by decide) rfl) (lv_sub hl [2, 1, 3, 4, 0] rfl)
  exact key k 0 pd_z H _ ls (by omega) (fun j hj => absurd hj (Nat.not_lt_zero j)) (h.sub [0, 1] (by decide) rfl) (lv_sub hl [2, 3, 4, 1, 0] rfl)
set_option maxHeartbeats 4000000 in
set_option maxRecDepth 100000 in
theorem met_cmp (l : Launch) (G : pd_G) (h0 N k : Nat) (w : Nat → Nat) (sz : Nat) (hN : N < 2147483648) (hk : k ≤ N) (hk2 : k < 65536) (hw : ∀ j, w j < 65536) : Met l yJ2_compress (ws_ yJ2_compress cJ2_compress 6 (some (.array .byte))) ({ frames := 3, cells := 2, slots := k * 3, locals := 64 } : Room) (va_Pc [.ref h0, .int (nI 0), .int (nI k)] (pd_B G sz [(h0, .inl (pd_cC G, N, .inl (fun j => nI (w j))))])) (va_Qr (fun (u : Nat × (Nat → Nat)) => ∃ cd : Nat, pd_st cd u.1 u.2 k w) (fun (u : Nat × (Nat → Nat)) (q : Nat) t9 => pd_F G (va_A [(h0, .inl (pd_cC G, N, .inl (fun j => nI (w j))))] sz) ([(h0, .inl (pd_cC G, N, .inl (fun j => nI (w j)))), (q, .inl (pd_cB G, u.1, .inl (fun j => sb_b (u.2 j))))]) t9) (va_A [(h0, .inl (pd_cC G, N, .inl (fun j => nI (w j))))] sz)) 2 (k * 3) (va_A [(h0, .inl (pd_cC G, N, .inl (fun j => nI (w j))))] sz) := by
  refine pd_start (by decide) (Nat.le_of_ble_eq_true rfl) ?_
  intro p e s m below meth co ls H locs ⟨hx, hb, hml, hown, hts⟩ hr hlk hnm hsz h hl
  have hown : s.vm.findClass RJ2 = some m.cls := hown
  have hl : lv_has ls 6 [(0, .ref h0), (1, .int (nI 0)), (2, .int (nI k))] := hl
  refine lv_iload_n hx hb dJ2_compress_0 rfl (lv_at hl 2 rfl) ?_
  refine pd_newB hx hb hts h (by omega) (by first | omega | (dsimp only; omega)) (by first | omega | (dsimp only; omega)) dJ2_compress_1 (fun qa H h => ?_)
  have h : pd_W G _ s H locs [(h0, .inl (pd_cC G, N, .inl (fun j => nI (w j)))), (qa, .inl (pd_cB G, k, .inl (fun j => sb_b (pd_z j))))] := h
  refine lv_astore_n (lv' := [(3, .ref qa), (0, .ref h0), (1, .int (nI 0)), (2, .int (nI k))]) hx hb dJ2_compress_3 rfl hl (by decide) rfl (fun ls hl => ?_)
  refine lv_aload_n hx hb dJ2_compress_4 rfl (lv_at hl 1 rfl) ?_
  refine lv_iload_n hx hb dJ2_compress_5 rfl (lv_at hl 2 rfl) ?_
  refine lv_aload_n hx hb dJ2_compress_6 rfl (lv_at hl 0 rfl) ?_
  refine lv_iconst (v := (nI 0)) hx hb dJ2_compress_7 (by decide) ?_
  refine lv_iload_n hx hb dJ2_compress_8 rfl (lv_at hl 3 rfl) ?_
  refine pd_goi (wc := [(h0, .inl (pd_cC G, N, .inl (fun j => nI (w j)))), (qa, .inl (pd_cB G, k, .inl (fun j => sb_b (pd_z j))))]) (wr := []) h (va_runS (As := [.ref h0, .int (nI 0), .ref qa, .int (nI 0), .int (nI k)]) (rest := []) ⟨hx, hb, hml, hown, hts⟩ (met_cmp2 l G h0 qa N k w pd_z H.size hN hk hw) (va_cwS 5 hts (lw_S q79 q80 q6 q81) rfl rfl rfl (by decide +kernel) ⟨Nat.le_of_ble_eq_true rfl, Nat.le_of_ble_eq_true rfl⟩) ⟨pd_blind, pd_pre h [0, 1] (by decide) rfl⟩ rfl rfl hl.1 rfl (lv_room (Nat.le_of_ble_eq_true rfl)) dJ2_compress_9 ⟨(by first | omega | (dsimp only; omega)), (by first | omega | (dsimp only; omega))⟩) [0, 1] [] rfl rfl (by decide) (by decide) (fun r1 ga H locs hp h => ?_)
  have h : pd_W G _ s H locs [(h0, .inl (pd_cC G, N, .inl (fun j => nI (w j)))), (qa, .inl (pd_cB G, k, .inl (fun j => sb_b (ga j))))] := h
  obtain ⟨i, hi, hik, hg, hb9⟩ := hp
  subst hi
  refine lv_istore (lv' := [(4, .int (nI i)), (3, .ref qa), (0, .ref h0), (1, .int (nI 0)), (2, .int (nI k))]) hx hb dJ2_compress_12 hl (by decide) rfl (fun ls hl => ?_)
  refine lv_iload hx hb dJ2_compress_14 (lv_at hl 0 rfl) ?_
  refine lv_iload_n hx hb dJ2_compress_16 rfl (lv_at hl 4 rfl) ?_
  refine pd_icmp_eq (tgt := 57) hx hb (by omega) (by omega) dJ2_compress_17 (by decide) (fun c3 => ?_) (fun c3 => ?_)
  · refine lv_aload_n hx hb dJ2_compress_57 rfl (lv_at hl 1 rfl) ?_
    exact pd_aret hx hb hr (Or.inr ⟨_, rfl⟩) hlk h (k, ga) [0, 1] (by decide) rfl ⟨0, Or.inl ⟨rfl, rfl, fun j hj => hg j (by omega)⟩⟩ (by first | omega | (dsimp only; omega)) (by first | omega | (dsimp only; omega)) dJ2_compress_58
  · refine lv_aload_n hx hb dJ2_compress_20 rfl (lv_at hl 2 rfl) ?_
    refine lv_iload_n hx hb dJ2_compress_21 rfl (lv_at hl 3 rfl) ?_
    refine lv_iload_n hx hb dJ2_compress_22 rfl (lv_at hl 4 rfl) ?_
    refine pd_gor (wc := [(h0, .inl (pd_cC G, N, .inl (fun j => nI (w j))))]) (wr := [(qa, .inl (pd_cB G, k, .inl (fun j => sb_b (ga j))))]) h (va_runS (As := [.ref h0, .int (nI 0), .int (nI k)]) (rest := []) ⟨hx, hb, hml, hown, hts⟩ (met_utb l G h0 N k w H.size hN hk hk2 hw) (va_cwS 3 hts (lw_S q82 q83 q6 q84) rfl rfl rfl (by decide +kernel) ⟨Nat.le_of_ble_eq_true rfl, Nat.le_of_ble_eq_true rfl⟩) ⟨pd_blind, pd_pre h [0] (by decide) rfl⟩ rfl rfl hl.1 rfl (lv_room (Nat.le_of_ble_eq_true rfl)) dJ2_compress_23 ⟨(by first | omega | (dsimp only; omega)), (by first | omega | (dsimp only; omega))⟩) [0] [1] rfl rfl (by decide) (by decide) (fun gt qt H locs ht h => ?_)
    have h : pd_W G _ s H locs [(qa, .inl (pd_cB G, k, .inl (fun j => sb_b (ga j)))), (h0, .inl (pd_cC G, N, .inl (fun j => nI (w j)))), (qt, .inl (pd_cB G, k * 2, .inl (fun j => sb_b (gt j))))] := h
    refine lv_astore (lv' := [(5, .ref qt), (4, .int (nI i)), (3, .ref qa), (0, .ref h0), (1, .int (nI 0)), (2, .int (nI k))]) hx hb dJ2_compress_26 hl (by decide) rfl (fun ls hl => ?_)
    refine lv_aload hx hb dJ2_compress_28 (lv_at hl 0 rfl) ?_
    refine lv_iload hx hb dJ2_compress_30 (lv_at hl 1 rfl) ?_
    have hti := ht i (by omega)
    have hbi := hb9 (by omega)
    refine pd_goi (wc := [(qt, .inl (pd_cB G, k * 2, .inl (fun j => sb_b (gt j))))]) (wr := [(qa, .inl (pd_cB G, k, .inl (fun j => sb_b (ga j)))), (h0, .inl (pd_cC G, N, .inl (fun j => nI (w j))))]) h (va_runS (As := [.ref qt, .int (nI i)]) (rest := []) ⟨hx, hb, hml, hown, hts⟩ (met_ugc l G qt (k * 2) i gt H.size (by omega) (by omega) (by omega) (by omega)) (va_cwS 2 hts (lw_S q104 q105 q6 q106) rfl rfl rfl (by decide +kernel) ⟨Nat.le_of_ble_eq_true rfl, Nat.le_of_ble_eq_true rfl⟩) ⟨pd_blind, pd_pre h [2] (by decide) rfl⟩ rfl rfl hl.1 rfl (lv_room (Nat.le_of_ble_eq_true rfl)) dJ2_compress_32 ⟨(by first | omega | (dsimp only; omega)), (by first | omega | (dsimp only; omega))⟩) [2] [0, 1] rfl rfl (by decide) (by decide) (fun r3 u H locs hp h => ?_)
    have h : pd_W G _ s H locs [(qa, .inl (pd_cB G, k, .inl (fun j => sb_b (ga j)))), (h0, .inl (pd_cC G, N, .inl (fun j => nI (w j)))), (qt, .inl (pd_cB G, k * 2, .inl (fun j => sb_b (gt j))))] := h
    obtain rfl : r3 = (nI (gt (2 * i) + gt (2 * i + 1) * 256)) := hp
    refine lv_sipush (v := (nI 255)) hx hb dJ2_compress_35 (by decide) ?_
    refine pd_icmp_gt (tgt := 54) hx hb (by omega) (by omega) dJ2_compress_38 (by decide) (fun c1 => ?_) (fun c1 => absurd c1 (by omega))
    refine lv_aload hx hb dJ2_compress_54 (lv_at hl 0 rfl) ?_
    exact pd_aret hx hb hr (Or.inr ⟨_, rfl⟩) hlk h (k * 2, gt) [1, 2] (by decide) rfl ⟨1, Or.inr ⟨rfl, by dsimp only; omega, ht⟩⟩ (by first | omega | (dsimp only; omega)) (by first | omega | (dsimp only; omega)) dJ2_compress_56
theorem pd_cdn {cd : Nat} (h : cd < 2) : narrow .byte (.int (nI cd)) = .int (nI cd) := by
  rcases (show cd = 0 ∨ cd = 1 by omega) with rfl | rfl <;> decide
theorem pd_cdf {cd : Nat} (h : cd < 2) : fits .byte (.int (nI cd)) = true := by
  rcases (show cd = 0 ∨ cd = 1 by omega) with rfl | rfl <;> decide
set_option maxHeartbeats 4000000 in
set_option maxRecDepth 100000 in
theorem met_scd (l : Launch) (G : pd_G) (h0 v cd : Nat) (sz : Nat) (hcd : cd < 2) : Met l yJ0_coder (ws_ yJ0_coder cJ0_coder 1 (some .byte)) ({ frames := 0, cells := 0, slots := 0, locals := 0 } : Room) (va_Pc [.ref h0] (pd_B G sz [(h0, .inr (2, [.ref v, .int (nI cd), .int (0), .int (0)]))])) (va_Qi (fun (r : Int32) (u : Unit) => r = nI cd) (fun (u : Unit) t9 => pd_F G (va_A [(h0, .inr (2, [.ref v, .int (nI cd), .int (0), .int (0)]))] sz) ([(h0, .inr (2, [.ref v, .int (nI cd), .int (0), .int (0)]))]) t9) (va_A [(h0, .inr (2, [.ref v, .int (nI cd), .int (0), .int (0)]))] sz)) 0 0 (va_A [(h0, .inr (2, [.ref v, .int (nI cd), .int (0), .int (0)]))] sz) := by
  refine pd_start (by decide) (Nat.le_of_ble_eq_true rfl) ?_
  intro p e s m below meth co ls H locs ⟨hx, hb, hml, hown, hts⟩ hr hlk hnm hsz h hl
  have hown : s.vm.findClass RJ0 = some m.cls := hown
  have hl : lv_has ls 1 [(0, .ref h0)] := hl
  refine pd_gsC hx hb hown h (hts _ q74) dJ0_coder_0 ?_
  refine pd_if_eq (tgt := 13) hx hb (by omega) dJ0_coder_3 (by decide) (fun c1 => absurd c1 (by omega)) (fun c1 => ?_)
  refine lv_aload_n hx hb dJ0_coder_6 rfl (lv_at hl 0 rfl) ?_
  refine va_get (D := pd_D G) (ci := 2) (v := .int (nI cd)) (C := RJ0) (T := TJ0) (N := 4) hx hb hts in_J0 hown h.1 h.2.2.2.1 0 rfl rfl 1 (by decide) (hts _ q119) (fun _ h9 => h9) rfl dJ0_coder_7 ?_
  refine lv_goto (tgt := 14) hx hb dJ0_coder_10 (by decide) ?_
  exact pd_zret hx hb hr (pd_cdn hcd) hlk h () [0] (by decide) rfl rfl (by first | omega | (dsimp only; omega)) (by first | omega | (dsimp only; omega)) dJ0_coder_14
set_option maxHeartbeats 4000000 in
set_option maxRecDepth 100000 in
theorem met_sl1 (l : Launch) (G : pd_G) (h0 v cd : Nat) (sz : Nat) (hcd : cd < 2) : Met l yJ0_isLatin1 (ws_ yJ0_isLatin1 cJ0_isLatin1 1 (some .boolean)) ({ frames := 0, cells := 0, slots := 0, locals := 0 } : Room) (va_Pc [.ref h0] (pd_B G sz [(h0, .inr (2, [.ref v, .int (nI cd), .int (0), .int (0)]))])) (va_Qi (fun (r : Int32) (u : Unit) => r = nI (if cd = 0 then 1 else 0)) (fun (u : Unit) t9 => pd_F G (va_A [(h0, .inr (2, [.ref v, .int (nI cd), .int (0), .int (0)]))] sz) ([(h0, .inr (2, [.ref v, .int (nI cd), .int (0), .int (0)]))]) t9) (va_A [(h0, .inr (2, [.ref v, .int (nI cd), .int (0), .int (0)]))] sz)) 0 0 (va_A [(h0, .inr (2, [.ref v, .int (nI cd), .int (0), .int (0)]))] sz) := by
  refine pd_start (by decide) (Nat.le_of_ble_eq_true rfl) ?_
  intro p e s m below meth co ls H locs ⟨hx, hb, hml, hown, hts⟩ hr hlk hnm hsz h hl
  have hown : s.vm.findClass RJ0 = some m.cls := hown
  have hl : lv_has ls 1 [(0, .ref h0)] := hl
  refine pd_gsC hx hb hown h (hts _ q74) dJ0_isLatin1_0 ?_
  refine pd_if_eq (tgt := 17) hx hb (by omega) dJ0_isLatin1_3 (by decide) (fun c1 => absurd c1 (by omega)) (fun c1 => ?_)
  refine lv_aload_n hx hb dJ0_isLatin1_6 rfl (lv_at hl 0 rfl) ?_
  refine va_get (D := pd_D G) (ci := 2) (v := .int (nI cd)) (C := RJ0) (T := TJ0) (N := 4) hx hb hts in_J0 hown h.1 h.2.2.2.1 0 rfl rfl 1 (by decide) (hts _ q119) (fun _ h9 => h9) rfl dJ0_isLatin1_7 ?_
  refine pd_if_ne (tgt := 17) hx hb (by omega) dJ0_isLatin1_10 (by decide) (fun c1 => ?_) (fun c1 => ?_)
  · refine lv_iconst (v := (nI 0)) hx hb dJ0_isLatin1_17 (by decide) ?_
    exact pd_zret hx hb hr rfl hlk h () [0] (by decide) rfl (by rw [if_neg (by omega)]) (by first | omega | (dsimp only; omega)) (by first | omega | (dsimp only; omega)) dJ0_isLatin1_18
  · refine lv_iconst (v := (nI 1)) hx hb dJ0_isLatin1_13 (by decide) ?_
    refine lv_goto (tgt := 18) hx hb dJ0_isLatin1_14 (by decide) ?_
    exact pd_zret hx hb hr rfl hlk h () [0] (by decide) rfl (by rw [if_pos (by omega)]) (by first | omega | (dsimp only; omega)) (by first | omega | (dsimp only; omega)) dJ0_isLatin1_18
set_option maxHeartbeats 4000000 in
set_option maxRecDepth 100000 in
theorem met_sle (l : Launch) (G : pd_G) (h0 v cd nb L : Nat) (f t : Nat → Nat) (sz : Nat) (hL : L < 65536) (hst : pd_st cd nb f L t) : Met l yJ0_length (ws_ yJ0_length cJ0_length 1 (some .int)) ({ frames := 1, cells := 0, slots := 0, locals := 20 } : Room) (va_Pc [.ref h0] (pd_B G sz [(h0, .inr (2, [.ref v, .int (nI cd), .int (0), .int (0)])), (v, .inl (pd_cB G, nb, .inl (fun j => sb_b (f j))))])) (va_Qi (fun (r : Int32) (u : Unit) => r = nI L) (fun (u : Unit) t9 => pd_F G (va_A [(h0, .inr (2, [.ref v, .int (nI cd), .int (0), .int (0)])), (v, .inl (pd_cB G, nb, .inl (fun j => sb_b (f j))))] sz) ([(h0, .inr (2, [.ref v, .int (nI cd), .int (0), .int (0)])), (v, .inl (pd_cB G, nb, .inl (fun j => sb_b (f j))))]) t9) (va_A [(h0, .inr (2, [.ref v, .int (nI cd), .int (0), .int (0)])), (v, .inl (pd_cB G, nb, .inl (fun j => sb_b (f j))))] sz)) 0 0 (va_A [(h0, .inr (2, [.ref v, .int (nI cd), .int (0), .int (0)])), (v, .inl (pd_cB G, nb, .inl (fun j => sb_b (f j))))] sz) := by
  refine pd_start (by decide) (Nat.le_of_ble_eq_true rfl) ?_
  intro p e s m below meth co ls H locs ⟨hx, hb, hml, hown, hts⟩ hr hlk hnm hsz h hl
  have hown : s.vm.findClass RJ0 = some m.cls := hown
  have hl : lv_has ls 1 [(0, .ref h0)] := hl
  have hcd : cd < 2 := by rcases hst with ⟨h1, -⟩ | ⟨h1, -⟩ <;> omega
  refine lv_aload_n hx hb dJ0_length_0 rfl (lv_at hl 0 rfl) ?_
  refine va_get (D := pd_D G) (ci := 2) (v := .ref v) (C := RJ0) (T := TJ0) (N := 4) hx hb hts in_J0 hown h.1 h.2.2.2.1 0 rfl rfl 0 (by decide) (hts _ q118) (fun _ h9 => h9) rfl dJ0_length_1 ?_
  refine pd_alenB hx hb h 1 rfl dJ0_length_4 ?_
  refine lv_aload_n hx hb dJ0_length_5 rfl (lv_at hl 0 rfl) ?_
  refine pd_goi (wc := [(h0, .inr (2, [.ref v, .int (nI cd), .int (0), .int (0)]))]) (wr := [(v, .inl (pd_cB G, nb, .inl (fun j => sb_b (f j))))]) h (va_runV (As := []) (rest := [.int (nI nb)]) ⟨hx, hb, hml, hown, hts⟩ (met_scd l G h0 v cd H.size hcd) (cwV 0 hts (lw_V q210 q211 q212 q4 q213) rfl rfl rfl (by decide +kernel) ⟨Nat.le_of_ble_eq_true rfl, Nat.le_of_ble_eq_true rfl⟩) ⟨pd_blind, pd_recv h 0 rfl rfl, pd_pre h [0] (by decide) rfl⟩ rfl rfl hl.1 rfl (lv_room (Nat.le_of_ble_eq_true rfl)) dJ0_length_6 ⟨(by first | omega | (dsimp only; omega)), (by first | omega | (dsimp only; omega))⟩) [0] [1] rfl rfl (by decide) (by decide) (fun r1 u H locs hp h => ?_)
  have h : pd_W G _ s H locs [(v, .inl (pd_cB G, nb, .inl (fun j => sb_b (f j)))), (h0, .inr (2, [.ref v, .int (nI cd), .int (0), .int (0)]))] := h
  obtain rfl : r1 = (nI cd) := hp
  refine lv_ishr hx hb dJ0_length_9 ?_
  refine pd_top (y := nI L) ?_ ?_
  · rcases hst with ⟨h1, h2, -⟩ | ⟨h1, h2, -⟩
    · rw [h1, h2, pk_shrN (by omega) _ 0 (by decide)]
      exact congrArg nI (by omega)
    · rw [h1, h2, pk_shrN (by omega) _ 1 (by decide)]
      exact congrArg nI (by omega)
  exact pd_iret hx hb hr hlk h () [1, 0] (by decide) rfl rfl (by first | omega | (dsimp only; omega)) (by first | omega | (dsimp only; omega)) dJ0_length_10
set_option maxHeartbeats 4000000 in
set_option maxRecDepth 100000 in
theorem met_sle1 (l : Launch) (G : pd_G) (h0 : Nat) (sz : Nat) : Met l yJ0_length (ws_ yJ0_length cJ0_length 1 (some .int)) ({ frames := 1, cells := 0, slots := 0, locals := 20 } : Room) (va_Pc [.ref h0] (pd_B G sz [(h0, .inr (2, [.ref ((pd_vE G)), .int (nI 0), .int (0), .int (0)]))])) (va_Qi (fun (r : Int32) (u : Unit) => r = nI 0) (fun (u : Unit) t9 => pd_F G (va_A [(h0, .inr (2, [.ref ((pd_vE G)), .int (nI 0), .int (0), .int (0)]))] sz) ([(h0, .inr (2, [.ref ((pd_vE G)), .int (nI 0), .int (0), .int (0)]))]) t9) (va_A [(h0, .inr (2, [.ref ((pd_vE G)), .int (nI 0), .int (0), .int (0)]))] sz)) 0 0 (va_A [(h0, .inr (2, [.ref ((pd_vE G)), .int (nI 0), .int (0), .int (0)]))] sz) := by
  refine pd_start (by decide) (Nat.le_of_ble_eq_true rfl) ?_
  intro p e s m below meth co ls H locs ⟨hx, hb, hml, hown, hts⟩ hr hlk hnm hsz h hl
  have hown : s.vm.findClass RJ0 = some m.cls := hown
  have hl : lv_has ls 1 [(0, .ref h0)] := hl
  refine lv_aload_n hx hb dJ0_length_0 rfl (lv_at hl 0 rfl) ?_
  refine va_get (D := pd_D G) (ci := 2) (v := .ref ((pd_vE G))) (C := RJ0) (T := TJ0) (N := 4) hx hb hts in_J0 hown h.1 h.2.2.2.1 0 rfl rfl 0 (by decide) (hts _ q118) (fun _ h9 => h9) rfl dJ0_length_1 ?_
  refine pd_lenE hx hb h dJ0_length_4 ?_
  refine lv_aload_n hx hb dJ0_length_5 rfl (lv_at hl 0 rfl) ?_
  refine pd_goi (wc := [(h0, .inr (2, [.ref ((pd_vE G)), .int (nI 0), .int (0), .int (0)]))]) (wr := []) h (va_runV (As := []) (rest := [.int (nI 0)]) ⟨hx, hb, hml, hown, hts⟩ (met_scd l G h0 (pd_vE G) 0 H.size (by decide)) (cwV 0 hts (lw_V q210 q211 q212 q4 q213) rfl rfl rfl (by decide +kernel) ⟨Nat.le_of_ble_eq_true rfl, Nat.le_of_ble_eq_true rfl⟩) ⟨pd_blind, pd_recv h 0 rfl rfl, pd_pre h [0] (by decide) rfl⟩ rfl rfl hl.1 rfl (lv_room (Nat.le_of_ble_eq_true rfl)) dJ0_length_6 ⟨(by first | omega | (dsimp only; omega)), (by first | omega | (dsimp only; omega))⟩) [0] [] rfl rfl (by decide) (by decide) (fun r1 u H locs hp h => ?_)
  have h : pd_W G _ s H locs [(h0, .inr (2, [.ref ((pd_vE G)), .int (nI 0), .int (0), .int (0)]))] := h
  obtain rfl : r1 = (nI 0) := hp
  refine pd_shr (n := 0) hx hb (by decide) (by omega) dJ0_length_9 ?_
  refine pd_top (y := (nI 0)) rfl ?_
  exact pd_iret hx hb hr hlk h () [0] (by decide) rfl rfl (by first | omega | (dsimp only; omega)) (by first | omega | (dsimp only; omega)) dJ0_length_10
set_option maxHeartbeats 4000000 in
set_option maxRecDepth 100000 in
theorem met_scd0 (l : Launch) (G : pd_G) (sz : Nat) : Met l yJ0_coder (ws_ yJ0_coder cJ0_coder 1 (some .byte)) ({ frames := 0, cells := 0, slots := 0, locals := 0 } : Room) (va_Pc [.ref ((pd_qE G))] (pd_B G sz [])) (va_Qi (fun (r : Int32) (u : Unit) => r = nI 0) (fun (u : Unit) t9 => pd_F G (va_A [] sz) ([]) t9) (va_A [] sz)) 0 0 (va_A [] sz) := by
  refine pd_start (by decide) (Nat.le_of_ble_eq_true rfl) ?_
  intro p e s m below meth co ls H locs ⟨hx, hb, hml, hown, hts⟩ hr hlk hnm hsz h hl
  have hown : s.vm.findClass RJ0 = some m.cls := hown
  have hl : lv_has ls 1 [(0, .ref ((pd_qE G)))] := hl
  refine pd_gsC hx hb hown h (hts _ q74) dJ0_coder_0 ?_
  refine pd_if_eq (tgt := 13) hx hb (by omega) dJ0_coder_3 (by decide) (fun c1 => absurd c1 (by omega)) (fun c1 => ?_)
  refine lv_aload_n hx hb dJ0_coder_6 rfl (lv_at hl 0 rfl) ?_
  refine vk_getf (v := .int (nI 0)) hx hb (pd_emp h).2.1 h.2.2.2.2.2 hown (hts _ q119) (fun _ h9 => h9) dJ0_coder_7 ?_
  refine lv_goto (tgt := 14) hx hb dJ0_coder_10 (by decide) ?_
  exact pd_zret hx hb hr rfl hlk h () [] (by decide) rfl rfl (by first | omega | (dsimp only; omega)) (by first | omega | (dsimp only; omega)) dJ0_coder_14
set_option maxHeartbeats 4000000 in
set_option maxRecDepth 100000 in
theorem met_sle0 (l : Launch) (G : pd_G) (sz : Nat) : Met l yJ0_length (ws_ yJ0_length cJ0_length 1 (some .int)) ({ frames := 1, cells := 0, slots := 0, locals := 20 } : Room) (va_Pc [.ref ((pd_qE G))] (pd_B G sz [])) (va_Qi (fun (r : Int32) (u : Unit) => r = nI 0) (fun (u : Unit) t9 => pd_F G (va_A [] sz) ([]) t9) (va_A [] sz)) 0 0 (va_A [] sz) := by
  refine pd_start (by decide) (Nat.le_of_ble_eq_true rfl) ?_
  intro p e s m below meth co ls H locs ⟨hx, hb, hml, hown, hts⟩ hr hlk hnm hsz h hl
  have hown : s.vm.findClass RJ0 = some m.cls := hown
  have hl : lv_has ls 1 [(0, .ref ((pd_qE G)))] := hl
  refine lv_aload_n hx hb dJ0_length_0 rfl (lv_at hl 0 rfl) ?_
  refine vk_getf (v := .ref ((pd_vE G))) hx hb (pd_emp h).2.2.1 h.2.2.2.2.2 hown (hts _ q118) (fun _ h9 => h9) dJ0_length_1 ?_
  refine pd_lenE hx hb h dJ0_length_4 ?_
  refine lv_aload_n hx hb dJ0_length_5 rfl (lv_at hl 0 rfl) ?_
  refine pd_goi (wc := []) (wr := []) h (va_runV (As := []) (rest := [.int (nI 0)]) ⟨hx, hb, hml, hown, hts⟩ (met_scd0 l G H.size) (cwV 0 hts (lw_V q210 q211 q212 q4 q213) rfl rfl rfl (by decide +kernel) ⟨Nat.le_of_ble_eq_true rfl, Nat.le_of_ble_eq_true rfl⟩) ⟨pd_blind, pd_recvE h, pd_pre h [] (by decide) rfl⟩ rfl rfl hl.1 rfl (lv_room (Nat.le_of_ble_eq_true rfl)) dJ0_length_6 ⟨(by first | omega | (dsimp only; omega)), (by first | omega | (dsimp only; omega))⟩) [] [] rfl rfl (by decide) (by decide) (fun r1 u H locs hp h => ?_)
  have h : pd_W G _ s H locs [] := h
  obtain rfl : r1 = (nI 0) := hp
  refine pd_shr (n := 0) hx hb (by decide) (by omega) dJ0_length_9 ?_
  refine pd_top (y := (nI 0)) rfl ?_
  exact pd_iret hx hb hr hlk h () [] (by decide) rfl rfl (by first | omega | (dsimp only; omega)) (by first | omega | (dsimp only; omega)) dJ0_length_10
set_option maxHeartbeats 4000000 in
set_option maxRecDepth 100000 in
theorem met_sca (l : Launch) (G : pd_G) (h0 v cd nb L i : Nat) (f t : Nat → Nat) (sz : Nat) (hL : L < 65536) (hst : pd_st cd nb f L t) (hi : i < L) : Met l yJ0_charAt (ws_ yJ0_charAt cJ0_charAt 2 (some .char)) ({ frames := 4, cells := 0, slots := 0, locals := 85 } : Room) (va_Pc [.ref h0, .int (nI i)] (pd_B G sz [(h0, .inr (2, [.ref v, .int (nI cd), .int (0), .int (0)])), (v, .inl (pd_cB G, nb, .inl (fun j => sb_b (f j))))])) (va_Qi (fun (r : Int32) (u : Unit) => r = nI (t i)) (fun (u : Unit) t9 => pd_F G (va_A [(h0, .inr (2, [.ref v, .int (nI cd), .int (0), .int (0)])), (v, .inl (pd_cB G, nb, .inl (fun j => sb_b (f j))))] sz) ([(h0, .inr (2, [.ref v, .int (nI cd), .int (0), .int (0)])), (v, .inl (pd_cB G, nb, .inl (fun j => sb_b (f j))))]) t9) (va_A [(h0, .inr (2, [.ref v, .int (nI cd), .int (0), .int (0)])), (v, .inl (pd_cB G, nb, .inl (fun j => sb_b (f j))))] sz)) 0 0 (va_A [(h0, .inr (2, [.ref v, .int (nI cd), .int (0), .int (0)])), (v, .inl (pd_cB G, nb, .inl (fun j => sb_b (f j))))] sz) := by
  refine pd_start (by decide) (Nat.le_of_ble_eq_true rfl) ?_
  intro p e s m below meth co ls H locs ⟨hx, hb, hml, hown, hts⟩ hr hlk hnm hsz h hl
  have hown : s.vm.findClass RJ0 = some m.cls := hown
  have hl : lv_has ls 2 [(0, .ref h0), (1, .int (nI i))] := hl
  have hcd : cd < 2 := by rcases hst with ⟨h1, -⟩ | ⟨h1, -⟩ <;> omega
  refine lv_aload_n hx hb dJ0_charAt_0 rfl (lv_at hl 0 rfl) ?_
  refine pd_goi (wc := [(h0, .inr (2, [.ref v, .int (nI cd), .int (0), .int (0)]))]) (wr := [(v, .inl (pd_cB G, nb, .inl (fun j => sb_b (f j))))]) h (va_runV (As := []) (rest := []) ⟨hx, hb, hml, hown, hts⟩ (met_sl1 l G h0 v cd H.size hcd) (cwV 0 hts (lw_V q233 q234 q235 q4 q236) rfl rfl rfl (by decide +kernel) ⟨Nat.le_of_ble_eq_true rfl, Nat.le_of_ble_eq_true rfl⟩) ⟨pd_blind, pd_recv h 0 rfl rfl, pd_pre h [0] (by decide) rfl⟩ rfl rfl hl.1 rfl (lv_room (Nat.le_of_ble_eq_true rfl)) dJ0_charAt_1 ⟨(by first | omega | (dsimp only; omega)), (by first | omega | (dsimp only; omega))⟩) [0] [1] rfl rfl (by decide) (by decide) (fun r1 u H locs hp h => ?_)
  have h : pd_W G _ s H locs [(v, .inl (pd_cB G, nb, .inl (fun j => sb_b (f j)))), (h0, .inr (2, [.ref v, .int (nI cd), .int (0), .int (0)]))] := h
  obtain rfl : r1 = (nI (if cd = 0 then 1 else 0)) := hp
  refine pd_if_eq (tgt := 16) hx hb (by split <;> omega) dJ0_charAt_4 (by decide) (fun c4 => ?_) (fun c4 => ?_)
  · have c0 : ¬ cd = 0 := by intro z; rw [if_pos z] at c4; omega
    obtain ⟨h1, h2, h3⟩ : cd = 1 ∧ nb = 2 * L ∧ ∀ j, j < L → t j < 65536 ∧ f (2 * j) = t j % 256 ∧ f (2 * j + 1) = t j / 256 := by rcases hst with ⟨z, -⟩ | z; exact absurd z c0; exact z
    have h3i := h3 i hi
    refine lv_aload_n hx hb dJ0_charAt_16 rfl (lv_at hl 0 rfl) ?_
    refine va_get (D := pd_D G) (ci := 2) (v := .ref v) (C := RJ0) (T := TJ0) (N := 4) hx hb hts in_J0 hown h.1 h.2.2.2.1 1 rfl rfl 0 (by decide) (hts _ q118) (fun _ h9 => h9) rfl dJ0_charAt_17 ?_
    refine lv_iload_n hx hb dJ0_charAt_20 rfl (lv_at hl 1 rfl) ?_
    refine pd_goi (wc := [(v, .inl (pd_cB G, nb, .inl (fun j => sb_b (f j))))]) (wr := [(h0, .inr (2, [.ref v, .int (nI cd), .int (0), .int (0)]))]) h (va_runS (As := [.ref v, .int (nI i)]) (rest := []) ⟨hx, hb, hml, hown, hts⟩ (met_uca l G v nb i f H.size (by omega) (by omega) (by omega) (by omega)) (va_cwS 2 hts (lw_S q246 q247 q6 q248) rfl rfl rfl (by decide +kernel) ⟨Nat.le_of_ble_eq_true rfl, Nat.le_of_ble_eq_true rfl⟩) ⟨pd_blind, pd_pre h [0] (by decide) rfl⟩ rfl rfl hl.1 rfl (lv_room (Nat.le_of_ble_eq_true rfl)) dJ0_charAt_21 ⟨(by first | omega | (dsimp only; omega)), (by first | omega | (dsimp only; omega))⟩) [0] [1] rfl rfl (by decide) (by decide) (fun r3 u H locs hp h => ?_)
    have h : pd_W G _ s H locs [(h0, .inr (2, [.ref v, .int (nI cd), .int (0), .int (0)])), (v, .inl (pd_cB G, nb, .inl (fun j => sb_b (f j))))] := h
    obtain rfl : r3 = (nI (f (2 * i) + f (2 * i + 1) * 256)) := hp
    exact pd_zret hx hb hr (pk_charN (by omega)).1 hlk h () [0, 1] (by decide) rfl (congrArg nI (by omega)) (by first | omega | (dsimp only; omega)) (by first | omega | (dsimp only; omega)) dJ0_charAt_24
  · have c0 : cd = 0 := by by_cases z : cd = 0; exact z; rw [if_neg z] at c4; omega
    obtain ⟨h1, h2, h3⟩ : cd = 0 ∧ nb = L ∧ ∀ j, j < L → t j < 256 ∧ f j = t j := by rcases hst with z | ⟨z, -⟩; exact z; omega
    have h3i := h3 i hi
    refine lv_aload_n hx hb dJ0_charAt_7 rfl (lv_at hl 0 rfl) ?_
    refine va_get (D := pd_D G) (ci := 2) (v := .ref v) (C := RJ0) (T := TJ0) (N := 4) hx hb hts in_J0 hown h.1 h.2.2.2.1 1 rfl rfl 0 (by decide) (hts _ q118) (fun _ h9 => h9) rfl dJ0_charAt_8 ?_
    refine lv_iload_n hx hb dJ0_charAt_11 rfl (lv_at hl 1 rfl) ?_
    refine pd_goi (wc := [(v, .inl (pd_cB G, nb, .inl (fun j => sb_b (f j))))]) (wr := [(h0, .inr (2, [.ref v, .int (nI cd), .int (0), .int (0)]))]) h (va_runS (As := [.ref v, .int (nI i)]) (rest := []) ⟨hx, hb, hml, hown, hts⟩ (met_lca l G v nb i f H.size (by omega) (by omega) (by omega)) (va_cwS 2 hts (lw_S q237 q238 q12 q239) rfl rfl rfl (by decide +kernel) ⟨Nat.le_of_ble_eq_true rfl, Nat.le_of_ble_eq_true rfl⟩) ⟨pd_blind, pd_pre h [0] (by decide) rfl⟩ rfl rfl hl.1 rfl (lv_room (Nat.le_of_ble_eq_true rfl)) dJ0_charAt_12 ⟨(by first | omega | (dsimp only; omega)), (by first | omega | (dsimp only; omega))⟩) [0] [1] rfl rfl (by decide) (by decide) (fun r3 u H locs hp h => ?_)
    have h : pd_W G _ s H locs [(h0, .inr (2, [.ref v, .int (nI cd), .int (0), .int (0)])), (v, .inl (pd_cB G, nb, .inl (fun j => sb_b (f j))))] := h
    obtain rfl : r3 = (nI (f i)) := hp
    exact pd_zret hx hb hr (pk_charN (by omega)).1 hlk h () [0, 1] (by decide) rfl (by rw [h3i.2]) (by first | omega | (dsimp only; omega)) (by first | omega | (dsimp only; omega)) dJ0_charAt_15
end
section
/-! StringBuilder, and String.<init> -/
set_option maxRecDepth 100000
set_option maxHeartbeats 4000000 in
set_option maxRecDepth 100000 in
theorem met_uin (l : Launch) (G : pd_G) (h0 h1 n k c : Nat) (f g0 : Nat → Nat) (sz : Nat) (hn : n < 65536) (hk : k < 2147483648) (hcn : c ≤ n) (hck : 2 * c ≤ k) (hf : ∀ j, j < c → f j < 256) : Met l yJ2_inflate (ws_ yJ2_inflate cJ2_inflate 6 none) ({ frames := 3, cells := 0, slots := 0, locals := 67 } : Room) (va_Pc [.ref h0, .int (nI 0), .ref h1, .int (nI 0), .int (nI c)] (pd_B G sz [(h0, .inl (pd_cB G, n, .inl (fun j => sb_b (f j)))), (h1, .inl (pd_cB G, k, .inl (fun j => sb_b (g0 j))))])) (va_Qv (fun (u : Nat → Nat) => ∀ j, j < c → f j < 65536 ∧ u (2 * j) = f j % 256 ∧ u (2 * j + 1) = f j / 256) (fun (u : Nat → Nat) t9 => pd_F G (va_A [(h0, .inl (pd_cB G, n, .inl (fun j => sb_b (f j)))), (h1, .inl (pd_cB G, k, .inl (fun j => sb_b (g0 j))))] sz) ([(h0, .inl (pd_cB G, n, .inl (fun j => sb_b (f j)))), (h1, .inl (pd_cB G, k, .inl (fun j => sb_b (u j))))]) t9) (va_A [(h0, .inl (pd_cB G, n, .inl (fun j => sb_b (f j)))), (h1, .inl (pd_cB G, k, .inl (fun j => sb_b (g0 j))))] sz)) 0 0 (va_A [(h0, .inl (pd_cB G, n, .inl (fun j => sb_b (f j)))), (h1, .inl (pd_cB G, k, .inl (fun j => sb_b (g0 j))))] sz) := by
  refine pd_start (by decide) (Nat.le_of_ble_eq_true rfl) ?_
  intro p e s m below meth co ls H locs ⟨hx, hb, hml, hown, hts⟩ hr hlk hnm hsz h hl
  have hown : s.vm.findClass RJ2 = some m.cls := hown
  have hl : lv_has ls 6 [(0, .ref h0), (1, .int (nI 0)), (2, .ref h1), (3, .int (nI 0)), (4, .int (nI c))] := hl
  refine lv_iload_n hx hb dJ2_inflate_0 rfl (lv_at hl 3 rfl) ?_
  refine lv_iload hx hb dJ2_inflate_1 (lv_at hl 4 rfl) ?_
  refine lv_aload_n hx hb dJ2_inflate_3 rfl (lv_at hl 2 rfl) ?_
  refine pd_gov (wc := [(h1, .inl (pd_cB G, k, .inl (fun j => sb_b (g0 j))))]) (wr := [(h0, .inl (pd_cB G, n, .inl (fun j => sb_b (f j))))]) h (va_runS (As := [.int (nI 0), .int (nI c), .ref h1]) (rest := []) ⟨hx, hb, hml, hown, hts⟩ (met_ubo l G 0 c h1 k g0 H.size hk (by omega)) (va_cwS 3 hts (lw_S q110 q111 q6 q112) rfl rfl rfl (by decide +kernel) ⟨Nat.le_of_ble_eq_true rfl, Nat.le_of_ble_eq_true rfl⟩) ⟨pd_blind, pd_pre h [1] (by decide) rfl⟩ rfl rfl hl.1 rfl (lv_room (Nat.le_of_ble_eq_true rfl)) dJ2_inflate_4 ⟨(by first | omega | (dsimp only; omega)), (by first | omega | (dsimp only; omega))⟩) [1] [0] rfl rfl (by decide) (by decide) (fun u H locs hp h => ?_)
  have h : pd_W G _ s H locs [(h0, .inl (pd_cB G, n, .inl (fun j => sb_b (f j)))), (h1, .inl (pd_cB G, k, .inl (fun j => sb_b (g0 j))))] := h
  refine lv_iconst (v := (nI 0)) hx hb dJ2_inflate_7 (by decide) ?_
  refine lv_istore (lv' := [(5, .int (nI 0)), (0, .ref h0), (1, .int (nI 0)), (2, .ref h1), (3, .int (nI 0)), (4, .int (nI c))]) hx hb dJ2_inflate_8 hl (by decide) rfl (fun ls hl => ?_)
  have key : ∀ (d : Nat) (i : Nat) (g : Nat → Nat) (H : Heap) (locs : List Loc) (ls : Array Slot), i + d = c → (∀ j, j < i → f j < 65536 ∧ g (2 * j) = f j % 256 ∧ g (2 * j + 1) = f j / 256) → pd_W G (va_A [(h0, .inl (pd_cB G, n, .inl (fun j => sb_b (f j)))), (h1, .inl (pd_cB G, k, .inl (fun j => sb_b (g0 j))))] sz) s H locs [(h0, .inl (pd_cB G, n, .inl (fun j => sb_b (f j)))), (h1, .inl (pd_cB G, k, .inl (fun j => sb_b (g j))))] → lv_has ls 6 [(0, .ref h0), (1, .int (nI i)), (2, .ref h1), (3, .int (nI i)), (4, .int (nI c)), (5, .int (nI i))] → W p l e ({ frames := 3, cells := 0, slots := 0, locals := 67 } : Room) s m ([.ref h0, .int (nI 0), .ref h1, .int (nI 0), .int (nI c)] : List Value).toArray below meth co H locs (0 + 0) (0 + 0) (MQ below (va_Qv (fun (u : Nat → Nat) => ∀ j, j < c → f j < 65536 ∧ u (2 * j) = f j % 256 ∧ u (2 * j + 1) = f j / 256) (fun (u : Nat → Nat) t9 => pd_F G (va_A [(h0, .inl (pd_cB G, n, .inl (fun j => sb_b (f j)))), (h1, .inl (pd_cB G, k, .inl (fun j => sb_b (g0 j))))] sz) ([(h0, .inl (pd_cB G, n, .inl (fun j => sb_b (f j)))), (h1, .inl (pd_cB G, k, .inl (fun j => sb_b (u j))))]) t9) (va_A [(h0, .inl (pd_cB G, n, .inl (fun j => sb_b (f j)))), (h1, .inl (pd_cB G, k, .inl (fun j => sb_b (g0 j))))] sz)) ([.ref h0, .int (nI 0), .ref h1, .int (nI 0), .int (nI c)] : List Value).toArray s 0 0 (va_A [(h0, .inl (pd_cB G, n, .inl (fun j => sb_b (f j)))), (h1, .inl (pd_cB G, k, .inl (fun j => sb_b (g0 j))))] sz)) (F0 m 10 ls []) := by
    intro d
    induction d with
    | zero =>
      intro i g H locs ls hi hg h hl
      refine lv_iload hx hb dJ2_inflate_10 (lv_at hl 5 rfl) ?_
      refine lv_iload hx hb dJ2_inflate_12 (lv_at hl 4 rfl) ?_
      refine pd_icmp_ge (tgt := 41) hx hb (by omega) (by omega) dJ2_inflate_14 (by decide) (fun c1 => ?_) (fun c1 => absurd c1 (by omega))
      exact pd_vret hx hb hr hlk h g [0, 1] (by decide) rfl (fun j hj => hg j (by omega)) (by first | omega | (dsimp only; omega)) (by first | omega | (dsimp only; omega)) dJ2_inflate_41
    | succ d ih =>
      intro i g H locs ls hi hg h hl
      refine lv_iload hx hb dJ2_inflate_10 (lv_at hl 5 rfl) ?_
      refine lv_iload hx hb dJ2_inflate_12 (lv_at hl 4 rfl) ?_
      refine pd_icmp_ge (tgt := 41) hx hb (by omega) (by omega) dJ2_inflate_14 (by decide) (fun c1 => absurd c1 (by omega)) (fun c1 => ?_)
      have hfi := hf i (by omega)
      refine lv_aload_n hx hb dJ2_inflate_17 rfl (lv_at hl 2 rfl) ?_
      refine lv_iload_n hx hb dJ2_inflate_18 rfl (lv_at hl 3 rfl) ?_
      refine lv_iinc (v := (nI (i + 1))) (lv' := [(3, .int (nI (i + 1))), (0, .ref h0), (1, .int (nI i)), (2, .ref h1), (4, .int (nI c)), (5, .int (nI i))]) hx hb dJ2_inflate_19 hl (k := 3) rfl (by rw [show Int32.ofInt 1 = nI 1 from rfl, nI_add]) (by decide) rfl (fun ls hl => ?_)
      refine lv_aload_n hx hb dJ2_inflate_22 rfl (lv_at hl 1 rfl) ?_
      refine lv_iload_n hx hb dJ2_inflate_23 rfl (lv_at hl 2 rfl) ?_
      refine lv_iinc (v := (nI (i + 1))) (lv' := [(1, .int (nI (i + 1))), (3, .int (nI (i + 1))), (0, .ref h0), (2, .ref h1), (4, .int (nI c)), (5, .int (nI i))]) hx hb dJ2_inflate_24 hl (k := 2) rfl (by rw [show Int32.ofInt 1 = nI 1 from rfl, nI_add]) (by decide) rfl (fun ls hl => ?_)
      refine pd_bald hx hb h 0 rfl (by omega) (by omega) dJ2_inflate_27 ?_
      refine lv_sipush (v := (nI 255)) hx hb dJ2_inflate_28 (by decide) ?_
      refine lv_iand hx hb dJ2_inflate_31 ?_
      refine pd_top (y := (nI (f i))) (pd_and255 hfi) ?_
      refine pd_gov (wc := [(h1, .inl (pd_cB G, k, .inl (fun j => sb_b (g j))))]) (wr := [(h0, .inl (pd_cB G, n, .inl (fun j => sb_b (f j))))]) h (va_runS (As := [.ref h1, .int (nI i), .int (nI (f i))]) (rest := []) ⟨hx, hb, hml, hown, hts⟩ (met_upc l G h1 k i (f i) g H.size hk (by omega) (by omega)) (va_cwS 3 hts (lw_S q92 q93 q6 q94) rfl rfl rfl (by decide +kernel) ⟨Nat.le_of_ble_eq_true rfl, Nat.le_of_ble_eq_true rfl⟩) ⟨pd_blind, pd_pre h [1] (by decide) rfl⟩ rfl rfl hl.1 rfl (lv_room (Nat.le_of_ble_eq_true rfl)) dJ2_inflate_32 ⟨(by first | omega | (dsimp only; omega)), (by first | omega | (dsimp only; omega))⟩) [1] [0] rfl rfl (by decide) (by decide) (fun u H locs hp h => ?_)
      have h : pd_W G _ s H locs [(h0, .inl (pd_cB G, n, .inl (fun j => sb_b (f j)))), (h1, .inl (pd_cB G, k, .inl (fun j => sb_b ((va_up (va_up g (2 * i) (f i % 256)) (2 * i + 1) (f i / 256)) j))))] := h
      refine lv_iinc (v := (nI (i + 1))) (lv' := [(5, .int (nI (i + 1))), (1, .int (nI (i + 1))), (3, .int (nI (i + 1))), (0, .ref h0), (2, .ref h1), (4, .int (nI c))]) hx hb dJ2_inflate_35 hl (k := 5) rfl (by rw [show Int32.ofInt 1 = nI 1 from rfl, nI_add]) (by decide) rfl (fun ls hl => ?_)
      refine lv_goto (tgt := 10) hx hb dJ2_inflate_38 (by decide) ?_
      exact ih (i + 1) (va_up (va_up g (2 * i) (f i % 256)) (2 * i + 1) (f i / 256)) H _ ls (by omega) (pd_two hg rfl rfl (by omega)) (h.sub [0, 1] (by decide) rfl) (lv_sub hl [3, 1, 4, 2, 5, 0] rfl)
  exact key c 0 g0 H _ ls (by omega) (fun j hj => absurd hj (Nat.not_lt_zero j)) (h.sub [0, 1] (by decide) rfl) (lv_sub hl [1, 2, 3, 4, 5, 0] rfl)
set_option maxHeartbeats 4000000 in
set_option maxRecDepth 100000 in
theorem met_lin (l : Launch) (G : pd_G) (h0 h1 n k c : Nat) (f g0 : Nat → Nat) (sz : Nat) (hn : n < 65536) (hk : k < 2147483648) (hcn : c ≤ n) (hck : 2 * c ≤ k) (hf : ∀ j, j < c → f j < 256) : Met l yJ7_inflate (ws_ yJ7_inflate cJ7_inflate 5 none) ({ frames := 4, cells := 0, slots := 0, locals := 92 } : Room) (va_Pc [.ref h0, .int (nI 0), .ref h1, .int (nI 0), .int (nI c)] (pd_B G sz [(h0, .inl (pd_cB G, n, .inl (fun j => sb_b (f j)))), (h1, .inl (pd_cB G, k, .inl (fun j => sb_b (g0 j))))])) (va_Qv (fun (u : Nat → Nat) => ∀ j, j < c → f j < 65536 ∧ u (2 * j) = f j % 256 ∧ u (2 * j + 1) = f j / 256) (fun (u : Nat → Nat) t9 => pd_F G (va_A [(h0, .inl (pd_cB G, n, .inl (fun j => sb_b (f j)))), (h1, .inl (pd_cB G, k, .inl (fun j => sb_b (g0 j))))] sz) ([(h0, .inl (pd_cB G, n, .inl (fun j => sb_b (f j)))), (h1, .inl (pd_cB G, k, .inl (fun j => sb_b (u j))))]) t9) (va_A [(h0, .inl (pd_cB G, n, .inl (fun j => sb_b (f j)))), (h1, .inl (pd_cB G, k, .inl (fun j => sb_b (g0 j))))] sz)) 0 0 (va_A [(h0, .inl (pd_cB G, n, .inl (fun j => sb_b (f j)))), (h1, .inl (pd_cB G, k, .inl (fun j => sb_b (g0 j))))] sz) := by
  refine pd_start (by decide) (Nat.le_of_ble_eq_true rfl) ?_
  intro p e s m below meth co ls H locs ⟨hx, hb, hml, hown, hts⟩ hr hlk hnm hsz h hl
  have hown : s.vm.findClass RJ7 = some m.cls := hown
  have hl : lv_has ls 5 [(0, .ref h0), (1, .int (nI 0)), (2, .ref h1), (3, .int (nI 0)), (4, .int (nI c))] := hl
  refine lv_aload_n hx hb dJ7_inflate_0 rfl (lv_at hl 0 rfl) ?_
  refine lv_iload_n hx hb dJ7_inflate_1 rfl (lv_at hl 1 rfl) ?_
  refine lv_aload_n hx hb dJ7_inflate_2 rfl (lv_at hl 2 rfl) ?_
  refine lv_iload_n hx hb dJ7_inflate_3 rfl (lv_at hl 3 rfl) ?_
  refine lv_iload hx hb dJ7_inflate_4 (lv_at hl 4 rfl) ?_
  refine pd_gov (wc := [(h0, .inl (pd_cB G, n, .inl (fun j => sb_b (f j)))), (h1, .inl (pd_cB G, k, .inl (fun j => sb_b (g0 j))))]) (wr := []) h (va_runS (As := [.ref h0, .int (nI 0), .ref h1, .int (nI 0), .int (nI c)]) (rest := []) ⟨hx, hb, hml, hown, hts⟩ (met_uin l G h0 h1 n k c f g0 H.size hn hk hcn hck hf) (va_cwS 5 hts (lw_S q346 q347 q6 q348) rfl rfl rfl (by decide +kernel) ⟨Nat.le_of_ble_eq_true rfl, Nat.le_of_ble_eq_true rfl⟩) ⟨pd_blind, pd_pre h [0, 1] (by decide) rfl⟩ rfl rfl hl.1 rfl (lv_room (Nat.le_of_ble_eq_true rfl)) dJ7_inflate_6 ⟨(by first | omega | (dsimp only; omega)), (by first | omega | (dsimp only; omega))⟩) [0, 1] [] rfl rfl (by decide) (by decide) (fun u H locs hp h => ?_)
  have h : pd_W G _ s H locs [(h0, .inl (pd_cB G, n, .inl (fun j => sb_b (f j)))), (h1, .inl (pd_cB G, k, .inl (fun j => sb_b (u j))))] := h
  exact pd_vret hx hb hr hlk h u [0, 1] (by decide) rfl hp (by first | omega | (dsimp only; omega)) (by first | omega | (dsimp only; omega)) dJ7_inflate_9
set_option maxHeartbeats 4000000 in
set_option maxRecDepth 100000 in
theorem met_bl1 (l : Launch) (G : pd_G) (h0 v cd c : Nat) (sz : Nat) (hcd : cd < 2) : Met l yJ9_isLatin1 (ws_ yJ9_isLatin1 cJ9_isLatin1 1 (some .boolean)) ({ frames := 0, cells := 0, slots := 0, locals := 0 } : Room) (va_Pc [.ref h0] (pd_B G sz [(h0, .inr (3, [.ref v, .int (nI cd), .int (0), .int (nI c)]))])) (va_Qi (fun (r : Int32) (u : Unit) => r = nI (if cd = 0 then 1 else 0)) (fun (u : Unit) t9 => pd_F G (va_A [(h0, .inr (3, [.ref v, .int (nI cd), .int (0), .int (nI c)]))] sz) ([(h0, .inr (3, [.ref v, .int (nI cd), .int (0), .int (nI c)]))]) t9) (va_A [(h0, .inr (3, [.ref v, .int (nI cd), .int (0), .int (nI c)]))] sz)) 0 0 (va_A [(h0, .inr (3, [.ref v, .int (nI cd), .int (0), .int (nI c)]))] sz) := by
  refine pd_start (by decide) (Nat.le_of_ble_eq_true rfl) ?_
  intro p e s m below meth co ls H locs ⟨hx, hb, hml, hown, hts⟩ hr hlk hnm hsz h hl
  have hown : s.vm.findClass RJ9 = some m.cls := hown
  have hl : lv_has ls 1 [(0, .ref h0)] := hl
  refine pd_gsC hx hb hown h (hts _ q277) dJ9_isLatin1_0 ?_
  refine pd_if_eq (tgt := 17) hx hb (by omega) dJ9_isLatin1_3 (by decide) (fun c1 => absurd c1 (by omega)) (fun c1 => ?_)
  refine lv_aload_n hx hb dJ9_isLatin1_6 rfl (lv_at hl 0 rfl) ?_
  refine va_get (D := pd_D G) (ci := 3) (v := .int (nI cd)) (C := RJ10) (T := TJ10) (N := 4) hx hb hts in_J10 hown h.1 h.2.2.2.1 0 rfl rfl 1 (by decide) (hts _ q280) (fun _ h9 => h9) rfl dJ9_isLatin1_7 ?_
  refine pd_if_ne (tgt := 17) hx hb (by omega) dJ9_isLatin1_10 (by decide) (fun c1 => ?_) (fun c1 => ?_)
  · refine lv_iconst (v := (nI 0)) hx hb dJ9_isLatin1_17 (by decide) ?_
    exact pd_zret hx hb hr rfl hlk h () [0] (by decide) rfl (by rw [if_neg (by omega)]) (by first | omega | (dsimp only; omega)) (by first | omega | (dsimp only; omega)) dJ9_isLatin1_18
  · refine lv_iconst (v := (nI 1)) hx hb dJ9_isLatin1_13 (by decide) ?_
    refine lv_goto (tgt := 18) hx hb dJ9_isLatin1_14 (by decide) ?_
    exact pd_zret hx hb hr rfl hlk h () [0] (by decide) rfl (by rw [if_pos (by omega)]) (by first | omega | (dsimp only; omega)) (by first | omega | (dsimp only; omega)) dJ9_isLatin1_18
set_option maxHeartbeats 4000000 in
set_option maxRecDepth 100000 in
theorem met_bgv (l : Launch) (G : pd_G) (h0 v cd c : Nat) (sz : Nat) : Met l yJ9_getValue (ws_ yJ9_getValue cJ9_getValue 1 (some (.array .byte))) ({ frames := 0, cells := 0, slots := 0, locals := 0 } : Room) (va_Pc [.ref h0] (pd_B G sz [(h0, .inr (3, [.ref v, .int (nI cd), .int (0), .int (nI c)]))])) (va_Qq (fun (r : Option Nat) (u : Unit) => r = some v) (fun (u : Unit) t9 => pd_F G (va_A [(h0, .inr (3, [.ref v, .int (nI cd), .int (0), .int (nI c)]))] sz) ([(h0, .inr (3, [.ref v, .int (nI cd), .int (0), .int (nI c)]))]) t9) (va_A [(h0, .inr (3, [.ref v, .int (nI cd), .int (0), .int (nI c)]))] sz)) 0 0 (va_A [(h0, .inr (3, [.ref v, .int (nI cd), .int (0), .int (nI c)]))] sz) := by
  refine pd_start (by decide) (Nat.le_of_ble_eq_true rfl) ?_
  intro p e s m below meth co ls H locs ⟨hx, hb, hml, hown, hts⟩ hr hlk hnm hsz h hl
  have hown : s.vm.findClass RJ9 = some m.cls := hown
  have hl : lv_has ls 1 [(0, .ref h0)] := hl
  refine lv_aload_n hx hb dJ9_getValue_0 rfl (lv_at hl 0 rfl) ?_
  refine va_get (D := pd_D G) (ci := 3) (v := .ref v) (C := RJ10) (T := TJ10) (N := 4) hx hb hts in_J10 hown h.1 h.2.2.2.1 0 rfl rfl 0 (by decide) (hts _ q279) (fun _ h9 => h9) rfl dJ9_getValue_1 ?_
  exact pd_qret hx hb hr (Or.inr ⟨_, rfl⟩) rfl hlk h () [0] (by decide) rfl rfl (by first | omega | (dsimp only; omega)) (by first | omega | (dsimp only; omega)) dJ9_getValue_4
set_option maxHeartbeats 4000000 in
set_option maxRecDepth 100000 in
theorem met_ble (l : Launch) (G : pd_G) (h0 v cd c : Nat) (sz : Nat) : Met l yJ9_length (ws_ yJ9_length cJ9_length 1 (some .int)) ({ frames := 0, cells := 0, slots := 0, locals := 0 } : Room) (va_Pc [.ref h0] (pd_B G sz [(h0, .inr (3, [.ref v, .int (nI cd), .int (0), .int (nI c)]))])) (va_Qi (fun (r : Int32) (u : Unit) => r = nI c) (fun (u : Unit) t9 => pd_F G (va_A [(h0, .inr (3, [.ref v, .int (nI cd), .int (0), .int (nI c)]))] sz) ([(h0, .inr (3, [.ref v, .int (nI cd), .int (0), .int (nI c)]))]) t9) (va_A [(h0, .inr (3, [.ref v, .int (nI cd), .int (0), .int (nI c)]))] sz)) 0 0 (va_A [(h0, .inr (3, [.ref v, .int (nI cd), .int (0), .int (nI c)]))] sz) := by
  refine pd_start (by decide) (Nat.le_of_ble_eq_true rfl) ?_
  intro p e s m below meth co ls H locs ⟨hx, hb, hml, hown, hts⟩ hr hlk hnm hsz h hl
  have hown : s.vm.findClass RJ9 = some m.cls := hown
  have hl : lv_has ls 1 [(0, .ref h0)] := hl
  refine lv_aload_n hx hb dJ9_length_0 rfl (lv_at hl 0 rfl) ?_
  refine va_get (D := pd_D G) (ci := 3) (v := .int (nI c)) (C := RJ10) (T := TJ10) (N := 4) hx hb hts in_J10 hown h.1 h.2.2.2.1 0 rfl rfl 3 (by decide) (hts _ q282) (fun _ h9 => h9) rfl dJ9_length_1 ?_
  exact pd_iret hx hb hr hlk h () [0] (by decide) rfl rfl (by first | omega | (dsimp only; omega)) (by first | omega | (dsimp only; omega)) dJ9_length_4
set_option maxHeartbeats 4000000 in
set_option maxRecDepth 100000 in
theorem met_sbl (l : Launch) (G : pd_G) (h0 v cd c : Nat) (sz : Nat) : Met l yJ10_length (ws_ yJ10_length cJ10_length 1 (some .int)) ({ frames := 1, cells := 0, slots := 0, locals := 20 } : Room) (va_Pc [.ref h0] (pd_B G sz [(h0, .inr (3, [.ref v, .int (nI cd), .int (0), .int (nI c)]))])) (va_Qi (fun (r : Int32) (u : Unit) => r = nI c) (fun (u : Unit) t9 => pd_F G (va_A [(h0, .inr (3, [.ref v, .int (nI cd), .int (0), .int (nI c)]))] sz) ([(h0, .inr (3, [.ref v, .int (nI cd), .int (0), .int (nI c)]))]) t9) (va_A [(h0, .inr (3, [.ref v, .int (nI cd), .int (0), .int (nI c)]))] sz)) 0 0 (va_A [(h0, .inr (3, [.ref v, .int (nI cd), .int (0), .int (nI c)]))] sz) := by
  refine pd_start (by decide) (Nat.le_of_ble_eq_true rfl) ?_
  intro p e s m below meth co ls H locs ⟨hx, hb, hml, hown, hts⟩ hr hlk hnm hsz h hl
  have hown : s.vm.findClass RJ10 = some m.cls := hown
  have hl : lv_has ls 1 [(0, .ref h0)] := hl
  refine lv_aload_n hx hb dJ10_length_0 rfl (lv_at hl 0 rfl) ?_
  refine pd_goi (wc := [(h0, .inr (3, [.ref v, .int (nI cd), .int (0), .int (nI c)]))]) (wr := []) h (va_runSU (As := []) (rest := []) (h.1.1 3 _ rfl).2 ⟨hx, hb, hml, hown, hts⟩ (met_ble l G h0 v cd c H.size) (va_cwSU 0 hts (lw_SU q220 q440 q221 q222 q14 q223) rfl rfl rfl (by decide +kernel) ⟨Nat.le_of_ble_eq_true rfl, Nat.le_of_ble_eq_true rfl⟩) ⟨pd_blind, pd_recv h 0 rfl rfl, pd_pre h [0] (by decide) rfl⟩ rfl rfl hl.1 rfl (lv_room (Nat.le_of_ble_eq_true rfl)) dJ10_length_1 ⟨(by first | omega | (dsimp only; omega)), (by first | omega | (dsimp only; omega))⟩) [0] [] rfl rfl (by decide) (by decide) (fun r1 u H locs hp h => ?_)
  have h : pd_W G _ s H locs [(h0, .inr (3, [.ref v, .int (nI cd), .int (0), .int (nI c)]))] := h
  obtain rfl : r1 = (nI c) := hp
  exact pd_iret hx hb hr hlk h () [0] (by decide) rfl rfl (by first | omega | (dsimp only; omega)) (by first | omega | (dsimp only; omega)) dJ10_length_4
set_option maxHeartbeats 4000000 in
set_option maxRecDepth 100000 in
theorem met_ens (l : Launch) (G : pd_G) (h0 v cd c nb K d : Nat) (f : Nat → Nat) (sz : Nat) (hK : (cd = 0 ∧ nb = K) ∨ (cd = 1 ∧ nb = 2 * K)) (hK2 : K < 65536) (hd : d ≤ K) : Met l yJ9_ensureCapacityInternal (ws_ yJ9_ensureCapacityInternal cJ9_ensureCapacityInternal 3 none) ({ frames := 0, cells := 0, slots := 0, locals := 0 } : Room) (va_Pc [.ref h0, .int (nI d)] (pd_B G sz [(h0, .inr (3, [.ref v, .int (nI cd), .int (0), .int (nI c)])), (v, .inl (pd_cB G, nb, .inl (fun j => sb_b (f j))))])) (va_Qv (fun (u : Unit) => True) (fun (u : Unit) t9 => pd_F G (va_A [(h0, .inr (3, [.ref v, .int (nI cd), .int (0), .int (nI c)])), (v, .inl (pd_cB G, nb, .inl (fun j => sb_b (f j))))] sz) ([(h0, .inr (3, [.ref v, .int (nI cd), .int (0), .int (nI c)])), (v, .inl (pd_cB G, nb, .inl (fun j => sb_b (f j))))]) t9) (va_A [(h0, .inr (3, [.ref v, .int (nI cd), .int (0), .int (nI c)])), (v, .inl (pd_cB G, nb, .inl (fun j => sb_b (f j))))] sz)) 0 0 (va_A [(h0, .inr (3, [.ref v, .int (nI cd), .int (0), .int (nI c)])), (v, .inl (pd_cB G, nb, .inl (fun j => sb_b (f j))))] sz) := by
  refine pd_start (by decide) (Nat.le_of_ble_eq_true rfl) ?_
  intro p e s m below meth co ls H locs ⟨hx, hb, hml, hown, hts⟩ hr hlk hnm hsz h hl
  have hown : s.vm.findClass RJ9 = some m.cls := hown
  have hl : lv_has ls 3 [(0, .ref h0), (1, .int (nI d))] := hl
  refine lv_aload_n hx hb dJ9_ensureCapacityInternal_0 rfl (lv_at hl 0 rfl) ?_
  refine va_get (D := pd_D G) (ci := 3) (v := .ref v) (C := RJ10) (T := TJ10) (N := 4) hx hb hts in_J10 hown h.1 h.2.2.2.1 0 rfl rfl 0 (by decide) (hts _ q279) (fun _ h9 => h9) rfl dJ9_ensureCapacityInternal_1 ?_
  refine pd_alenB hx hb h 1 rfl dJ9_ensureCapacityInternal_4 ?_
  refine lv_aload_n hx hb dJ9_ensureCapacityInternal_5 rfl (lv_at hl 0 rfl) ?_
  refine va_get (D := pd_D G) (ci := 3) (v := .int (nI cd)) (C := RJ10) (T := TJ10) (N := 4) hx hb hts in_J10 hown h.1 h.2.2.2.1 0 rfl rfl 1 (by decide) (hts _ q280) (fun _ h9 => h9) rfl dJ9_ensureCapacityInternal_6 ?_
  refine lv_ishr hx hb dJ9_ensureCapacityInternal_9 ?_
  refine pd_top (y := nI K) ?_ ?_
  · rcases hK with ⟨h1, h2⟩ | ⟨h1, h2⟩
    · rw [h1, h2, pk_shrN (by omega) _ 0 (by decide)]
      exact congrArg nI (by omega)
    · rw [h1, h2, pk_shrN (by omega) _ 1 (by decide)]
      exact congrArg nI (by omega)
  refine lv_istore_n (lv' := [(2, .int (nI K)), (0, .ref h0), (1, .int (nI d))]) hx hb dJ9_ensureCapacityInternal_10 rfl hl (by decide) rfl (fun ls hl => ?_)
  refine lv_iload_n hx hb dJ9_ensureCapacityInternal_11 rfl (lv_at hl 2 rfl) ?_
  refine lv_iload_n hx hb dJ9_ensureCapacityInternal_12 rfl (lv_at hl 0 rfl) ?_
  refine lv_isub hx hb dJ9_ensureCapacityInternal_13 ?_
  refine lv_if_le (tgt := 38) hx hb dJ9_ensureCapacityInternal_14 (by decide) (fun _ => ?_) (fun z => absurd (pd_sub_le hd (by omega)) z)
  exact pd_vret hx hb hr hlk h () [0, 1] (by decide) rfl trivial (by first | omega | (dsimp only; omega)) (by first | omega | (dsimp only; omega)) dJ9_ensureCapacityInternal_38
set_option maxHeartbeats 4000000 in
set_option maxRecDepth 100000 in
theorem met_inf (l : Launch) (G : pd_G) (h0 v c K : Nat) (f : Nat → Nat) (sz : Nat) (hK : K < 65536) (hc : c ≤ K) (hf : ∀ j, j < c → f j < 256) : Met l yJ9_inflate (ws_ yJ9_inflate cJ9_inflate 2 none) ({ frames := 5, cells := 1, slots := K * 2, locals := 116 } : Room) (va_Pc [.ref h0] (pd_B G sz [(h0, .inr (3, [.ref v, .int (nI 0), .int (0), .int (nI c)])), (v, .inl (pd_cB G, K, .inl (fun j => sb_b (f j))))])) (va_Qv (fun (u : Nat × (Nat → Nat)) => ∀ j, j < c → f j < 65536 ∧ u.2 (2 * j) = f j % 256 ∧ u.2 (2 * j + 1) = f j / 256) (fun (u : Nat × (Nat → Nat)) t9 => pd_F G (va_A [(h0, .inr (3, [.ref v, .int (nI 0), .int (0), .int (nI c)])), (v, .inl (pd_cB G, K, .inl (fun j => sb_b (f j))))] sz) ([(h0, .inr (3, [.ref u.1, .int (nI 1), .int (0), .int (nI c)])), (u.1, .inl (pd_cB G, K * 2, .inl (fun j => sb_b (u.2 j))))]) t9) (va_A [(h0, .inr (3, [.ref v, .int (nI 0), .int (0), .int (nI c)])), (v, .inl (pd_cB G, K, .inl (fun j => sb_b (f j))))] sz)) 1 (K * 2) (va_A [(h0, .inr (3, [.ref v, .int (nI 0), .int (0), .int (nI c)])), (v, .inl (pd_cB G, K, .inl (fun j => sb_b (f j))))] sz) := by
  refine pd_start (by decide) (Nat.le_of_ble_eq_true rfl) ?_
  intro p e s m below meth co ls H locs ⟨hx, hb, hml, hown, hts⟩ hr hlk hnm hsz h hl
  have hown : s.vm.findClass RJ9 = some m.cls := hown
  have hl : lv_has ls 2 [(0, .ref h0)] := hl
  refine lv_aload_n hx hb dJ9_inflate_0 rfl (lv_at hl 0 rfl) ?_
  refine pd_goi (wc := [(h0, .inr (3, [.ref v, .int (nI 0), .int (0), .int (nI c)]))]) (wr := [(v, .inl (pd_cB G, K, .inl (fun j => sb_b (f j))))]) h (va_runU (As := []) (rest := []) ⟨hx, hb, hml, hown, hts⟩ (met_bl1 l G h0 v 0 c H.size (by decide)) (va_cwU 0 hts (lw_U q331 q333 q334 q332 q14 q335) rfl rfl rfl rfl (by decide +kernel) ⟨Nat.le_of_ble_eq_true rfl, Nat.le_of_ble_eq_true rfl⟩) ⟨pd_blind, pd_recv h 0 rfl rfl, pd_pre h [0] (by decide) rfl⟩ rfl rfl hl.1 rfl (lv_room (Nat.le_of_ble_eq_true rfl)) dJ9_inflate_1 ⟨(by first | omega | (dsimp only; omega)), (by first | omega | (dsimp only; omega))⟩) [0] [1] rfl rfl (by decide) (by decide) (fun r1 u H locs hp h => ?_)
  have h : pd_W G _ s H locs [(v, .inl (pd_cB G, K, .inl (fun j => sb_b (f j)))), (h0, .inr (3, [.ref v, .int (nI 0), .int (0), .int (nI c)]))] := h
  obtain rfl : r1 = (nI 1) := (hp.trans (congrArg nI (if_pos rfl)))
  refine pd_if_ne (tgt := 8) hx hb (by omega) dJ9_inflate_4 (by decide) (fun c1 => ?_) (fun c1 => absurd c1 (by omega))
  refine lv_aload_n hx hb dJ9_inflate_8 rfl (lv_at hl 0 rfl) ?_
  refine va_get (D := pd_D G) (ci := 3) (v := .ref v) (C := RJ10) (T := TJ10) (N := 4) hx hb hts in_J10 hown h.1 h.2.2.2.1 1 rfl rfl 0 (by decide) (hts _ q279) (fun _ h9 => h9) rfl dJ9_inflate_9 ?_
  refine pd_alenB hx hb h 0 rfl dJ9_inflate_12 ?_
  refine pd_gor (wc := []) (wr := [(v, .inl (pd_cB G, K, .inl (fun j => sb_b (f j)))), (h0, .inr (3, [.ref v, .int (nI 0), .int (0), .int (nI c)]))]) h (va_runS (As := [.int (nI K)]) (rest := []) ⟨hx, hb, hml, hown, hts⟩ (met_nbf l G K H.size (by omega)) (va_cwS 1 hts (lw_S q278 q86 q6 q87) rfl rfl rfl (by decide +kernel) ⟨Nat.le_of_ble_eq_true rfl, Nat.le_of_ble_eq_true rfl⟩) ⟨pd_blind, pd_pre h [] (by decide) rfl⟩ rfl rfl hl.1 rfl (lv_room (Nat.le_of_ble_eq_true rfl)) dJ9_inflate_13 ⟨(by first | omega | (dsimp only; omega)), (by first | omega | (dsimp only; omega))⟩) [] [0, 1] rfl rfl (by decide) (by decide) (fun u qb H locs hp h => ?_)
  have h : pd_W G _ s H locs [(v, .inl (pd_cB G, K, .inl (fun j => sb_b (f j)))), (h0, .inr (3, [.ref v, .int (nI 0), .int (0), .int (nI c)])), (qb, .inl (pd_cB G, K * 2, .inl (fun j => sb_b (pd_z j))))] := h
  refine lv_astore_n (lv' := [(1, .ref qb), (0, .ref h0)]) hx hb dJ9_inflate_16 rfl hl (by decide) rfl (fun ls hl => ?_)
  refine lv_aload_n hx hb dJ9_inflate_17 rfl (lv_at hl 1 rfl) ?_
  refine va_get (D := pd_D G) (ci := 3) (v := .ref v) (C := RJ10) (T := TJ10) (N := 4) hx hb hts in_J10 hown h.1 h.2.2.2.1 1 rfl rfl 0 (by decide) (hts _ q279) (fun _ h9 => h9) rfl dJ9_inflate_18 ?_
  refine lv_iconst (v := (nI 0)) hx hb dJ9_inflate_21 (by decide) ?_
  refine lv_aload_n hx hb dJ9_inflate_22 rfl (lv_at hl 0 rfl) ?_
  refine lv_iconst (v := (nI 0)) hx hb dJ9_inflate_23 (by decide) ?_
  refine lv_aload_n hx hb dJ9_inflate_24 rfl (lv_at hl 1 rfl) ?_
  refine va_get (D := pd_D G) (ci := 3) (v := .int (nI c)) (C := RJ10) (T := TJ10) (N := 4) hx hb hts in_J10 hown h.1 h.2.2.2.1 1 rfl rfl 3 (by decide) (hts _ q282) (fun _ h9 => h9) rfl dJ9_inflate_25 ?_
  refine pd_gov (wc := [(v, .inl (pd_cB G, K, .inl (fun j => sb_b (f j)))), (qb, .inl (pd_cB G, K * 2, .inl (fun j => sb_b (pd_z j))))]) (wr := [(h0, .inr (3, [.ref v, .int (nI 0), .int (0), .int (nI c)]))]) h (va_runS (As := [.ref v, .int (nI 0), .ref qb, .int (nI 0), .int (nI c)]) (rest := []) ⟨hx, hb, hml, hown, hts⟩ (met_lin l G v qb K (K * 2) c f pd_z H.size hK (by omega) hc (by omega) hf) (va_cwS 5 hts (lw_S q343 q344 q12 q345) rfl rfl rfl (by decide +kernel) ⟨Nat.le_of_ble_eq_true rfl, Nat.le_of_ble_eq_true rfl⟩) ⟨pd_blind, pd_pre h [0, 2] (by decide) rfl⟩ rfl rfl hl.1 rfl (lv_room (Nat.le_of_ble_eq_true rfl)) dJ9_inflate_28 ⟨(by first | omega | (dsimp only; omega)), (by first | omega | (dsimp only; omega))⟩) [0, 2] [1] rfl rfl (by decide) (by decide) (fun g H locs hg h => ?_)
  have h : pd_W G _ s H locs [(h0, .inr (3, [.ref v, .int (nI 0), .int (0), .int (nI c)])), (v, .inl (pd_cB G, K, .inl (fun j => sb_b (f j)))), (qb, .inl (pd_cB G, K * 2, .inl (fun j => sb_b (g j))))] := h
  refine lv_aload_n hx hb dJ9_inflate_31 rfl (lv_at hl 1 rfl) ?_
  refine lv_aload_n hx hb dJ9_inflate_32 rfl (lv_at hl 0 rfl) ?_
  refine pd_put (ci := 3) (v := .ref qb) (ty := .array .byte) (C := RJ10) (T := TJ10) (N := 4) hx hb hts hown h in_J10 tyJ10 tyJ10_ok nmJ10 0 rfl rfl 0 (by decide) (hts _ q279) (fun _ h9 => h9) rfl (by decide +kernel) rfl rfl (Nat.le_of_ble_eq_true rfl) dJ9_inflate_33 (fun H locs h => ?_)
  have h : pd_W G _ s H locs [(h0, .inr (3, [.ref qb, .int (nI 0), .int (0), .int (nI c)])), (v, .inl (pd_cB G, K, .inl (fun j => sb_b (f j)))), (qb, .inl (pd_cB G, K * 2, .inl (fun j => sb_b (g j))))] := h
  refine lv_aload_n hx hb dJ9_inflate_36 rfl (lv_at hl 1 rfl) ?_
  refine lv_iconst (v := (nI 1)) hx hb dJ9_inflate_37 (by decide) ?_
  refine pd_put (ci := 3) (v := .int (nI 1)) (ty := .byte) (C := RJ10) (T := TJ10) (N := 4) hx hb hts hown h in_J10 tyJ10 tyJ10_ok nmJ10 0 rfl rfl 1 (by decide) (hts _ q280) (fun _ h9 => h9) rfl (by decide +kernel) (by decide) (by decide) (Nat.le_of_ble_eq_true rfl) dJ9_inflate_38 (fun H locs h => ?_)
  have h : pd_W G _ s H locs [(h0, .inr (3, [.ref qb, .int (nI 1), .int (0), .int (nI c)])), (v, .inl (pd_cB G, K, .inl (fun j => sb_b (f j)))), (qb, .inl (pd_cB G, K * 2, .inl (fun j => sb_b (g j))))] := h
  exact pd_vret hx hb hr hlk h (qb, g) [0, 2] (by decide) rfl hg (by first | omega | (dsimp only; omega)) (by first | omega | (dsimp only; omega)) dJ9_inflate_41
set_option maxHeartbeats 4000000 in
set_option maxRecDepth 100000 in
theorem met_baL (l : Launch) (G : pd_G) (h0 v c K x : Nat) (f : Nat → Nat) (sz : Nat) (hK : K < 65536) (hc : c < K) (hx8 : x < 256) : Met l yJ9_append (ws_ yJ9_append cJ9_append 2 (some (.object "java/lang/AbstractStringBuilder"))) ({ frames := 6, cells := 0, slots := 0, locals := 137 } : Room) (va_Pc [.ref h0, .int (nI x)] (pd_B G sz [(h0, .inr (3, [.ref v, .int (nI 0), .int (0), .int (nI c)])), (v, .inl (pd_cB G, K, .inl (fun j => sb_b (f j))))])) (va_Qr (fun (u : Unit) => True) (fun (u : Unit) (q : Nat) t9 => pd_F G (va_A [(h0, .inr (3, [.ref v, .int (nI 0), .int (0), .int (nI c)])), (v, .inl (pd_cB G, K, .inl (fun j => sb_b (f j))))] sz) ([(h0, .inr (3, [.ref v, .int (nI 0), .int (0), .int (nI ((c + 1)))])), (v, .inl (pd_cB G, K, .inl (fun j => sb_b ((va_up f c x) j))))]) t9) (va_A [(h0, .inr (3, [.ref v, .int (nI 0), .int (0), .int (nI c)])), (v, .inl (pd_cB G, K, .inl (fun j => sb_b (f j))))] sz)) 0 0 (va_A [(h0, .inr (3, [.ref v, .int (nI 0), .int (0), .int (nI c)])), (v, .inl (pd_cB G, K, .inl (fun j => sb_b (f j))))] sz) := by
  refine pd_start (by decide) (Nat.le_of_ble_eq_true rfl) ?_
  intro p e s m below meth co ls H locs ⟨hx, hb, hml, hown, hts⟩ hr hlk hnm hsz h hl
  have hown : s.vm.findClass RJ9 = some m.cls := hown
  have hl : lv_has ls 2 [(0, .ref h0), (1, .int (nI x))] := hl
  refine lv_aload_n hx hb dJ9_append_0 rfl (lv_at hl 0 rfl) ?_
  refine lv_aload_n hx hb dJ9_append_1 rfl (lv_at hl 0 rfl) ?_
  refine va_get (D := pd_D G) (ci := 3) (v := .int (nI c)) (C := RJ10) (T := TJ10) (N := 4) hx hb hts in_J10 hown h.1 h.2.2.2.1 0 rfl rfl 3 (by decide) (hts _ q282) (fun _ h9 => h9) rfl dJ9_append_2 ?_
  refine lv_iconst (v := (nI 1)) hx hb dJ9_append_5 (by decide) ?_
  refine pd_add hx hb dJ9_append_6 ?_
  refine pd_gov (wc := [(h0, .inr (3, [.ref v, .int (nI 0), .int (0), .int (nI c)])), (v, .inl (pd_cB G, K, .inl (fun j => sb_b (f j))))]) (wr := []) h (va_runU (As := [.int (nI (c + 1))]) (rest := []) ⟨hx, hb, hml, hown, hts⟩ (met_ens l G h0 v 0 c K K (c + 1) f H.size (Or.inl ⟨rfl, rfl⟩) hK (by omega)) (va_cwU 1 hts (lw_U q298 q443 qp0 q300 q14 q301) rfl rfl rfl rfl (by decide +kernel) ⟨Nat.le_of_ble_eq_true rfl, Nat.le_of_ble_eq_true rfl⟩) ⟨pd_blind, pd_recv h 0 rfl rfl, pd_pre h [0, 1] (by decide) rfl⟩ rfl rfl hl.1 rfl (lv_room (Nat.le_of_ble_eq_true rfl)) dJ9_append_7 ⟨(by first | omega | (dsimp only; omega)), (by first | omega | (dsimp only; omega))⟩) [0, 1] [] rfl rfl (by decide) (by decide) (fun u H locs hp h => ?_)
  have h : pd_W G _ s H locs [(h0, .inr (3, [.ref v, .int (nI 0), .int (0), .int (nI c)])), (v, .inl (pd_cB G, K, .inl (fun j => sb_b (f j))))] := h
  refine lv_aload_n hx hb dJ9_append_10 rfl (lv_at hl 0 rfl) ?_
  refine pd_goi (wc := [(h0, .inr (3, [.ref v, .int (nI 0), .int (0), .int (nI c)]))]) (wr := [(v, .inl (pd_cB G, K, .inl (fun j => sb_b (f j))))]) h (va_runU (As := []) (rest := []) ⟨hx, hb, hml, hown, hts⟩ (met_bl1 l G h0 v 0 c H.size (by decide)) (va_cwU 0 hts (lw_U q331 q333 q334 q332 q14 q335) rfl rfl rfl rfl (by decide +kernel) ⟨Nat.le_of_ble_eq_true rfl, Nat.le_of_ble_eq_true rfl⟩) ⟨pd_blind, pd_recv h 0 rfl rfl, pd_pre h [0] (by decide) rfl⟩ rfl rfl hl.1 rfl (lv_room (Nat.le_of_ble_eq_true rfl)) dJ9_append_11 ⟨(by first | omega | (dsimp only; omega)), (by first | omega | (dsimp only; omega))⟩) [0] [1] rfl rfl (by decide) (by decide) (fun r2 u H locs hp h => ?_)
  have h : pd_W G _ s H locs [(v, .inl (pd_cB G, K, .inl (fun j => sb_b (f j)))), (h0, .inr (3, [.ref v, .int (nI 0), .int (0), .int (nI c)]))] := h
  obtain rfl : r2 = (nI 1) := (hp.trans (congrArg nI (if_pos rfl)))
  refine pd_if_eq (tgt := 45) hx hb (by omega) dJ9_append_14 (by decide) (fun c1 => absurd c1 (by omega)) (fun c1 => ?_)
  refine lv_iload_n hx hb dJ9_append_17 rfl (lv_at hl 1 rfl) ?_
  refine pd_goi (wc := []) (wr := [(v, .inl (pd_cB G, K, .inl (fun j => sb_b (f j)))), (h0, .inr (3, [.ref v, .int (nI 0), .int (0), .int (nI c)]))]) h (va_runS (As := [.int (nI x)]) (rest := []) ⟨hx, hb, hml, hown, hts⟩ (met_lce l G x H.size (by omega)) (va_cwS 1 hts (lw_S q336 q337 q12 q338) rfl rfl rfl (by decide +kernel) ⟨Nat.le_of_ble_eq_true rfl, Nat.le_of_ble_eq_true rfl⟩) ⟨pd_blind, pd_pre h [] (by decide) rfl⟩ rfl rfl hl.1 rfl (lv_room (Nat.le_of_ble_eq_true rfl)) dJ9_append_18 ⟨(by first | omega | (dsimp only; omega)), (by first | omega | (dsimp only; omega))⟩) [] [0, 1] rfl rfl (by decide) (by decide) (fun r4 u H locs hp h => ?_)
  have h : pd_W G _ s H locs [(v, .inl (pd_cB G, K, .inl (fun j => sb_b (f j)))), (h0, .inr (3, [.ref v, .int (nI 0), .int (0), .int (nI c)]))] := h
  obtain rfl : r4 = (nI 1) := (hp.trans (congrArg nI (if_pos hx8)))
  refine pd_if_eq (tgt := 45) hx hb (by omega) dJ9_append_21 (by decide) (fun c1 => absurd c1 (by omega)) (fun c1 => ?_)
  refine lv_aload_n hx hb dJ9_append_24 rfl (lv_at hl 0 rfl) ?_
  refine va_get (D := pd_D G) (ci := 3) (v := .ref v) (C := RJ10) (T := TJ10) (N := 4) hx hb hts in_J10 hown h.1 h.2.2.2.1 1 rfl rfl 0 (by decide) (hts _ q279) (fun _ h9 => h9) rfl dJ9_append_25 ?_
  refine lv_aload_n hx hb dJ9_append_28 rfl (lv_at hl 0 rfl) ?_
  refine lv_dup hx hb dJ9_append_29 rfl ?_
  refine va_get (D := pd_D G) (ci := 3) (v := .int (nI c)) (C := RJ10) (T := TJ10) (N := 4) hx hb hts in_J10 hown h.1 h.2.2.2.1 1 rfl rfl 3 (by decide) (hts _ q282) (fun _ h9 => h9) rfl dJ9_append_30 ?_
  refine lv_dup_x1 hx hb dJ9_append_33 rfl rfl ?_
  refine lv_iconst (v := (nI 1)) hx hb dJ9_append_34 (by decide) ?_
  refine pd_add hx hb dJ9_append_35 ?_
  refine pd_put (ci := 3) (v := .int (nI (c + 1))) (ty := .int) (C := RJ10) (T := TJ10) (N := 4) hx hb hts hown h in_J10 tyJ10 tyJ10_ok nmJ10 1 rfl rfl 3 (by decide) (hts _ q282) (fun _ h9 => h9) rfl (by decide +kernel) rfl rfl (Nat.le_of_ble_eq_true rfl) dJ9_append_36 (fun H locs h => ?_)
  have h : pd_W G _ s H locs [(v, .inl (pd_cB G, K, .inl (fun j => sb_b (f j)))), (h0, .inr (3, [.ref v, .int (nI 0), .int (0), .int (nI (c + 1))]))] := h
  refine lv_iload_n hx hb dJ9_append_39 rfl (lv_at hl 1 rfl) ?_
  refine pd_i2bN hx hb dJ9_append_40 ?_
  refine pd_top (y := (sb_b (x))) (congrArg sb_b (by omega)) ?_
  refine pd_bast hx hb h 0 rfl (by omega) (by omega) dJ9_append_41 (fun H locs h => ?_)
  have h : pd_W G _ s H locs [(v, .inl (pd_cB G, K, .inl (fun j => sb_b ((va_up f c x) j)))), (h0, .inr (3, [.ref v, .int (nI 0), .int (0), .int (nI (c + 1))]))] := h
  refine lv_goto (tgt := 75) hx hb dJ9_append_42 (by decide) ?_
  refine lv_aload_n hx hb dJ9_append_75 rfl (lv_at hl 0 rfl) ?_
  exact pd_aret hx hb hr (Or.inl ⟨_, rfl⟩) hlk h () [1, 0] (by decide) rfl trivial (by first | omega | (dsimp only; omega)) (by first | omega | (dsimp only; omega)) dJ9_append_76
set_option maxHeartbeats 4000000 in
set_option maxRecDepth 100000 in
theorem met_saL (l : Launch) (G : pd_G) (h0 v c K x : Nat) (f : Nat → Nat) (sz : Nat) (hK : K < 65536) (hc : c < K) (hx8 : x < 256) : Met l yJ10_append (ws_ yJ10_append cJ10_append 2 (some (.object "java/lang/StringBuilder"))) ({ frames := 7, cells := 0, slots := 0, locals := 158 } : Room) (va_Pc [.ref h0, .int (nI x)] (pd_B G sz [(h0, .inr (3, [.ref v, .int (nI 0), .int (0), .int (nI c)])), (v, .inl (pd_cB G, K, .inl (fun j => sb_b (f j))))])) (va_Qr (fun (u : Unit) => True) (fun (u : Unit) (q : Nat) t9 => pd_F G (va_A [(h0, .inr (3, [.ref v, .int (nI 0), .int (0), .int (nI c)])), (v, .inl (pd_cB G, K, .inl (fun j => sb_b (f j))))] sz) ([(h0, .inr (3, [.ref v, .int (nI 0), .int (0), .int (nI ((c + 1)))])), (v, .inl (pd_cB G, K, .inl (fun j => sb_b ((va_up f c x) j))))]) t9) (va_A [(h0, .inr (3, [.ref v, .int (nI 0), .int (0), .int (nI c)])), (v, .inl (pd_cB G, K, .inl (fun j => sb_b (f j))))] sz)) 0 0 (va_A [(h0, .inr (3, [.ref v, .int (nI 0), .int (0), .int (nI c)])), (v, .inl (pd_cB G, K, .inl (fun j => sb_b (f j))))] sz) := by
  refine pd_start (by decide) (Nat.le_of_ble_eq_true rfl) ?_
  intro p e s m below meth co ls H locs ⟨hx, hb, hml, hown, hts⟩ hr hlk hnm hsz h hl
  have hown : s.vm.findClass RJ10 = some m.cls := hown
  have hl : lv_has ls 2 [(0, .ref h0), (1, .int (nI x))] := hl
  refine lv_aload_n hx hb dJ10_append_0 rfl (lv_at hl 0 rfl) ?_
  refine lv_iload_n hx hb dJ10_append_1 rfl (lv_at hl 1 rfl) ?_
  refine pd_gor (wc := [(h0, .inr (3, [.ref v, .int (nI 0), .int (0), .int (nI c)])), (v, .inl (pd_cB G, K, .inl (fun j => sb_b (f j))))]) (wr := []) h (va_runSU (As := [.int (nI x)]) (rest := []) (h.1.1 3 _ rfl).2 ⟨hx, hb, hml, hown, hts⟩ (met_baL l G h0 v c K x f H.size hK hc hx8) (va_cwSU 1 hts (lw_SU q295 q442 q221 q296 q14 q297) rfl rfl rfl (by decide +kernel) ⟨Nat.le_of_ble_eq_true rfl, Nat.le_of_ble_eq_true rfl⟩) ⟨pd_blind, pd_recv h 0 rfl rfl, pd_pre h [0, 1] (by decide) rfl⟩ rfl rfl hl.1 rfl (lv_room (Nat.le_of_ble_eq_true rfl)) dJ10_append_2 ⟨(by first | omega | (dsimp only; omega)), (by first | omega | (dsimp only; omega))⟩) [0, 1] [] rfl rfl (by decide) (by decide) (fun u q1 H locs hp h => ?_)
  have h : pd_W G _ s H locs [(h0, .inr (3, [.ref v, .int (nI 0), .int (0), .int (nI ((c + 1)))])), (v, .inl (pd_cB G, K, .inl (fun j => sb_b ((va_up f c x) j))))] := h
  refine lv_pop hx hb dJ10_append_5 rfl ?_
  refine lv_aload_n hx hb dJ10_append_6 rfl (lv_at hl 0 rfl) ?_
  exact pd_aret hx hb hr (Or.inl ⟨_, rfl⟩) hlk h () [0, 1] (by decide) rfl trivial (by first | omega | (dsimp only; omega)) (by first | omega | (dsimp only; omega)) dJ10_append_7
set_option maxHeartbeats 4000000 in
set_option maxRecDepth 100000 in
theorem met_baU (l : Launch) (G : pd_G) (h0 v c K x : Nat) (f : Nat → Nat) (sz : Nat) (hK : K < 65536) (hc : c < K) (hx8 : x < 65536) : Met l yJ9_append (ws_ yJ9_append cJ9_append 2 (some (.object "java/lang/AbstractStringBuilder"))) ({ frames := 6, cells := 0, slots := 0, locals := 137 } : Room) (va_Pc [.ref h0, .int (nI x)] (pd_B G sz [(h0, .inr (3, [.ref v, .int (nI 1), .int (0), .int (nI c)])), (v, .inl (pd_cB G, K * 2, .inl (fun j => sb_b (f j))))])) (va_Qr (fun (u : Unit) => True) (fun (u : Unit) (q : Nat) t9 => pd_F G (va_A [(h0, .inr (3, [.ref v, .int (nI 1), .int (0), .int (nI c)])), (v, .inl (pd_cB G, K * 2, .inl (fun j => sb_b (f j))))] sz) ([(h0, .inr (3, [.ref v, .int (nI 1), .int (0), .int (nI ((c + 1)))])), (v, .inl (pd_cB G, K * 2, .inl (fun j => sb_b ((va_up (va_up f (2 * c) (x % 256)) (2 * c + 1) (x / 256)) j))))]) t9) (va_A [(h0, .inr (3, [.ref v, .int (nI 1), .int (0), .int (nI c)])), (v, .inl (pd_cB G, K * 2, .inl (fun j => sb_b (f j))))] sz)) 0 0 (va_A [(h0, .inr (3, [.ref v, .int (nI 1), .int (0), .int (nI c)])), (v, .inl (pd_cB G, K * 2, .inl (fun j => sb_b (f j))))] sz) := by
  refine pd_start (by decide) (Nat.le_of_ble_eq_true rfl) ?_
  intro p e s m below meth co ls H locs ⟨hx, hb, hml, hown, hts⟩ hr hlk hnm hsz h hl
  have hown : s.vm.findClass RJ9 = some m.cls := hown
  have hl : lv_has ls 2 [(0, .ref h0), (1, .int (nI x))] := hl
  refine lv_aload_n hx hb dJ9_append_0 rfl (lv_at hl 0 rfl) ?_
  refine lv_aload_n hx hb dJ9_append_1 rfl (lv_at hl 0 rfl) ?_
  refine va_get (D := pd_D G) (ci := 3) (v := .int (nI c)) (C := RJ10) (T := TJ10) (N := 4) hx hb hts in_J10 hown h.1 h.2.2.2.1 0 rfl rfl 3 (by decide) (hts _ q282) (fun _ h9 => h9) rfl dJ9_append_2 ?_
  refine lv_iconst (v := (nI 1)) hx hb dJ9_append_5 (by decide) ?_
  refine pd_add hx hb dJ9_append_6 ?_
  refine pd_gov (wc := [(h0, .inr (3, [.ref v, .int (nI 1), .int (0), .int (nI c)])), (v, .inl (pd_cB G, K * 2, .inl (fun j => sb_b (f j))))]) (wr := []) h (va_runU (As := [.int (nI (c + 1))]) (rest := []) ⟨hx, hb, hml, hown, hts⟩ (met_ens l G h0 v 1 c (K * 2) K (c + 1) f H.size (Or.inr ⟨rfl, by omega⟩) hK (by omega)) (va_cwU 1 hts (lw_U q298 q443 qp0 q300 q14 q301) rfl rfl rfl rfl (by decide +kernel) ⟨Nat.le_of_ble_eq_true rfl, Nat.le_of_ble_eq_true rfl⟩) ⟨pd_blind, pd_recv h 0 rfl rfl, pd_pre h [0, 1] (by decide) rfl⟩ rfl rfl hl.1 rfl (lv_room (Nat.le_of_ble_eq_true rfl)) dJ9_append_7 ⟨(by first | omega | (dsimp only; omega)), (by first | omega | (dsimp only; omega))⟩) [0, 1] [] rfl rfl (by decide) (by decide) (fun u H locs hp h => ?_)
  have h : pd_W G _ s H locs [(h0, .inr (3, [.ref v, .int (nI 1), .int (0), .int (nI c)])), (v, .inl (pd_cB G, K * 2, .inl (fun j => sb_b (f j))))] := h
  refine lv_aload_n hx hb dJ9_append_10 rfl (lv_at hl 0 rfl) ?_
  refine pd_goi (wc := [(h0, .inr (3, [.ref v, .int (nI 1), .int (0), .int (nI c)]))]) (wr := [(v, .inl (pd_cB G, K * 2, .inl (fun j => sb_b (f j))))]) h (va_runU (As := []) (rest := []) ⟨hx, hb, hml, hown, hts⟩ (met_bl1 l G h0 v 1 c H.size (by decide)) (va_cwU 0 hts (lw_U q331 q333 q334 q332 q14 q335) rfl rfl rfl rfl (by decide +kernel) ⟨Nat.le_of_ble_eq_true rfl, Nat.le_of_ble_eq_true rfl⟩) ⟨pd_blind, pd_recv h 0 rfl rfl, pd_pre h [0] (by decide) rfl⟩ rfl rfl hl.1 rfl (lv_room (Nat.le_of_ble_eq_true rfl)) dJ9_append_11 ⟨(by first | omega | (dsimp only; omega)), (by first | omega | (dsimp only; omega))⟩) [0] [1] rfl rfl (by decide) (by decide) (fun r2 u H locs hp h => ?_)
  have h : pd_W G _ s H locs [(v, .inl (pd_cB G, K * 2, .inl (fun j => sb_b (f j)))), (h0, .inr (3, [.ref v, .int (nI 1), .int (0), .int (nI c)]))] := h
  obtain rfl : r2 = (nI 0) := (hp.trans (congrArg nI (if_neg (by decide))))
  refine pd_if_eq (tgt := 45) hx hb (by omega) dJ9_append_14 (by decide) (fun c1 => ?_) (fun c1 => absurd c1 (by omega))
  refine lv_aload_n hx hb dJ9_append_45 rfl (lv_at hl 0 rfl) ?_
  refine pd_goi (wc := [(h0, .inr (3, [.ref v, .int (nI 1), .int (0), .int (nI c)]))]) (wr := [(v, .inl (pd_cB G, K * 2, .inl (fun j => sb_b (f j))))]) h (va_runU (As := []) (rest := []) ⟨hx, hb, hml, hown, hts⟩ (met_bl1 l G h0 v 1 c H.size (by decide)) (va_cwU 0 hts (lw_U q331 q333 q334 q332 q14 q335) rfl rfl rfl rfl (by decide +kernel) ⟨Nat.le_of_ble_eq_true rfl, Nat.le_of_ble_eq_true rfl⟩) ⟨pd_blind, pd_recv h 1 rfl rfl, pd_pre h [1] (by decide) rfl⟩ rfl rfl hl.1 rfl (lv_room (Nat.le_of_ble_eq_true rfl)) dJ9_append_46 ⟨(by first | omega | (dsimp only; omega)), (by first | omega | (dsimp only; omega))⟩) [1] [0] rfl rfl (by decide) (by decide) (fun r4 u H locs hp h => ?_)
  have h : pd_W G _ s H locs [(v, .inl (pd_cB G, K * 2, .inl (fun j => sb_b (f j)))), (h0, .inr (3, [.ref v, .int (nI 1), .int (0), .int (nI c)]))] := h
  obtain rfl : r4 = (nI 0) := (hp.trans (congrArg nI (if_neg (by decide))))
  refine pd_if_eq (tgt := 56) hx hb (by omega) dJ9_append_49 (by decide) (fun c1 => ?_) (fun c1 => absurd c1 (by omega))
  refine lv_aload_n hx hb dJ9_append_56 rfl (lv_at hl 0 rfl) ?_
  refine va_get (D := pd_D G) (ci := 3) (v := .ref v) (C := RJ10) (T := TJ10) (N := 4) hx hb hts in_J10 hown h.1 h.2.2.2.1 1 rfl rfl 0 (by decide) (hts _ q279) (fun _ h9 => h9) rfl dJ9_append_57 ?_
  refine lv_aload_n hx hb dJ9_append_60 rfl (lv_at hl 0 rfl) ?_
  refine lv_dup hx hb dJ9_append_61 rfl ?_
  refine va_get (D := pd_D G) (ci := 3) (v := .int (nI c)) (C := RJ10) (T := TJ10) (N := 4) hx hb hts in_J10 hown h.1 h.2.2.2.1 1 rfl rfl 3 (by decide) (hts _ q282) (fun _ h9 => h9) rfl dJ9_append_62 ?_
  refine lv_dup_x1 hx hb dJ9_append_65 rfl rfl ?_
  refine lv_iconst (v := (nI 1)) hx hb dJ9_append_66 (by decide) ?_
  refine pd_add hx hb dJ9_append_67 ?_
  refine pd_put (ci := 3) (v := .int (nI (c + 1))) (ty := .int) (C := RJ10) (T := TJ10) (N := 4) hx hb hts hown h in_J10 tyJ10 tyJ10_ok nmJ10 1 rfl rfl 3 (by decide) (hts _ q282) (fun _ h9 => h9) rfl (by decide +kernel) rfl rfl (Nat.le_of_ble_eq_true rfl) dJ9_append_68 (fun H locs h => ?_)
  have h : pd_W G _ s H locs [(v, .inl (pd_cB G, K * 2, .inl (fun j => sb_b (f j)))), (h0, .inr (3, [.ref v, .int (nI 1), .int (0), .int (nI (c + 1))]))] := h
  refine lv_iload_n hx hb dJ9_append_71 rfl (lv_at hl 1 rfl) ?_
  refine pd_gov (wc := [(v, .inl (pd_cB G, K * 2, .inl (fun j => sb_b (f j))))]) (wr := [(h0, .inr (3, [.ref v, .int (nI 1), .int (0), .int (nI (c + 1))]))]) h (va_runS (As := [.ref v, .int (nI c), .int (nI x)]) (rest := []) ⟨hx, hb, hml, hown, hts⟩ (met_ups l G v (K * 2) c x f H.size (by omega) (by omega) hx8) (va_cwS 3 hts (lw_S q349 q350 q6 q351) rfl rfl rfl (by decide +kernel) ⟨Nat.le_of_ble_eq_true rfl, Nat.le_of_ble_eq_true rfl⟩) ⟨pd_blind, pd_pre h [0] (by decide) rfl⟩ rfl rfl hl.1 rfl (lv_room (Nat.le_of_ble_eq_true rfl)) dJ9_append_72 ⟨(by first | omega | (dsimp only; omega)), (by first | omega | (dsimp only; omega))⟩) [0] [1] rfl rfl (by decide) (by decide) (fun u H locs hp h => ?_)
  have h : pd_W G _ s H locs [(h0, .inr (3, [.ref v, .int (nI 1), .int (0), .int (nI (c + 1))])), (v, .inl (pd_cB G, K * 2, .inl (fun j => sb_b ((va_up (va_up f (2 * c) (x % 256)) (2 * c + 1) (x / 256)) j))))] := h
  refine lv_aload_n hx hb dJ9_append_75 rfl (lv_at hl 0 rfl) ?_
  exact pd_aret hx hb hr (Or.inl ⟨_, rfl⟩) hlk h () [0, 1] (by decide) rfl trivial (by first | omega | (dsimp only; omega)) (by first | omega | (dsimp only; omega)) dJ9_append_76
set_option maxHeartbeats 4000000 in
set_option maxRecDepth 100000 in
theorem met_saU (l : Launch) (G : pd_G) (h0 v c K x : Nat) (f : Nat → Nat) (sz : Nat) (hK : K < 65536) (hc : c < K) (hx8 : x < 65536) : Met l yJ10_append (ws_ yJ10_append cJ10_append 2 (some (.object "java/lang/StringBuilder"))) ({ frames := 7, cells := 0, slots := 0, locals := 158 } : Room) (va_Pc [.ref h0, .int (nI x)] (pd_B G sz [(h0, .inr (3, [.ref v, .int (nI 1), .int (0), .int (nI c)])), (v, .inl (pd_cB G, K * 2, .inl (fun j => sb_b (f j))))])) (va_Qr (fun (u : Unit) => True) (fun (u : Unit) (q : Nat) t9 => pd_F G (va_A [(h0, .inr (3, [.ref v, .int (nI 1), .int (0), .int (nI c)])), (v, .inl (pd_cB G, K * 2, .inl (fun j => sb_b (f j))))] sz) ([(h0, .inr (3, [.ref v, .int (nI 1), .int (0), .int (nI ((c + 1)))])), (v, .inl (pd_cB G, K * 2, .inl (fun j => sb_b ((va_up (va_up f (2 * c) (x % 256)) (2 * c + 1) (x / 256)) j))))]) t9) (va_A [(h0, .inr (3, [.ref v, .int (nI 1), .int (0), .int (nI c)])), (v, .inl (pd_cB G, K * 2, .inl (fun j => sb_b (f j))))] sz)) 0 0 (va_A [(h0, .inr (3, [.ref v, .int (nI 1), .int (0), .int (nI c)])), (v, .inl (pd_cB G, K * 2, .inl (fun j => sb_b (f j))))] sz) := by
  refine pd_start (by decide) (Nat.le_of_ble_eq_true rfl) ?_
  intro p e s m below meth co ls H locs ⟨hx, hb, hml, hown, hts⟩ hr hlk hnm hsz h hl
  have hown : s.vm.findClass RJ10 = some m.cls := hown
  have hl : lv_has ls 2 [(0, .ref h0), (1, .int (nI x))] := hl
  refine lv_aload_n hx hb dJ10_append_0 rfl (lv_at hl 0 rfl) ?_
  refine lv_iload_n hx hb dJ10_append_1 rfl (lv_at hl 1 rfl) ?_
  refine pd_gor (wc := [(h0, .inr (3, [.ref v, .int (nI 1), .int (0), .int (nI c)])), (v, .inl (pd_cB G, K * 2, .inl (fun j => sb_b (f j))))]) (wr := []) h (va_runSU (As := [.int (nI x)]) (rest := []) (h.1.1 3 _ rfl).2 ⟨hx, hb, hml, hown, hts⟩ (met_baU l G h0 v c K x f H.size hK hc hx8) (va_cwSU 1 hts (lw_SU q295 q442 q221 q296 q14 q297) rfl rfl rfl (by decide +kernel) ⟨Nat.le_of_ble_eq_true rfl, Nat.le_of_ble_eq_true rfl⟩) ⟨pd_blind, pd_recv h 0 rfl rfl, pd_pre h [0, 1] (by decide) rfl⟩ rfl rfl hl.1 rfl (lv_room (Nat.le_of_ble_eq_true rfl)) dJ10_append_2 ⟨(by first | omega | (dsimp only; omega)), (by first | omega | (dsimp only; omega))⟩) [0, 1] [] rfl rfl (by decide) (by decide) (fun u q1 H locs hp h => ?_)
  have h : pd_W G _ s H locs [(h0, .inr (3, [.ref v, .int (nI 1), .int (0), .int (nI ((c + 1)))])), (v, .inl (pd_cB G, K * 2, .inl (fun j => sb_b ((va_up (va_up f (2 * c) (x % 256)) (2 * c + 1) (x / 256)) j))))] := h
  refine lv_pop hx hb dJ10_append_5 rfl ?_
  refine lv_aload_n hx hb dJ10_append_6 rfl (lv_at hl 0 rfl) ?_
  exact pd_aret hx hb hr (Or.inl ⟨_, rfl⟩) hlk h () [0, 1] (by decide) rfl trivial (by first | omega | (dsimp only; omega)) (by first | omega | (dsimp only; omega)) dJ10_append_7
set_option maxHeartbeats 4000000 in
set_option maxRecDepth 100000 in
theorem met_baI (l : Launch) (G : pd_G) (h0 v c K x : Nat) (f : Nat → Nat) (sz : Nat) (hK : K < 65536) (hc : c < K) (hf : ∀ j, j < c → f j < 256) (hx7 : 256 ≤ x) (hx8 : x < 65536) : Met l yJ9_append (ws_ yJ9_append cJ9_append 2 (some (.object "java/lang/AbstractStringBuilder"))) ({ frames := 6, cells := 1, slots := K * 2, locals := 137 } : Room) (va_Pc [.ref h0, .int (nI x)] (pd_B G sz [(h0, .inr (3, [.ref v, .int (nI 0), .int (0), .int (nI c)])), (v, .inl (pd_cB G, K, .inl (fun j => sb_b (f j))))])) (va_Qr (fun (u : Nat × (Nat → Nat)) => ∃ g : Nat → Nat, (∀ j, j < c → f j < 65536 ∧ g (2 * j) = f j % 256 ∧ g (2 * j + 1) = f j / 256) ∧ u.2 = va_up (va_up g (2 * c) (x % 256)) (2 * c + 1) (x / 256)) (fun (u : Nat × (Nat → Nat)) (q : Nat) t9 => pd_F G (va_A [(h0, .inr (3, [.ref v, .int (nI 0), .int (0), .int (nI c)])), (v, .inl (pd_cB G, K, .inl (fun j => sb_b (f j))))] sz) ([(h0, .inr (3, [.ref u.1, .int (nI 1), .int (0), .int (nI ((c + 1)))])), (u.1, .inl (pd_cB G, K * 2, .inl (fun j => sb_b (u.2 j))))]) t9) (va_A [(h0, .inr (3, [.ref v, .int (nI 0), .int (0), .int (nI c)])), (v, .inl (pd_cB G, K, .inl (fun j => sb_b (f j))))] sz)) 1 (K * 2) (va_A [(h0, .inr (3, [.ref v, .int (nI 0), .int (0), .int (nI c)])), (v, .inl (pd_cB G, K, .inl (fun j => sb_b (f j))))] sz) := by
  refine pd_start (by decide) (Nat.le_of_ble_eq_true rfl) ?_
  intro p e s m below meth co ls H locs ⟨hx, hb, hml, hown, hts⟩ hr hlk hnm hsz h hl
  have hown : s.vm.findClass RJ9 = some m.cls := hown
  have hl : lv_has ls 2 [(0, .ref h0), (1, .int (nI x))] := hl
  refine lv_aload_n hx hb dJ9_append_0 rfl (lv_at hl 0 rfl) ?_
  refine lv_aload_n hx hb dJ9_append_1 rfl (lv_at hl 0 rfl) ?_
  refine va_get (D := pd_D G) (ci := 3) (v := .int (nI c)) (C := RJ10) (T := TJ10) (N := 4) hx hb hts in_J10 hown h.1 h.2.2.2.1 0 rfl rfl 3 (by decide) (hts _ q282) (fun _ h9 => h9) rfl dJ9_append_2 ?_
  refine lv_iconst (v := (nI 1)) hx hb dJ9_append_5 (by decide) ?_
  refine pd_add hx hb dJ9_append_6 ?_
  refine pd_gov (wc := [(h0, .inr (3, [.ref v, .int (nI 0), .int (0), .int (nI c)])), (v, .inl (pd_cB G, K, .inl (fun j => sb_b (f j))))]) (wr := []) h (va_runU (As := [.int (nI (c + 1))]) (rest := []) ⟨hx, hb, hml, hown, hts⟩ (met_ens l G h0 v 0 c K K (c + 1) f H.size (Or.inl ⟨rfl, rfl⟩) hK (by omega)) (va_cwU 1 hts (lw_U q298 q443 qp0 q300 q14 q301) rfl rfl rfl rfl (by decide +kernel) ⟨Nat.le_of_ble_eq_true rfl, Nat.le_of_ble_eq_true rfl⟩) ⟨pd_blind, pd_recv h 0 rfl rfl, pd_pre h [0, 1] (by decide) rfl⟩ rfl rfl hl.1 rfl (lv_room (Nat.le_of_ble_eq_true rfl)) dJ9_append_7 ⟨(by first | omega | (dsimp only; omega)), (by first | omega | (dsimp only; omega))⟩) [0, 1] [] rfl rfl (by decide) (by decide) (fun u H locs hp h => ?_)
  have h : pd_W G _ s H locs [(h0, .inr (3, [.ref v, .int (nI 0), .int (0), .int (nI c)])), (v, .inl (pd_cB G, K, .inl (fun j => sb_b (f j))))] := h
  refine lv_aload_n hx hb dJ9_append_10 rfl (lv_at hl 0 rfl) ?_
  refine pd_goi (wc := [(h0, .inr (3, [.ref v, .int (nI 0), .int (0), .int (nI c)]))]) (wr := [(v, .inl (pd_cB G, K, .inl (fun j => sb_b (f j))))]) h (va_runU (As := []) (rest := []) ⟨hx, hb, hml, hown, hts⟩ (met_bl1 l G h0 v 0 c H.size (by decide)) (va_cwU 0 hts (lw_U q331 q333 q334 q332 q14 q335) rfl rfl rfl rfl (by decide +kernel) ⟨Nat.le_of_ble_eq_true rfl, Nat.le_of_ble_eq_true rfl⟩) ⟨pd_blind, pd_recv h 0 rfl rfl, pd_pre h [0] (by decide) rfl⟩ rfl rfl hl.1 rfl (lv_room (Nat.le_of_ble_eq_true rfl)) dJ9_append_11 ⟨(by first | omega | (dsimp only; omega)), (by first | omega | (dsimp only; omega))⟩) [0] [1] rfl rfl (by decide) (by decide) (fun r2 u H locs hp h => ?_)
  have h : pd_W G _ s H locs [(v, .inl (pd_cB G, K, .inl (fun j => sb_b (f j)))), (h0, .inr (3, [.ref v, .int (nI 0), .int (0), .int (nI c)]))] := h
  obtain rfl : r2 = (nI 1) := (hp.trans (congrArg nI (if_pos rfl)))
  refine pd_if_eq (tgt := 45) hx hb (by omega) dJ9_append_14 (by decide) (fun c1 => absurd c1 (by omega)) (fun c1 => ?_)
  refine lv_iload_n hx hb dJ9_append_17 rfl (lv_at hl 1 rfl) ?_
  refine pd_goi (wc := []) (wr := [(v, .inl (pd_cB G, K, .inl (fun j => sb_b (f j)))), (h0, .inr (3, [.ref v, .int (nI 0), .int (0), .int (nI c)]))]) h (va_runS (As := [.int (nI x)]) (rest := []) ⟨hx, hb, hml, hown, hts⟩ (met_lce l G x H.size (by omega)) (va_cwS 1 hts (lw_S q336 q337 q12 q338) rfl rfl rfl (by decide +kernel) ⟨Nat.le_of_ble_eq_true rfl, Nat.le_of_ble_eq_true rfl⟩) ⟨pd_blind, pd_pre h [] (by decide) rfl⟩ rfl rfl hl.1 rfl (lv_room (Nat.le_of_ble_eq_true rfl)) dJ9_append_18 ⟨(by first | omega | (dsimp only; omega)), (by first | omega | (dsimp only; omega))⟩) [] [0, 1] rfl rfl (by decide) (by decide) (fun r4 u H locs hp h => ?_)
  have h : pd_W G _ s H locs [(v, .inl (pd_cB G, K, .inl (fun j => sb_b (f j)))), (h0, .inr (3, [.ref v, .int (nI 0), .int (0), .int (nI c)]))] := h
  obtain rfl : r4 = (nI 0) := (hp.trans (congrArg nI (if_neg (by omega))))
  refine pd_if_eq (tgt := 45) hx hb (by omega) dJ9_append_21 (by decide) (fun c1 => ?_) (fun c1 => absurd c1 (by omega))
  refine lv_aload_n hx hb dJ9_append_45 rfl (lv_at hl 0 rfl) ?_
  refine pd_goi (wc := [(h0, .inr (3, [.ref v, .int (nI 0), .int (0), .int (nI c)]))]) (wr := [(v, .inl (pd_cB G, K, .inl (fun j => sb_b (f j))))]) h (va_runU (As := []) (rest := []) ⟨hx, hb, hml, hown, hts⟩ (met_bl1 l G h0 v 0 c H.size (by decide)) (va_cwU 0 hts (lw_U q331 q333 q334 q332 q14 q335) rfl rfl rfl rfl (by decide +kernel) ⟨Nat.le_of_ble_eq_true rfl, Nat.le_of_ble_eq_true rfl⟩) ⟨pd_blind, pd_recv h 1 rfl rfl, pd_pre h [1] (by decide) rfl⟩ rfl rfl hl.1 rfl (lv_room (Nat.le_of_ble_eq_true rfl)) dJ9_append_46 ⟨(by first | omega | (dsimp only; omega)), (by first | omega | (dsimp only; omega))⟩) [1] [0] rfl rfl (by decide) (by decide) (fun r6 u H locs hp h => ?_)
  have h : pd_W G _ s H locs [(v, .inl (pd_cB G, K, .inl (fun j => sb_b (f j)))), (h0, .inr (3, [.ref v, .int (nI 0), .int (0), .int (nI c)]))] := h
  obtain rfl : r6 = (nI 1) := (hp.trans (congrArg nI (if_pos rfl)))
  refine pd_if_eq (tgt := 56) hx hb (by omega) dJ9_append_49 (by decide) (fun c1 => absurd c1 (by omega)) (fun c1 => ?_)
  refine lv_aload_n hx hb dJ9_append_52 rfl (lv_at hl 0 rfl) ?_
  refine pd_gov (wc := [(h0, .inr (3, [.ref v, .int (nI 0), .int (0), .int (nI c)])), (v, .inl (pd_cB G, K, .inl (fun j => sb_b (f j))))]) (wr := []) h (va_runU (As := []) (rest := []) ⟨hx, hb, hml, hown, hts⟩ (met_inf l G h0 v c K f H.size hK (by omega) hf) (va_cwU 0 hts (lw_U q339 q445 qp1 q341 q14 q342) rfl rfl rfl rfl (by decide +kernel) ⟨Nat.le_of_ble_eq_true rfl, Nat.le_of_ble_eq_true rfl⟩) ⟨pd_blind, pd_recv h 1 rfl rfl, pd_pre h [1, 0] (by decide) rfl⟩ rfl rfl hl.1 rfl (lv_room (Nat.le_of_ble_eq_true rfl)) dJ9_append_53 ⟨(by first | omega | (dsimp only; omega)), (by first | omega | (dsimp only; omega))⟩) [1, 0] [] rfl rfl (by decide) (by decide) (fun u0 H locs hg0 h => ?_)
  obtain ⟨qb, g⟩ := u0
  have h : pd_W G _ s H locs [(h0, .inr (3, [.ref qb, .int (nI 1), .int (0), .int (nI c)])), (qb, .inl (pd_cB G, K * 2, .inl (fun j => sb_b (g j))))] := h
  refine lv_aload_n hx hb dJ9_append_56 rfl (lv_at hl 0 rfl) ?_
  refine va_get (D := pd_D G) (ci := 3) (v := .ref qb) (C := RJ10) (T := TJ10) (N := 4) hx hb hts in_J10 hown h.1 h.2.2.2.1 0 rfl rfl 0 (by decide) (hts _ q279) (fun _ h9 => h9) rfl dJ9_append_57 ?_
  refine lv_aload_n hx hb dJ9_append_60 rfl (lv_at hl 0 rfl) ?_
  refine lv_dup hx hb dJ9_append_61 rfl ?_
  refine va_get (D := pd_D G) (ci := 3) (v := .int (nI c)) (C := RJ10) (T := TJ10) (N := 4) hx hb hts in_J10 hown h.1 h.2.2.2.1 0 rfl rfl 3 (by decide) (hts _ q282) (fun _ h9 => h9) rfl dJ9_append_62 ?_
  refine lv_dup_x1 hx hb dJ9_append_65 rfl rfl ?_
  refine lv_iconst (v := (nI 1)) hx hb dJ9_append_66 (by decide) ?_
  refine pd_add hx hb dJ9_append_67 ?_
  refine pd_put (ci := 3) (v := .int (nI (c + 1))) (ty := .int) (C := RJ10) (T := TJ10) (N := 4) hx hb hts hown h in_J10 tyJ10 tyJ10_ok nmJ10 0 rfl rfl 3 (by decide) (hts _ q282) (fun _ h9 => h9) rfl (by decide +kernel) rfl rfl (Nat.le_of_ble_eq_true rfl) dJ9_append_68 (fun H locs h => ?_)
  have h : pd_W G _ s H locs [(h0, .inr (3, [.ref qb, .int (nI 1), .int (0), .int (nI (c + 1))])), (qb, .inl (pd_cB G, K * 2, .inl (fun j => sb_b (g j))))] := h
  refine lv_iload_n hx hb dJ9_append_71 rfl (lv_at hl 1 rfl) ?_
  refine pd_gov (wc := [(qb, .inl (pd_cB G, K * 2, .inl (fun j => sb_b (g j))))]) (wr := [(h0, .inr (3, [.ref qb, .int (nI 1), .int (0), .int (nI (c + 1))]))]) h (va_runS (As := [.ref qb, .int (nI c), .int (nI x)]) (rest := []) ⟨hx, hb, hml, hown, hts⟩ (met_ups l G qb (K * 2) c x g H.size (by omega) (by omega) hx8) (va_cwS 3 hts (lw_S q349 q350 q6 q351) rfl rfl rfl (by decide +kernel) ⟨Nat.le_of_ble_eq_true rfl, Nat.le_of_ble_eq_true rfl⟩) ⟨pd_blind, pd_pre h [1] (by decide) rfl⟩ rfl rfl hl.1 rfl (lv_room (Nat.le_of_ble_eq_true rfl)) dJ9_append_72 ⟨(by first | omega | (dsimp only; omega)), (by first | omega | (dsimp only; omega))⟩) [1] [0] rfl rfl (by decide) (by decide) (fun u H locs hp h => ?_)
  have h : pd_W G _ s H locs [(h0, .inr (3, [.ref qb, .int (nI 1), .int (0), .int (nI (c + 1))])), (qb, .inl (pd_cB G, K * 2, .inl (fun j => sb_b ((va_up (va_up g (2 * c) (x % 256)) (2 * c + 1) (x / 256)) j))))] := h
  refine lv_aload_n hx hb dJ9_append_75 rfl (lv_at hl 0 rfl) ?_
  exact pd_aret hx hb hr (Or.inl ⟨_, rfl⟩) hlk h (qb, va_up (va_up g (2 * c) (x % 256)) (2 * c + 1) (x / 256)) [0, 1] (by decide) rfl ⟨g, hg0, rfl⟩ (by first | omega | (dsimp only; omega)) (by first | omega | (dsimp only; omega)) dJ9_append_76
set_option maxHeartbeats 4000000 in
set_option maxRecDepth 100000 in
theorem met_saI (l : Launch) (G : pd_G) (h0 v c K x : Nat) (f : Nat → Nat) (sz : Nat) (hK : K < 65536) (hc : c < K) (hf : ∀ j, j < c → f j < 256) (hx7 : 256 ≤ x) (hx8 : x < 65536) : Met l yJ10_append (ws_ yJ10_append cJ10_append 2 (some (.object "java/lang/StringBuilder"))) ({ frames := 7, cells := 1, slots := K * 2, locals := 158 } : Room) (va_Pc [.ref h0, .int (nI x)] (pd_B G sz [(h0, .inr (3, [.ref v, .int (nI 0), .int (0), .int (nI c)])), (v, .inl (pd_cB G, K, .inl (fun j => sb_b (f j))))])) (va_Qr (fun (u : Nat × (Nat → Nat)) => ∃ g : Nat → Nat, (∀ j, j < c → f j < 65536 ∧ g (2 * j) = f j % 256 ∧ g (2 * j + 1) = f j / 256) ∧ u.2 = va_up (va_up g (2 * c) (x % 256)) (2 * c + 1) (x / 256)) (fun (u : Nat × (Nat → Nat)) (q : Nat) t9 => pd_F G (va_A [(h0, .inr (3, [.ref v, .int (nI 0), .int (0), .int (nI c)])), (v, .inl (pd_cB G, K, .inl (fun j => sb_b (f j))))] sz) ([(h0, .inr (3, [.ref u.1, .int (nI 1), .int (0), .int (nI ((c + 1)))])), (u.1, .inl (pd_cB G, K * 2, .inl (fun j => sb_b (u.2 j))))]) t9) (va_A [(h0, .inr (3, [.ref v, .int (nI 0), .int (0), .int (nI c)])), (v, .inl (pd_cB G, K, .inl (fun j => sb_b (f j))))] sz)) 1 (K * 2) (va_A [(h0, .inr (3, [.ref v, .int (nI 0), .int (0), .int (nI c)])), (v, .inl (pd_cB G, K, .inl (fun j => sb_b (f j))))] sz) := by
  refine pd_start (by decide) (Nat.le_of_ble_eq_true rfl) ?_
  intro p e s m below meth co ls H locs ⟨hx, hb, hml, hown, hts⟩ hr hlk hnm hsz h hl
  have hown : s.vm.findClass RJ10 = some m.cls := hown
  have hl : lv_has ls 2 [(0, .ref h0), (1, .int (nI x))] := hl
  refine lv_aload_n hx hb dJ10_append_0 rfl (lv_at hl 0 rfl) ?_
  refine lv_iload_n hx hb dJ10_append_1 rfl (lv_at hl 1 rfl) ?_
  refine pd_gor (wc := [(h0, .inr (3, [.ref v, .int (nI 0), .int (0), .int (nI c)])), (v, .inl (pd_cB G, K, .inl (fun j => sb_b (f j))))]) (wr := []) h (va_runSU (As := [.int (nI x)]) (rest := []) (h.1.1 3 _ rfl).2 ⟨hx, hb, hml, hown, hts⟩ (met_baI l G h0 v c K x f H.size hK hc hf hx7 hx8) (va_cwSU 1 hts (lw_SU q295 q442 q221 q296 q14 q297) rfl rfl rfl (by decide +kernel) ⟨Nat.le_of_ble_eq_true rfl, Nat.le_of_ble_eq_true rfl⟩) ⟨pd_blind, pd_recv h 0 rfl rfl, pd_pre h [0, 1] (by decide) rfl⟩ rfl rfl hl.1 rfl (lv_room (Nat.le_of_ble_eq_true rfl)) dJ10_append_2 ⟨(by first | omega | (dsimp only; omega)), (by first | omega | (dsimp only; omega))⟩) [0, 1] [] rfl rfl (by decide) (by decide) (fun u q1 H locs hp h => ?_)
  have h : pd_W G _ s H locs [(h0, .inr (3, [.ref u.1, .int (nI 1), .int (0), .int (nI ((c + 1)))])), (u.1, .inl (pd_cB G, K * 2, .inl (fun j => sb_b (u.2 j))))] := h
  refine lv_pop hx hb dJ10_append_5 rfl ?_
  refine lv_aload_n hx hb dJ10_append_6 rfl (lv_at hl 0 rfl) ?_
  exact pd_aret hx hb hr (Or.inl ⟨_, rfl⟩) hlk h u [0, 1] (by decide) rfl hp (by first | omega | (dsimp only; omega)) (by first | omega | (dsimp only; omega)) dJ10_append_7
set_option maxHeartbeats 4000000 in
set_option maxRecDepth 100000 in
theorem met_bin (l : Launch) (G : pd_G) (h0 k : Nat) (sz : Nat) (hk : k < 65536) : Met l yJ9_init (ws_ yJ9_init cJ9_init 2 none) ({ frames := 1, cells := 1, slots := k, locals := 12 } : Room) (va_Pc [.ref h0, .int (nI k)] (pd_B G sz [(h0, .inr (3, [.null, .int (0), .int (0), .int (nI 0)]))])) (va_Qv (fun (u : Nat) => True) (fun (u : Nat) t9 => pd_F G (va_A [(h0, .inr (3, [.null, .int (0), .int (0), .int (nI 0)]))] sz) ([(h0, .inr (3, [.ref u, .int (nI 0), .int (0), .int (nI 0)])), (u, .inl (pd_cB G, k, .inl (fun j => sb_b (pd_z j))))]) t9) (va_A [(h0, .inr (3, [.null, .int (0), .int (0), .int (nI 0)]))] sz)) 1 k (va_A [(h0, .inr (3, [.null, .int (0), .int (0), .int (nI 0)]))] sz) := by
  refine pd_start (by decide) (Nat.le_of_ble_eq_true rfl) ?_
  intro p e s m below meth co ls H locs ⟨hx, hb, hml, hown, hts⟩ hr hlk hnm hsz h hl
  have hown : s.vm.findClass RJ9 = some m.cls := hown
  have hl : lv_has ls 2 [(0, .ref h0), (1, .int (nI k))] := hl
  refine lv_aload_n hx hb dJ9_init_0 rfl (lv_at hl 0 rfl) ?_
  refine W.objInit hx hb hown (hts _ q276) (hts _ q25) (hts _ q26) rfl (by rw [hml]; exact hl.1) rfl dJ9_init_1 (Nat.le_of_ble_eq_true rfl) (Nat.le_of_ble_eq_true rfl) ?_
  refine W.eq (g2 := F0 m 4 ls []) rfl ?_
  refine pd_gsC hx hb hown h (hts _ q277) dJ9_init_4 ?_
  refine pd_if_eq (tgt := 25) hx hb (by omega) dJ9_init_7 (by decide) (fun c1 => absurd c1 (by omega)) (fun c1 => ?_)
  refine lv_aload_n hx hb dJ9_init_10 rfl (lv_at hl 0 rfl) ?_
  refine lv_iload_n hx hb dJ9_init_11 rfl (lv_at hl 1 rfl) ?_
  refine pd_newB hx hb hts h (by omega) (by first | omega | (dsimp only; omega)) (by first | omega | (dsimp only; omega)) dJ9_init_12 (fun qv H h => ?_)
  have h : pd_W G _ s H locs [(h0, .inr (3, [.null, .int (0), .int (0), .int (nI 0)])), (qv, .inl (pd_cB G, k, .inl (fun j => sb_b (pd_z j))))] := h
  refine pd_put (ci := 3) (v := .ref qv) (ty := .array .byte) (C := RJ10) (T := TJ10) (N := 4) hx hb hts hown h in_J10 tyJ10 tyJ10_ok nmJ10 0 rfl rfl 0 (by decide) (hts _ q279) (fun _ h9 => h9) rfl (by decide +kernel) rfl rfl (Nat.le_of_ble_eq_true rfl) dJ9_init_14 (fun H locs h => ?_)
  have h : pd_W G _ s H locs [(h0, .inr (3, [.ref qv, .int (0), .int (0), .int (nI 0)])), (qv, .inl (pd_cB G, k, .inl (fun j => sb_b (pd_z j))))] := h
  refine lv_aload_n hx hb dJ9_init_17 rfl (lv_at hl 0 rfl) ?_
  refine lv_iconst (v := (nI 0)) hx hb dJ9_init_18 (by decide) ?_
  refine pd_put (ci := 3) (v := .int (nI 0)) (ty := .byte) (C := RJ10) (T := TJ10) (N := 4) hx hb hts hown h in_J10 tyJ10 tyJ10_ok nmJ10 0 rfl rfl 1 (by decide) (hts _ q280) (fun _ h9 => h9) rfl (by decide +kernel) (by decide) (by decide) (Nat.le_of_ble_eq_true rfl) dJ9_init_19 (fun H locs h => ?_)
  have h : pd_W G _ s H locs [(h0, .inr (3, [.ref qv, .int (nI 0), .int (0), .int (nI 0)])), (qv, .inl (pd_cB G, k, .inl (fun j => sb_b (pd_z j))))] := h
  refine lv_goto (tgt := 38) hx hb dJ9_init_22 (by decide) ?_
  exact pd_vret hx hb hr hlk h qv [0, 1] (by decide) rfl trivial (by first | omega | (dsimp only; omega)) (by first | omega | (dsimp only; omega)) dJ9_init_38
set_option maxHeartbeats 4000000 in
set_option maxRecDepth 100000 in
theorem met_sin (l : Launch) (G : pd_G) (h0 k : Nat) (sz : Nat) (hk : k < 65536) : Met l yJ10_init (ws_ yJ10_init cJ10_init 2 none) ({ frames := 2, cells := 1, slots := k, locals := 33 } : Room) (va_Pc [.ref h0, .int (nI k)] (pd_B G sz [(h0, .inr (3, [.null, .int (0), .int (0), .int (nI 0)]))])) (va_Qv (fun (u : Nat) => True) (fun (u : Nat) t9 => pd_F G (va_A [(h0, .inr (3, [.null, .int (0), .int (0), .int (nI 0)]))] sz) ([(h0, .inr (3, [.ref u, .int (nI 0), .int (0), .int (nI 0)])), (u, .inl (pd_cB G, k, .inl (fun j => sb_b (pd_z j))))]) t9) (va_A [(h0, .inr (3, [.null, .int (0), .int (0), .int (nI 0)]))] sz)) 1 k (va_A [(h0, .inr (3, [.null, .int (0), .int (0), .int (nI 0)]))] sz) := by
  refine pd_start (by decide) (Nat.le_of_ble_eq_true rfl) ?_
  intro p e s m below meth co ls H locs ⟨hx, hb, hml, hown, hts⟩ hr hlk hnm hsz h hl
  have hown : s.vm.findClass RJ10 = some m.cls := hown
  have hl : lv_has ls 2 [(0, .ref h0), (1, .int (nI k))] := hl
  refine lv_aload_n hx hb dJ10_init_0 rfl (lv_at hl 0 rfl) ?_
  refine lv_iload_n hx hb dJ10_init_1 rfl (lv_at hl 1 rfl) ?_
  refine pd_gov (wc := [(h0, .inr (3, [.null, .int (0), .int (0), .int (nI 0)]))]) (wr := []) h (va_runI (As := [.int (nI k)]) (rest := []) ⟨hx, hb, hml, hown, hts⟩ (met_bin l G h0 k H.size hk) (cwI 1 hts (lw_meth q275) rfl rfl rfl (hts _ q14) (hts _ q273) (hts _ q274) rfl (by decide +kernel) ⟨Nat.le_of_ble_eq_true rfl, Nat.le_of_ble_eq_true rfl⟩) ⟨pd_blind, pd_pre h [0] (by decide) rfl⟩ rfl rfl hl.1 rfl (lv_room (Nat.le_of_ble_eq_true rfl)) dJ10_init_2 ⟨(by first | omega | (dsimp only; omega)), (by first | omega | (dsimp only; omega))⟩) [0] [] rfl rfl (by decide) (by decide) (fun qv H locs hp h => ?_)
  have h : pd_W G _ s H locs [(h0, .inr (3, [.ref qv, .int (nI 0), .int (0), .int (nI 0)])), (qv, .inl (pd_cB G, k, .inl (fun j => sb_b (pd_z j))))] := h
  exact pd_vret hx hb hr hlk h qv [0, 1] (by decide) rfl trivial (by first | omega | (dsimp only; omega)) (by first | omega | (dsimp only; omega)) dJ10_init_5
set_option maxHeartbeats 4000000 in
set_option maxRecDepth 100000 in
theorem met_cor (l : Launch) (G : pd_G) (h0 n : Nat) (f : Nat → Nat) (sz : Nat) (hn : n < 2147483648) : Met l yJ12_copyOfRange (ws_ yJ12_copyOfRange cJ12_copyOfRange 3 (some (.array .byte))) ({ frames := 1, cells := 1, slots := n, locals := 14 } : Room) (va_Pc [.ref h0, .int (nI 0), .int (nI n)] (pd_B G sz [(h0, .inl (pd_cB G, n, .inl (fun j => sb_b (f j))))])) (va_Qr (fun (u : Unit) => True) (fun (u : Unit) (q : Nat) t9 => pd_F G (va_A [(h0, .inl (pd_cB G, n, .inl (fun j => sb_b (f j))))] sz) ([(h0, .inl (pd_cB G, n, .inl (fun j => sb_b (f j)))), (q, .inl (pd_cB G, n, .inl (fun j => sb_b (f j))))]) t9) (va_A [(h0, .inl (pd_cB G, n, .inl (fun j => sb_b (f j))))] sz)) 1 n (va_A [(h0, .inl (pd_cB G, n, .inl (fun j => sb_b (f j))))] sz) := by
  refine pd_start (by decide) (Nat.le_of_ble_eq_true rfl) ?_
  intro p e s m below meth co ls H locs ⟨hx, hb, hml, hown, hts⟩ hr hlk hnm hsz h hl
  have hown : s.vm.findClass RJ12 = some m.cls := hown
  have hl : lv_has ls 3 [(0, .ref h0), (1, .int (nI 0)), (2, .int (nI n))] := hl
  refine lv_iload_n hx hb dJ12_copyOfRange_0 rfl (lv_at hl 1 rfl) ?_
  refine pd_if_ne (tgt := 10) hx hb (by omega) dJ12_copyOfRange_1 (by decide) (fun c1 => absurd c1 (by omega)) (fun c1 => ?_)
  refine lv_iload_n hx hb dJ12_copyOfRange_4 rfl (lv_at hl 2 rfl) ?_
  refine lv_aload_n hx hb dJ12_copyOfRange_5 rfl (lv_at hl 0 rfl) ?_
  refine pd_alenB hx hb h 0 rfl dJ12_copyOfRange_6 ?_
  refine pd_icmp_eq (tgt := 17) hx hb (by omega) (by omega) dJ12_copyOfRange_7 (by decide) (fun c1 => ?_) (fun c1 => absurd c1 (by omega))
  refine lv_aload_n hx hb dJ12_copyOfRange_17 rfl (lv_at hl 0 rfl) ?_
  refine pd_cloneB hx hb (by rw [hml]; exact hl.1.symm) hown hts h (hts _ q320) 0 rfl (Nat.le_of_ble_eq_true rfl) (Nat.le_of_ble_eq_true rfl) (by first | omega | (dsimp only; omega)) (by first | omega | (dsimp only; omega)) dJ12_copyOfRange_18 (fun q9 H h => ?_)
  have h : pd_W G _ s H locs [(h0, .inl (pd_cB G, n, .inl (fun j => sb_b (f j)))), (q9, .inl (pd_cB G, n, .inl (fun j => sb_b (f j))))] := h
  refine pd_castB hx hb hown h (hts _ q326) 1 rfl dJ12_copyOfRange_21 ?_
  exact pd_aret hx hb hr (Or.inr ⟨_, rfl⟩) hlk h () [0, 1] (by decide) rfl trivial (by first | omega | (dsimp only; omega)) (by first | omega | (dsimp only; omega)) dJ12_copyOfRange_24
set_option maxHeartbeats 4000000 in
set_option maxRecDepth 100000 in
theorem met_si4 (l : Launch) (G : pd_G) (h0 h1 v cd nb K : Nat) (f t : Nat → Nat) (sz : Nat) (hK : K < 65536) (hst : pd_st cd nb f K t) : Met l yJ0_init_4 (ws_ yJ0_init_4 cJ0_init_4 5 none) ({ frames := 2, cells := 1, slots := nb, locals := 42 } : Room) (va_Pc [.ref h0, .ref h1, .null] (pd_B G sz [(h0, .inr (2, [.null, .int (0), .int (0), .int (0)])), (h1, .inr (3, [.ref v, .int (nI cd), .int (0), .int (nI K)])), (v, .inl (pd_cB G, nb, .inl (fun j => sb_b (f j))))])) (va_Qv (fun (u : Nat) => True) (fun (u : Nat) t9 => pd_F G (va_A [(h0, .inr (2, [.null, .int (0), .int (0), .int (0)])), (h1, .inr (3, [.ref v, .int (nI cd), .int (0), .int (nI K)])), (v, .inl (pd_cB G, nb, .inl (fun j => sb_b (f j))))] sz) ([(h0, .inr (2, [.ref u, .int (nI cd), .int (0), .int (0)])), (u, .inl (pd_cB G, nb, .inl (fun j => sb_b (f j))))]) t9) (va_A [(h0, .inr (2, [.null, .int (0), .int (0), .int (0)])), (h1, .inr (3, [.ref v, .int (nI cd), .int (0), .int (nI K)])), (v, .inl (pd_cB G, nb, .inl (fun j => sb_b (f j))))] sz)) 1 nb (va_A [(h0, .inr (2, [.null, .int (0), .int (0), .int (0)])), (h1, .inr (3, [.ref v, .int (nI cd), .int (0), .int (nI K)])), (v, .inl (pd_cB G, nb, .inl (fun j => sb_b (f j))))] sz) := by
  refine pd_start (by decide) (Nat.le_of_ble_eq_true rfl) ?_
  intro p e s m below meth co ls H locs ⟨hx, hb, hml, hown, hts⟩ hr hlk hnm hsz h hl
  have hown : s.vm.findClass RJ0 = some m.cls := hown
  have hl : lv_has ls 5 [(0, .ref h0), (1, .ref h1), (2, .null)] := hl
  have hcd : cd < 2 := by rcases hst with ⟨h1, -⟩ | ⟨h1, -⟩ <;> omega
  refine lv_aload_n hx hb dJ0_init_4_0 rfl (lv_at hl 0 rfl) ?_
  refine W.objInit hx hb hown (hts _ q72) (hts _ q25) (hts _ q26) rfl (by rw [hml]; exact hl.1) rfl dJ0_init_4_1 (Nat.le_of_ble_eq_true rfl) (Nat.le_of_ble_eq_true rfl) ?_
  refine W.eq (g2 := F0 m 4 ls []) rfl ?_
  refine lv_aload_n hx hb dJ0_init_4_4 rfl (lv_at hl 1 rfl) ?_
  refine pd_goq (wc := [(h1, .inr (3, [.ref v, .int (nI cd), .int (0), .int (nI K)]))]) (wr := [(h0, .inr (2, [.null, .int (0), .int (0), .int (0)])), (v, .inl (pd_cB G, nb, .inl (fun j => sb_b (f j))))]) h (va_runU (As := []) (rest := []) ⟨hx, hb, hml, hown, hts⟩ (met_bgv l G h1 v cd K H.size) (va_cwU 0 hts (lw_U q363 q365 q366 q364 q14 q367) rfl rfl rfl rfl (by decide +kernel) ⟨Nat.le_of_ble_eq_true rfl, Nat.le_of_ble_eq_true rfl⟩) ⟨pd_blind, pd_recv h 1 rfl rfl, pd_pre h [1] (by decide) rfl⟩ rfl rfl hl.1 rfl (lv_room (Nat.le_of_ble_eq_true rfl)) dJ0_init_4_5 ⟨(by first | omega | (dsimp only; omega)), (by first | omega | (dsimp only; omega))⟩) [1] [0, 2] rfl rfl (by decide) (by decide) (fun r1 u H locs hp h => ?_)
  have h : pd_W G _ s H locs [(h0, .inr (2, [.null, .int (0), .int (0), .int (0)])), (v, .inl (pd_cB G, nb, .inl (fun j => sb_b (f j)))), (h1, .inr (3, [.ref v, .int (nI cd), .int (0), .int (nI K)]))] := h
  obtain rfl : r1 = some v := hp
  refine W.eq (g2 := F0 m 8 ls [.ref v]) rfl ?_
  refine lv_astore_n (lv' := [(3, .ref v), (0, .ref h0), (1, .ref h1), (2, .null)]) hx hb dJ0_init_4_8 rfl hl (by decide) rfl (fun ls hl => ?_)
  refine lv_aload_n hx hb dJ0_init_4_9 rfl (lv_at hl 2 rfl) ?_
  refine pd_goi (wc := [(h1, .inr (3, [.ref v, .int (nI cd), .int (0), .int (nI K)]))]) (wr := [(h0, .inr (2, [.null, .int (0), .int (0), .int (0)])), (v, .inl (pd_cB G, nb, .inl (fun j => sb_b (f j))))]) h (va_runU (As := []) (rest := []) ⟨hx, hb, hml, hown, hts⟩ (met_sbl l G h1 v cd K H.size) (va_cwO 0 hts (lw_O q368 q440 q222 q446 q217 q15 q219) rfl rfl rfl q223 (by decide +kernel) ⟨Nat.le_of_ble_eq_true rfl, Nat.le_of_ble_eq_true rfl⟩) ⟨pd_blind, pd_recv h 2 rfl rfl, pd_pre h [2] (by decide) rfl⟩ rfl rfl hl.1 rfl (lv_room (Nat.le_of_ble_eq_true rfl)) dJ0_init_4_10 ⟨(by first | omega | (dsimp only; omega)), (by first | omega | (dsimp only; omega))⟩) [2] [0, 1] rfl rfl (by decide) (by decide) (fun r3 u H locs hp h => ?_)
  have h : pd_W G _ s H locs [(h0, .inr (2, [.null, .int (0), .int (0), .int (0)])), (v, .inl (pd_cB G, nb, .inl (fun j => sb_b (f j)))), (h1, .inr (3, [.ref v, .int (nI cd), .int (0), .int (nI K)]))] := h
  obtain rfl : r3 = (nI K) := hp
  refine lv_istore (lv' := [(4, .int (nI K)), (3, .ref v), (0, .ref h0), (1, .ref h1), (2, .null)]) hx hb dJ0_init_4_13 hl (by decide) rfl (fun ls hl => ?_)
  refine lv_aload_n hx hb dJ0_init_4_15 rfl (lv_at hl 3 rfl) ?_
  refine pd_goi (wc := [(h1, .inr (3, [.ref v, .int (nI cd), .int (0), .int (nI K)]))]) (wr := [(h0, .inr (2, [.null, .int (0), .int (0), .int (0)])), (v, .inl (pd_cB G, nb, .inl (fun j => sb_b (f j))))]) h (va_runU (As := []) (rest := []) ⟨hx, hb, hml, hown, hts⟩ (met_bl1 l G h1 v cd K H.size hcd) (va_cwU 0 hts (lw_U q369 q333 q334 q332 q14 q335) rfl rfl rfl rfl (by decide +kernel) ⟨Nat.le_of_ble_eq_true rfl, Nat.le_of_ble_eq_true rfl⟩) ⟨pd_blind, pd_recv h 2 rfl rfl, pd_pre h [2] (by decide) rfl⟩ rfl rfl hl.1 rfl (lv_room (Nat.le_of_ble_eq_true rfl)) dJ0_init_4_16 ⟨(by first | omega | (dsimp only; omega)), (by first | omega | (dsimp only; omega))⟩) [2] [0, 1] rfl rfl (by decide) (by decide) (fun r5 u H locs hp h => ?_)
  have h : pd_W G _ s H locs [(h0, .inr (2, [.null, .int (0), .int (0), .int (0)])), (v, .inl (pd_cB G, nb, .inl (fun j => sb_b (f j)))), (h1, .inr (3, [.ref v, .int (nI cd), .int (0), .int (nI K)]))] := h
  obtain rfl : r5 = (nI (if cd = 0 then 1 else 0)) := hp
  refine pd_if_eq (tgt := 41) hx hb (by split <;> omega) dJ0_init_4_19 (by decide) (fun c5 => ?_) (fun c5 => ?_)
  · obtain ⟨h1, h2, h3⟩ : cd = 1 ∧ nb = 2 * K ∧ ∀ j, j < K → t j < 65536 ∧ f (2 * j) = t j % 256 ∧ f (2 * j + 1) = t j / 256 := by rcases hst with ⟨z, -⟩ | z; rw [if_pos z] at c5; omega; exact z
    subst h1
    obtain rfl : nb = K * 2 := by omega
    refine pd_gsC hx hb hown h (hts _ q74) dJ0_init_4_41 ?_
    refine pd_if_eq (tgt := 79) hx hb (by omega) dJ0_init_4_44 (by decide) (fun c1 => absurd c1 (by omega)) (fun c1 => ?_)
    refine lv_aload_n hx hb dJ0_init_4_47 rfl (lv_at hl 3 rfl) ?_
    refine va_get (D := pd_D G) (ci := 3) (v := .int (nI 0)) (C := RJ10) (T := TJ10) (N := 4) hx hb hts in_J10 hown h.1 h.2.2.2.1 2 rfl rfl 2 (by decide) (hts _ q281) (fun _ h9 => h9) rfl dJ0_init_4_48 ?_
    refine pd_if_eq (tgt := 79) hx hb (by omega) dJ0_init_4_51 (by decide) (fun c1 => ?_) (fun c1 => absurd c1 (by omega))
    refine lv_aload_n hx hb dJ0_init_4_79 rfl (lv_at hl 2 rfl) ?_
    refine lv_iconst (v := (nI 1)) hx hb dJ0_init_4_80 (by decide) ?_
    refine pd_putF (ci := 2) (v := .int (nI 1)) (ty := .byte) (C := RJ0) (T := TJ0) (N := 4) hx hb hts hown h in_J0 tyJ0 tyJ0_ok nmJ0 0 rfl rfl 1 (by decide) (hts _ q119) (fun _ h9 => h9) rfl hnm rfl (by decide +kernel) (by decide) (by decide) (Nat.le_of_ble_eq_true rfl) dJ0_init_4_81 (fun H locs h => ?_)
    have h : pd_W G _ s H locs [(h0, .inr (2, [.null, .int (nI 1), .int (0), .int (0)])), (v, .inl (pd_cB G, K * 2, .inl (fun j => sb_b (f j)))), (h1, .inr (3, [.ref v, .int (nI 1), .int (0), .int (nI K)]))] := h
    refine lv_aload_n hx hb dJ0_init_4_84 rfl (lv_at hl 2 rfl) ?_
    refine lv_aload_n hx hb dJ0_init_4_85 rfl (lv_at hl 1 rfl) ?_
    refine lv_iconst (v := (nI 0)) hx hb dJ0_init_4_86 (by decide) ?_
    refine lv_iload hx hb dJ0_init_4_87 (lv_at hl 0 rfl) ?_
    refine lv_iconst (v := (nI 1)) hx hb dJ0_init_4_89 (by decide) ?_
    refine pd_shl (n := 1) hx hb (by decide) (by omega) dJ0_init_4_90 ?_
    refine pd_top (y := (nI (K * 2))) (congrArg nI (by omega)) ?_
    refine pd_gor (wc := [(v, .inl (pd_cB G, K * 2, .inl (fun j => sb_b (f j))))]) (wr := [(h0, .inr (2, [.null, .int (nI 1), .int (0), .int (0)])), (h1, .inr (3, [.ref v, .int (nI 1), .int (0), .int (nI K)]))]) h (va_runS (As := [.ref v, .int (nI 0), .int (nI (K * 2))]) (rest := [.ref h0]) ⟨hx, hb, hml, hown, hts⟩ (met_cor l G v (K * 2) f H.size (by omega)) (va_cwS 3 hts (lw_S q370 q371 q17 q372) rfl rfl rfl (by decide +kernel) ⟨Nat.le_of_ble_eq_true rfl, Nat.le_of_ble_eq_true rfl⟩) ⟨pd_blind, pd_pre h [1] (by decide) rfl⟩ rfl rfl hl.1 rfl (lv_room (Nat.le_of_ble_eq_true rfl)) dJ0_init_4_91 ⟨(by first | omega | (dsimp only; omega)), (by first | omega | (dsimp only; omega))⟩) [1] [0, 2] rfl rfl (by decide) (by decide) (fun u qv H locs hp h => ?_)
    have h : pd_W G _ s H locs [(h0, .inr (2, [.null, .int (nI 1), .int (0), .int (0)])), (h1, .inr (3, [.ref v, .int (nI 1), .int (0), .int (nI K)])), (v, .inl (pd_cB G, K * 2, .inl (fun j => sb_b (f j)))), (qv, .inl (pd_cB G, K * 2, .inl (fun j => sb_b (f j))))] := h
    refine pd_putF (ci := 2) (v := .ref qv) (ty := .array .byte) (C := RJ0) (T := TJ0) (N := 4) hx hb hts hown h in_J0 tyJ0 tyJ0_ok nmJ0 0 rfl rfl 0 (by decide) (hts _ q118) (fun _ h9 => h9) rfl hnm rfl (by decide +kernel) rfl rfl (Nat.le_of_ble_eq_true rfl) dJ0_init_4_94 (fun H locs h => ?_)
    have h : pd_W G _ s H locs [(h0, .inr (2, [.ref qv, .int (nI 1), .int (0), .int (0)])), (h1, .inr (3, [.ref v, .int (nI 1), .int (0), .int (nI K)])), (v, .inl (pd_cB G, K * 2, .inl (fun j => sb_b (f j)))), (qv, .inl (pd_cB G, K * 2, .inl (fun j => sb_b (f j))))] := h
    exact pd_vret hx hb hr hlk h qv [0, 3] (by decide) rfl trivial (by first | omega | (dsimp only; omega)) (by first | omega | (dsimp only; omega)) dJ0_init_4_97
  · obtain ⟨h1, h2, h3⟩ : cd = 0 ∧ nb = K ∧ ∀ j, j < K → t j < 256 ∧ f j = t j := by rcases hst with z | ⟨z, -⟩; exact z; rw [if_neg (by omega)] at c5; omega
    subst h1
    obtain rfl : nb = K := h2
    refine lv_aload_n hx hb dJ0_init_4_22 rfl (lv_at hl 2 rfl) ?_
    refine lv_iconst (v := (nI 0)) hx hb dJ0_init_4_23 (by decide) ?_
    refine pd_putF (ci := 2) (v := .int (nI 0)) (ty := .byte) (C := RJ0) (T := TJ0) (N := 4) hx hb hts hown h in_J0 tyJ0 tyJ0_ok nmJ0 0 rfl rfl 1 (by decide) (hts _ q119) (fun _ h9 => h9) rfl hnm rfl (by decide +kernel) (by decide) (by decide) (Nat.le_of_ble_eq_true rfl) dJ0_init_4_24 (fun H locs h => ?_)
    have h : pd_W G _ s H locs [(h0, .inr (2, [.null, .int (nI 0), .int (0), .int (0)])), (v, .inl (pd_cB G, nb, .inl (fun j => sb_b (f j)))), (h1, .inr (3, [.ref v, .int (nI 0), .int (0), .int (nI nb)]))] := h
    refine lv_aload_n hx hb dJ0_init_4_27 rfl (lv_at hl 2 rfl) ?_
    refine lv_aload_n hx hb dJ0_init_4_28 rfl (lv_at hl 1 rfl) ?_
    refine lv_iconst (v := (nI 0)) hx hb dJ0_init_4_29 (by decide) ?_
    refine lv_iload hx hb dJ0_init_4_30 (lv_at hl 0 rfl) ?_
    refine pd_gor (wc := [(v, .inl (pd_cB G, nb, .inl (fun j => sb_b (f j))))]) (wr := [(h0, .inr (2, [.null, .int (nI 0), .int (0), .int (0)])), (h1, .inr (3, [.ref v, .int (nI 0), .int (0), .int (nI nb)]))]) h (va_runS (As := [.ref v, .int (nI 0), .int (nI nb)]) (rest := [.ref h0]) ⟨hx, hb, hml, hown, hts⟩ (met_cor l G v nb f H.size (by omega)) (va_cwS 3 hts (lw_S q370 q371 q17 q372) rfl rfl rfl (by decide +kernel) ⟨Nat.le_of_ble_eq_true rfl, Nat.le_of_ble_eq_true rfl⟩) ⟨pd_blind, pd_pre h [1] (by decide) rfl⟩ rfl rfl hl.1 rfl (lv_room (Nat.le_of_ble_eq_true rfl)) dJ0_init_4_32 ⟨(by first | omega | (dsimp only; omega)), (by first | omega | (dsimp only; omega))⟩) [1] [0, 2] rfl rfl (by decide) (by decide) (fun u qv H locs hp h => ?_)
    have h : pd_W G _ s H locs [(h0, .inr (2, [.null, .int (nI 0), .int (0), .int (0)])), (h1, .inr (3, [.ref v, .int (nI 0), .int (0), .int (nI nb)])), (v, .inl (pd_cB G, nb, .inl (fun j => sb_b (f j)))), (qv, .inl (pd_cB G, nb, .inl (fun j => sb_b (f j))))] := h
    refine pd_putF (ci := 2) (v := .ref qv) (ty := .array .byte) (C := RJ0) (T := TJ0) (N := 4) hx hb hts hown h in_J0 tyJ0 tyJ0_ok nmJ0 0 rfl rfl 0 (by decide) (hts _ q118) (fun _ h9 => h9) rfl hnm rfl (by decide +kernel) rfl rfl (Nat.le_of_ble_eq_true rfl) dJ0_init_4_35 (fun H locs h => ?_)
    have h : pd_W G _ s H locs [(h0, .inr (2, [.ref qv, .int (nI 0), .int (0), .int (0)])), (h1, .inr (3, [.ref v, .int (nI 0), .int (0), .int (nI nb)])), (v, .inl (pd_cB G, nb, .inl (fun j => sb_b (f j)))), (qv, .inl (pd_cB G, nb, .inl (fun j => sb_b (f j))))] := h
    refine lv_goto (tgt := 97) hx hb dJ0_init_4_38 (by decide) ?_
    exact pd_vret hx hb hr hlk h qv [0, 3] (by decide) rfl trivial (by first | omega | (dsimp only; omega)) (by first | omega | (dsimp only; omega)) dJ0_init_4_97
set_option maxHeartbeats 4000000 in
set_option maxRecDepth 100000 in
theorem met_si3 (l : Launch) (G : pd_G) (h0 h1 v cd nb K : Nat) (f t : Nat → Nat) (sz : Nat) (hK : K < 65536) (hst : pd_st cd nb f K t) : Met l yJ0_init_3 (ws_ yJ0_init_3 cJ0_init_3 2 none) ({ frames := 3, cells := 1, slots := nb, locals := 66 } : Room) (va_Pc [.ref h0, .ref h1] (pd_B G sz [(h0, .inr (2, [.null, .int (0), .int (0), .int (0)])), (h1, .inr (3, [.ref v, .int (nI cd), .int (0), .int (nI K)])), (v, .inl (pd_cB G, nb, .inl (fun j => sb_b (f j))))])) (va_Qv (fun (u : Nat) => True) (fun (u : Nat) t9 => pd_F G (va_A [(h0, .inr (2, [.null, .int (0), .int (0), .int (0)])), (h1, .inr (3, [.ref v, .int (nI cd), .int (0), .int (nI K)])), (v, .inl (pd_cB G, nb, .inl (fun j => sb_b (f j))))] sz) ([(h0, .inr (2, [.ref u, .int (nI cd), .int (0), .int (0)])), (u, .inl (pd_cB G, nb, .inl (fun j => sb_b (f j))))]) t9) (va_A [(h0, .inr (2, [.null, .int (0), .int (0), .int (0)])), (h1, .inr (3, [.ref v, .int (nI cd), .int (0), .int (nI K)])), (v, .inl (pd_cB G, nb, .inl (fun j => sb_b (f j))))] sz)) 1 nb (va_A [(h0, .inr (2, [.null, .int (0), .int (0), .int (0)])), (h1, .inr (3, [.ref v, .int (nI cd), .int (0), .int (nI K)])), (v, .inl (pd_cB G, nb, .inl (fun j => sb_b (f j))))] sz) := by
  refine pd_start (by decide) (Nat.le_of_ble_eq_true rfl) ?_
  intro p e s m below meth co ls H locs ⟨hx, hb, hml, hown, hts⟩ hr hlk hnm hsz h hl
  have hown : s.vm.findClass RJ0 = some m.cls := hown
  have hl : lv_has ls 2 [(0, .ref h0), (1, .ref h1)] := hl
  refine lv_aload_n hx hb dJ0_init_3_0 rfl (lv_at hl 0 rfl) ?_
  refine lv_aload_n hx hb dJ0_init_3_1 rfl (lv_at hl 1 rfl) ?_
  refine lv_null hx hb dJ0_init_3_2 ?_
  refine pd_gov (wc := [(h0, .inr (2, [.null, .int (0), .int (0), .int (0)])), (h1, .inr (3, [.ref v, .int (nI cd), .int (0), .int (nI K)])), (v, .inl (pd_cB G, nb, .inl (fun j => sb_b (f j))))]) (wr := []) h (va_runI (As := [.ref h1, .null]) (rest := []) ⟨hx, hb, hml, hown, hts⟩ (met_si4 l G h0 h1 v cd nb K f t H.size hK hst) (cwI 2 hts (lw_meth q362) rfl rfl rfl (hts _ q4) (hts _ q360) (hts _ q361) rfl (by decide +kernel) ⟨Nat.le_of_ble_eq_true rfl, Nat.le_of_ble_eq_true rfl⟩) ⟨pd_blind, pd_pre h [0, 1, 2] (by decide) rfl⟩ rfl rfl hl.1 rfl (lv_room (Nat.le_of_ble_eq_true rfl)) dJ0_init_3_3 ⟨(by first | omega | (dsimp only; omega)), (by first | omega | (dsimp only; omega))⟩) [0, 1, 2] [] rfl rfl (by decide) (by decide) (fun qv H locs hp h => ?_)
  have h : pd_W G _ s H locs [(h0, .inr (2, [.ref qv, .int (nI cd), .int (0), .int (0)])), (qv, .inl (pd_cB G, nb, .inl (fun j => sb_b (f j))))] := h
  exact pd_vret hx hb hr hlk h qv [0, 1] (by decide) rfl trivial (by first | omega | (dsimp only; omega)) (by first | omega | (dsimp only; omega)) dJ0_init_3_6
set_option maxHeartbeats 4000000 in
set_option maxRecDepth 100000 in
theorem met_sts (l : Launch) (G : pd_G) (h1 v cd nb K : Nat) (f t : Nat → Nat) (sz : Nat) (hK : K < 65536) (hst : pd_st cd nb f K t) : Met l yJ10_toString (ws_ yJ10_toString cJ10_toString 1 (some (.object "java/lang/String"))) ({ frames := 4, cells := 2, slots := nb + 4, locals := 87 } : Room) (va_Pc [.ref h1] (pd_B G sz [(h1, .inr (3, [.ref v, .int (nI cd), .int (0), .int (nI K)])), (v, .inl (pd_cB G, nb, .inl (fun j => sb_b (f j))))])) (va_Qr (fun (u : Nat) => True) (fun (u : Nat) (q : Nat) t9 => pd_F G (va_A [(h1, .inr (3, [.ref v, .int (nI cd), .int (0), .int (nI K)])), (v, .inl (pd_cB G, nb, .inl (fun j => sb_b (f j))))] sz) ([(q, .inr (2, [.ref u, .int (nI cd), .int (0), .int (0)])), (u, .inl (pd_cB G, nb, .inl (fun j => sb_b (f j))))]) t9) (va_A [(h1, .inr (3, [.ref v, .int (nI cd), .int (0), .int (nI K)])), (v, .inl (pd_cB G, nb, .inl (fun j => sb_b (f j))))] sz)) 2 (nb + 4) (va_A [(h1, .inr (3, [.ref v, .int (nI cd), .int (0), .int (nI K)])), (v, .inl (pd_cB G, nb, .inl (fun j => sb_b (f j))))] sz) := by
  refine pd_start (by decide) (Nat.le_of_ble_eq_true rfl) ?_
  intro p e s m below meth co ls H locs ⟨hx, hb, hml, hown, hts⟩ hr hlk hnm hsz h hl
  have hown : s.vm.findClass RJ10 = some m.cls := hown
  have hl : lv_has ls 1 [(0, .ref h1)] := hl
  refine pd_new (ci := 2) (fs := [.null, .int (0), .int (0), .int (0)]) (C := RJ0) (T := TJ0) (N := 4) hx hb hts hown h in_J0 tyJ0 tyJ0_ok (hts _ q356) (hts _ q54) (hts _ q4) rfl (fun j hj => by rcases (show j = 0 ∨ j = 1 ∨ j = 2 ∨ j = 3 by omega) with rfl | rfl | rfl | rfl <;> rfl) (by first | omega | (dsimp only; omega)) (by first | omega | (dsimp only; omega)) dJ10_toString_0 (fun qs H h => ?_)
  have h : pd_W G _ s H locs [(h1, .inr (3, [.ref v, .int (nI cd), .int (0), .int (nI K)])), (v, .inl (pd_cB G, nb, .inl (fun j => sb_b (f j)))), (qs, .inr (2, [.null, .int (0), .int (0), .int (0)]))] := h
  refine lv_dup hx hb dJ10_toString_3 rfl ?_
  refine lv_aload_n hx hb dJ10_toString_4 rfl (lv_at hl 0 rfl) ?_
  refine pd_gov (wc := [(qs, .inr (2, [.null, .int (0), .int (0), .int (0)])), (h1, .inr (3, [.ref v, .int (nI cd), .int (0), .int (nI K)])), (v, .inl (pd_cB G, nb, .inl (fun j => sb_b (f j))))]) (wr := []) h (va_runI (As := [.ref h1]) (rest := [.ref qs]) ⟨hx, hb, hml, hown, hts⟩ (met_si3 l G qs h1 v cd nb K f t H.size hK hst) (cwI 1 hts (lw_meth q359) rfl rfl rfl (hts _ q4) (hts _ q357) (hts _ q358) rfl (by decide +kernel) ⟨Nat.le_of_ble_eq_true rfl, Nat.le_of_ble_eq_true rfl⟩) ⟨pd_blind, pd_pre h [2, 0, 1] (by decide) rfl⟩ rfl rfl hl.1 rfl (lv_room (Nat.le_of_ble_eq_true rfl)) dJ10_toString_5 ⟨(by first | omega | (dsimp only; omega)), (by first | omega | (dsimp only; omega))⟩) [2, 0, 1] [] rfl rfl (by decide) (by decide) (fun qv H locs hp h => ?_)
  have h : pd_W G _ s H locs [(qs, .inr (2, [.ref qv, .int (nI cd), .int (0), .int (0)])), (qv, .inl (pd_cB G, nb, .inl (fun j => sb_b (f j))))] := h
  exact pd_aret hx hb hr (Or.inl ⟨_, rfl⟩) hlk h qv [0, 1] (by decide) rfl trivial (by first | omega | (dsimp only; omega)) (by first | omega | (dsimp only; omega)) dJ10_toString_8
set_option maxHeartbeats 4000000 in
set_option maxRecDepth 100000 in
theorem met_src (l : Launch) (G : pd_G) (h1 N k : Nat) (w : Nat → Nat) (sz : Nat) (hN : N < 2147483648) (hk : k ≤ N) : Met l yJ0_rangeCheck (ws_ yJ0_rangeCheck cJ0_rangeCheck 3 (some (.object "java/lang/Void"))) ({ frames := 2, cells := 0, slots := 0, locals := 45 } : Room) (va_Pc [.ref h1, .int (nI 0), .int (nI k)] (pd_B G sz [(h1, .inl (pd_cC G, N, .inl (fun j => nI (w j))))])) (va_Qq (fun (r : Option Nat) (u : Unit) => r = none) (fun (u : Unit) t9 => pd_F G (va_A [(h1, .inl (pd_cC G, N, .inl (fun j => nI (w j))))] sz) ([(h1, .inl (pd_cC G, N, .inl (fun j => nI (w j))))]) t9) (va_A [(h1, .inl (pd_cC G, N, .inl (fun j => nI (w j))))] sz)) 0 0 (va_A [(h1, .inl (pd_cC G, N, .inl (fun j => nI (w j))))] sz) := by
  refine pd_start (by decide) (Nat.le_of_ble_eq_true rfl) ?_
  intro p e s m below meth co ls H locs ⟨hx, hb, hml, hown, hts⟩ hr hlk hnm hsz h hl
  have hown : s.vm.findClass RJ0 = some m.cls := hown
  have hl : lv_has ls 3 [(0, .ref h1), (1, .int (nI 0)), (2, .int (nI k))] := hl
  refine lv_iload_n hx hb dJ0_rangeCheck_0 rfl (lv_at hl 1 rfl) ?_
  refine lv_iload_n hx hb dJ0_rangeCheck_1 rfl (lv_at hl 2 rfl) ?_
  refine lv_aload_n hx hb dJ0_rangeCheck_2 rfl (lv_at hl 0 rfl) ?_
  refine pd_alenC hx hb h 0 rfl dJ0_rangeCheck_3 ?_
  refine pd_goi (wc := []) (wr := [(h1, .inl (pd_cC G, N, .inl (fun j => nI (w j))))]) h (va_runS (As := [.int (nI 0), .int (nI k), .int (nI N)]) (rest := []) ⟨hx, hb, hml, hown, hts⟩ (met_sbo l G 0 k N H.size (by omega) hN) (va_cwS 3 hts (lw_S q61 q62 q4 q63) rfl rfl rfl (by decide +kernel) ⟨Nat.le_of_ble_eq_true rfl, Nat.le_of_ble_eq_true rfl⟩) ⟨pd_blind, pd_pre h [] (by decide) rfl⟩ rfl rfl hl.1 rfl (lv_room (Nat.le_of_ble_eq_true rfl)) dJ0_rangeCheck_4 ⟨(by first | omega | (dsimp only; omega)), (by first | omega | (dsimp only; omega))⟩) [] [0] rfl rfl (by decide) (by decide) (fun r1 u H locs hp h => ?_)
  have h : pd_W G _ s H locs [(h1, .inl (pd_cC G, N, .inl (fun j => nI (w j))))] := h
  obtain rfl : r1 = (nI 0) := hp
  refine lv_pop hx hb dJ0_rangeCheck_7 rfl ?_
  refine lv_null hx hb dJ0_rangeCheck_8 ?_
  exact pd_qret hx hb hr (Or.inl ⟨_, rfl⟩) rfl hlk h () [0] (by decide) rfl rfl (by first | omega | (dsimp only; omega)) (by first | omega | (dsimp only; omega)) dJ0_rangeCheck_9
set_option maxHeartbeats 4000000 in
set_option maxRecDepth 100000 in
theorem met_si2 (l : Launch) (G : pd_G) (h0 h1 N k : Nat) (w : Nat → Nat) (sz : Nat) (hN : N < 2147483648) (hk : k ≤ N) (hk2 : k < 65536) (hk0 : 0 < k) (hw : ∀ j, w j < 65536) : Met l yJ0_init_2 (ws_ yJ0_init_2 cJ0_init_2 6 none) ({ frames := 4, cells := 2, slots := k * 3, locals := 89 } : Room) (va_Pc [.ref h0, .ref h1, .int (nI 0), .int (nI k), .null] (pd_B G sz [(h0, .inr (2, [.null, .int (0), .int (0), .int (0)])), (h1, .inl (pd_cC G, N, .inl (fun j => nI (w j))))])) (va_Qv (fun (u : Nat × Nat × Nat × (Nat → Nat)) => pd_st u.2.1 u.2.2.1 u.2.2.2 k w) (fun (u : Nat × Nat × Nat × (Nat → Nat)) t9 => pd_F G (va_A [(h0, .inr (2, [.null, .int (0), .int (0), .int (0)])), (h1, .inl (pd_cC G, N, .inl (fun j => nI (w j))))] sz) ([(h0, .inr (2, [.ref u.1, .int (nI (u.2.1)), .int (0), .int (0)])), (h1, .inl (pd_cC G, N, .inl (fun j => nI (w j)))), (u.1, .inl (pd_cB G, u.2.2.1, .inl (fun j => sb_b (u.2.2.2 j))))]) t9) (va_A [(h0, .inr (2, [.null, .int (0), .int (0), .int (0)])), (h1, .inl (pd_cC G, N, .inl (fun j => nI (w j))))] sz)) 2 (k * 3) (va_A [(h0, .inr (2, [.null, .int (0), .int (0), .int (0)])), (h1, .inl (pd_cC G, N, .inl (fun j => nI (w j))))] sz) := by
  refine pd_start (by decide) (Nat.le_of_ble_eq_true rfl) ?_
  intro p e s m below meth co ls H locs ⟨hx, hb, hml, hown, hts⟩ hr hlk hnm hsz h hl
  have hown : s.vm.findClass RJ0 = some m.cls := hown
  have hl : lv_has ls 6 [(0, .ref h0), (1, .ref h1), (2, .int (nI 0)), (3, .int (nI k)), (4, .null)] := hl
  refine lv_aload_n hx hb dJ0_init_2_0 rfl (lv_at hl 0 rfl) ?_
  refine W.objInit hx hb hown (hts _ q72) (hts _ q25) (hts _ q26) rfl (by rw [hml]; exact hl.1) rfl dJ0_init_2_1 (Nat.le_of_ble_eq_true rfl) (Nat.le_of_ble_eq_true rfl) ?_
  refine W.eq (g2 := F0 m 4 ls []) rfl ?_
  refine lv_iload_n hx hb dJ0_init_2_4 rfl (lv_at hl 3 rfl) ?_
  refine pd_if_ne (tgt := 27) hx hb (by omega) dJ0_init_2_5 (by decide) (fun c1 => ?_) (fun c1 => absurd c1 (by omega))
  refine pd_gsC hx hb hown h (hts _ q74) dJ0_init_2_27 ?_
  refine pd_if_eq (tgt := 58) hx hb (by omega) dJ0_init_2_30 (by decide) (fun c1 => absurd c1 (by omega)) (fun c1 => ?_)
  refine lv_aload_n hx hb dJ0_init_2_33 rfl (lv_at hl 1 rfl) ?_
  refine lv_iload_n hx hb dJ0_init_2_34 rfl (lv_at hl 2 rfl) ?_
  refine lv_iload_n hx hb dJ0_init_2_35 rfl (lv_at hl 3 rfl) ?_
  refine pd_gor (wc := [(h1, .inl (pd_cC G, N, .inl (fun j => nI (w j))))]) (wr := [(h0, .inr (2, [.null, .int (0), .int (0), .int (0)]))]) h (va_runS (As := [.ref h1, .int (nI 0), .int (nI k)]) (rest := []) ⟨hx, hb, hml, hown, hts⟩ (met_cmp l G h1 N k w H.size hN hk hk2 hw) (va_cwS 3 hts (lw_S q76 q77 q6 q78) rfl rfl rfl (by decide +kernel) ⟨Nat.le_of_ble_eq_true rfl, Nat.le_of_ble_eq_true rfl⟩) ⟨pd_blind, pd_pre h [1] (by decide) rfl⟩ rfl rfl hl.1 rfl (lv_room (Nat.le_of_ble_eq_true rfl)) dJ0_init_2_36 ⟨(by first | omega | (dsimp only; omega)), (by first | omega | (dsimp only; omega))⟩) [1] [0] rfl rfl (by decide) (by decide) (fun u0 qb H locs hc h => ?_)
  have h : pd_W G _ s H locs [(h0, .inr (2, [.null, .int (0), .int (0), .int (0)])), (h1, .inl (pd_cC G, N, .inl (fun j => nI (w j)))), (qb, .inl (pd_cB G, u0.1, .inl (fun j => sb_b (u0.2 j))))] := h
  obtain ⟨cd, hst⟩ := hc
  refine lv_astore (lv' := [(5, .ref qb), (0, .ref h0), (1, .ref h1), (2, .int (nI 0)), (3, .int (nI k)), (4, .null)]) hx hb dJ0_init_2_39 hl (by decide) rfl (fun ls hl => ?_)
  refine lv_aload_n hx hb dJ0_init_2_41 rfl (lv_at hl 1 rfl) ?_
  refine lv_aload hx hb dJ0_init_2_42 (lv_at hl 0 rfl) ?_
  refine lv_iload_n hx hb dJ0_init_2_44 rfl (lv_at hl 4 rfl) ?_
  have hcd : nI (if u0.1 = k then 0 else 1) = nI cd := congrArg nI (by rcases hst with ⟨e1, e2, -⟩ | ⟨e1, e2, -⟩; rw [if_pos e2, e1]; rw [if_neg (by omega), e1])
  have hcd2 : cd < 2 := by rcases hst with ⟨h1, -⟩ | ⟨h1, -⟩ <;> omega
  refine pd_goi (wc := [(qb, .inl (pd_cB G, u0.1, .inl (fun j => sb_b (u0.2 j))))]) (wr := [(h0, .inr (2, [.null, .int (0), .int (0), .int (0)])), (h1, .inl (pd_cC G, N, .inl (fun j => nI (w j))))]) h (va_runS (As := [.ref qb, .int (nI k)]) (rest := [.ref h0]) ⟨hx, hb, hml, hown, hts⟩ (met_ucl l G qb u0.1 k u0.2 H.size hk2 (by rcases hst with ⟨e1, e2, -⟩ | ⟨e1, e2, -⟩; exact Or.inl e2; exact Or.inr ⟨by omega, hk0⟩)) (va_cwS 2 hts (lw_S q114 q115 q6 q116) rfl rfl rfl (by decide +kernel) ⟨Nat.le_of_ble_eq_true rfl, Nat.le_of_ble_eq_true rfl⟩) ⟨pd_blind, pd_pre h [2] (by decide) rfl⟩ rfl rfl hl.1 rfl (lv_room (Nat.le_of_ble_eq_true rfl)) dJ0_init_2_45 ⟨(by first | omega | (dsimp only; omega)), (by first | omega | (dsimp only; omega))⟩) [2] [0, 1] rfl rfl (by decide) (by decide) (fun r1 u H locs hp h => ?_)
  have h : pd_W G _ s H locs [(h0, .inr (2, [.null, .int (0), .int (0), .int (0)])), (h1, .inl (pd_cC G, N, .inl (fun j => nI (w j)))), (qb, .inl (pd_cB G, u0.1, .inl (fun j => sb_b (u0.2 j))))] := h
  obtain rfl : r1 = (nI cd) := (hp.trans hcd)
  refine pd_putF (ci := 2) (v := .int (nI cd)) (ty := .byte) (C := RJ0) (T := TJ0) (N := 4) hx hb hts hown h in_J0 tyJ0 tyJ0_ok nmJ0 0 rfl rfl 1 (by decide) (hts _ q119) (fun _ h9 => h9) rfl hnm rfl (by decide +kernel) (pd_cdn hcd2) (pd_cdf hcd2) (Nat.le_of_ble_eq_true rfl) dJ0_init_2_48 (fun H locs h => ?_)
  have h : pd_W G _ s H locs [(h0, .inr (2, [.null, .int (nI cd), .int (0), .int (0)])), (h1, .inl (pd_cC G, N, .inl (fun j => nI (w j)))), (qb, .inl (pd_cB G, u0.1, .inl (fun j => sb_b (u0.2 j))))] := h
  refine lv_aload_n hx hb dJ0_init_2_51 rfl (lv_at hl 1 rfl) ?_
  refine lv_aload hx hb dJ0_init_2_52 (lv_at hl 0 rfl) ?_
  refine pd_putF (ci := 2) (v := .ref qb) (ty := .array .byte) (C := RJ0) (T := TJ0) (N := 4) hx hb hts hown h in_J0 tyJ0 tyJ0_ok nmJ0 0 rfl rfl 0 (by decide) (hts _ q118) (fun _ h9 => h9) rfl hnm rfl (by decide +kernel) rfl rfl (Nat.le_of_ble_eq_true rfl) dJ0_init_2_54 (fun H locs h => ?_)
  have h : pd_W G _ s H locs [(h0, .inr (2, [.ref qb, .int (nI cd), .int (0), .int (0)])), (h1, .inl (pd_cC G, N, .inl (fun j => nI (w j)))), (qb, .inl (pd_cB G, u0.1, .inl (fun j => sb_b (u0.2 j))))] := h
  exact pd_vret hx hb hr hlk h (qb, cd, u0.1, u0.2) [0, 1, 2] (by decide) rfl hst (by first | omega | (dsimp only; omega)) (by first | omega | (dsimp only; omega)) dJ0_init_2_57
set_option maxHeartbeats 4000000 in
set_option maxRecDepth 100000 in
theorem met_si1 (l : Launch) (G : pd_G) (h0 h1 N k : Nat) (w : Nat → Nat) (sz : Nat) (hN : N < 2147483648) (hk : k ≤ N) (hk2 : k < 65536) (hk0 : 0 < k) (hw : ∀ j, w j < 65536) : Met l yJ0_init (ws_ yJ0_init cJ0_init 4 none) ({ frames := 5, cells := 2, slots := k * 3, locals := 114 } : Room) (va_Pc [.ref h0, .ref h1, .int (nI 0), .int (nI k)] (pd_B G sz [(h0, .inr (2, [.null, .int (0), .int (0), .int (0)])), (h1, .inl (pd_cC G, N, .inl (fun j => nI (w j))))])) (va_Qv (fun (u : Nat × Nat × Nat × (Nat → Nat)) => pd_st u.2.1 u.2.2.1 u.2.2.2 k w) (fun (u : Nat × Nat × Nat × (Nat → Nat)) t9 => pd_F G (va_A [(h0, .inr (2, [.null, .int (0), .int (0), .int (0)])), (h1, .inl (pd_cC G, N, .inl (fun j => nI (w j))))] sz) ([(h0, .inr (2, [.ref u.1, .int (nI (u.2.1)), .int (0), .int (0)])), (h1, .inl (pd_cC G, N, .inl (fun j => nI (w j)))), (u.1, .inl (pd_cB G, u.2.2.1, .inl (fun j => sb_b (u.2.2.2 j))))]) t9) (va_A [(h0, .inr (2, [.null, .int (0), .int (0), .int (0)])), (h1, .inl (pd_cC G, N, .inl (fun j => nI (w j))))] sz)) 2 (k * 3) (va_A [(h0, .inr (2, [.null, .int (0), .int (0), .int (0)])), (h1, .inl (pd_cC G, N, .inl (fun j => nI (w j))))] sz) := by
  refine pd_start (by decide) (Nat.le_of_ble_eq_true rfl) ?_
  intro p e s m below meth co ls H locs ⟨hx, hb, hml, hown, hts⟩ hr hlk hnm hsz h hl
  have hown : s.vm.findClass RJ0 = some m.cls := hown
  have hl : lv_has ls 4 [(0, .ref h0), (1, .ref h1), (2, .int (nI 0)), (3, .int (nI k))] := hl
  refine lv_aload_n hx hb dJ0_init_0 rfl (lv_at hl 0 rfl) ?_
  refine lv_aload_n hx hb dJ0_init_1 rfl (lv_at hl 1 rfl) ?_
  refine lv_iload_n hx hb dJ0_init_2 rfl (lv_at hl 2 rfl) ?_
  refine lv_iload_n hx hb dJ0_init_3 rfl (lv_at hl 3 rfl) ?_
  refine lv_aload_n hx hb dJ0_init_4 rfl (lv_at hl 1 rfl) ?_
  refine lv_iload_n hx hb dJ0_init_5 rfl (lv_at hl 2 rfl) ?_
  refine lv_iload_n hx hb dJ0_init_6 rfl (lv_at hl 3 rfl) ?_
  refine pd_goq (wc := [(h1, .inl (pd_cC G, N, .inl (fun j => nI (w j))))]) (wr := [(h0, .inr (2, [.null, .int (0), .int (0), .int (0)]))]) h (va_runS (As := [.ref h1, .int (nI 0), .int (nI k)]) (rest := [.int (nI k), .int (nI 0), .ref h1, .ref h0]) ⟨hx, hb, hml, hown, hts⟩ (met_src l G h1 N k w H.size hN hk) (va_cwS 3 hts (lw_S q58 q59 q4 q60) rfl rfl rfl (by decide +kernel) ⟨Nat.le_of_ble_eq_true rfl, Nat.le_of_ble_eq_true rfl⟩) ⟨pd_blind, pd_pre h [1] (by decide) rfl⟩ rfl rfl hl.1 rfl (lv_room (Nat.le_of_ble_eq_true rfl)) dJ0_init_7 ⟨(by first | omega | (dsimp only; omega)), (by first | omega | (dsimp only; omega))⟩) [1] [0] rfl rfl (by decide) (by decide) (fun r1 u H locs hp h => ?_)
  have h : pd_W G _ s H locs [(h0, .inr (2, [.null, .int (0), .int (0), .int (0)])), (h1, .inl (pd_cC G, N, .inl (fun j => nI (w j))))] := h
  obtain rfl : r1 = none := hp
  refine W.eq (g2 := F0 m 10 ls [.null, .int (nI k), .int (nI 0), .ref h1, .ref h0]) rfl ?_
  refine pd_gov (wc := [(h0, .inr (2, [.null, .int (0), .int (0), .int (0)])), (h1, .inl (pd_cC G, N, .inl (fun j => nI (w j))))]) (wr := []) h (va_runI (As := [.ref h1, .int (nI 0), .int (nI k), .null]) (rest := []) ⟨hx, hb, hml, hown, hts⟩ (met_si2 l G h0 h1 N k w H.size hN hk hk2 hk0 hw) (cwI 4 hts (lw_meth q71) rfl rfl rfl (hts _ q4) (hts _ q69) (hts _ q70) rfl (by decide +kernel) ⟨Nat.le_of_ble_eq_true rfl, Nat.le_of_ble_eq_true rfl⟩) ⟨pd_blind, pd_pre h [0, 1] (by decide) rfl⟩ rfl rfl hl.1 rfl (lv_room (Nat.le_of_ble_eq_true rfl)) dJ0_init_10 ⟨(by first | omega | (dsimp only; omega)), (by first | omega | (dsimp only; omega))⟩) [0, 1] [] rfl rfl (by decide) (by decide) (fun u0 H locs hst h => ?_)
  have h : pd_W G _ s H locs [(h0, .inr (2, [.ref u0.1, .int (nI (u0.2.1)), .int (0), .int (0)])), (h1, .inl (pd_cC G, N, .inl (fun j => nI (w j)))), (u0.1, .inl (pd_cB G, u0.2.2.1, .inl (fun j => sb_b (u0.2.2.2 j))))] := h
  exact pd_vret hx hb hr hlk h u0 [0, 1, 2] (by decide) rfl hst (by first | omega | (dsimp only; omega)) (by first | omega | (dsimp only; omega)) dJ0_init_13
set_option maxHeartbeats 4000000 in
set_option maxRecDepth 100000 in
theorem met_si20 (l : Launch) (G : pd_G) (h0 h1 N : Nat) (w : Nat → Nat) (sz : Nat) : Met l yJ0_init_2 (ws_ yJ0_init_2 cJ0_init_2 6 none) ({ frames := 4, cells := 0, slots := 0, locals := 89 } : Room) (va_Pc [.ref h0, .ref h1, .int (nI 0), .int (nI 0), .null] (pd_B G sz [(h0, .inr (2, [.null, .int (0), .int (0), .int (0)])), (h1, .inl (pd_cC G, N, .inl (fun j => nI (w j))))])) (va_Qv (fun (u : Unit) => True) (fun (u : Unit) t9 => pd_F G (va_A [(h0, .inr (2, [.null, .int (0), .int (0), .int (0)])), (h1, .inl (pd_cC G, N, .inl (fun j => nI (w j))))] sz) ([(h0, .inr (2, [.ref ((pd_vE G)), .int (nI 0), .int (0), .int (0)])), (h1, .inl (pd_cC G, N, .inl (fun j => nI (w j))))]) t9) (va_A [(h0, .inr (2, [.null, .int (0), .int (0), .int (0)])), (h1, .inl (pd_cC G, N, .inl (fun j => nI (w j))))] sz)) 0 0 (va_A [(h0, .inr (2, [.null, .int (0), .int (0), .int (0)])), (h1, .inl (pd_cC G, N, .inl (fun j => nI (w j))))] sz) := by
  refine pd_start (by decide) (Nat.le_of_ble_eq_true rfl) ?_
  intro p e s m below meth co ls H locs ⟨hx, hb, hml, hown, hts⟩ hr hlk hnm hsz h hl
  have hown : s.vm.findClass RJ0 = some m.cls := hown
  have hl : lv_has ls 6 [(0, .ref h0), (1, .ref h1), (2, .int (nI 0)), (3, .int (nI 0)), (4, .null)] := hl
  refine lv_aload_n hx hb dJ0_init_2_0 rfl (lv_at hl 0 rfl) ?_
  refine W.objInit hx hb hown (hts _ q72) (hts _ q25) (hts _ q26) rfl (by rw [hml]; exact hl.1) rfl dJ0_init_2_1 (Nat.le_of_ble_eq_true rfl) (Nat.le_of_ble_eq_true rfl) ?_
  refine W.eq (g2 := F0 m 4 ls []) rfl ?_
  refine lv_iload_n hx hb dJ0_init_2_4 rfl (lv_at hl 3 rfl) ?_
  refine pd_if_ne (tgt := 27) hx hb (by omega) dJ0_init_2_5 (by decide) (fun c1 => absurd c1 (by omega)) (fun c1 => ?_)
  refine lv_aload_n hx hb dJ0_init_2_8 rfl (lv_at hl 0 rfl) ?_
  refine pd_ldcS hx hb hown h dJ0_init_2_9 ?_
  refine vk_getf (v := .ref ((pd_vE G))) hx hb (pd_emp h).2.2.1 h.2.2.2.2.2 hown (hts _ q118) (fun _ h9 => h9) dJ0_init_2_11 ?_
  refine pd_putF (ci := 2) (v := .ref ((pd_vE G))) (ty := .array .byte) (C := RJ0) (T := TJ0) (N := 4) hx hb hts hown h in_J0 tyJ0 tyJ0_ok nmJ0 0 rfl rfl 0 (by decide) (hts _ q118) (fun _ h9 => h9) rfl hnm rfl (by decide +kernel) rfl rfl (Nat.le_of_ble_eq_true rfl) dJ0_init_2_14 (fun H locs h => ?_)
  have h : pd_W G _ s H locs [(h0, .inr (2, [.ref ((pd_vE G)), .int (0), .int (0), .int (0)])), (h1, .inl (pd_cC G, N, .inl (fun j => nI (w j))))] := h
  refine lv_aload_n hx hb dJ0_init_2_17 rfl (lv_at hl 0 rfl) ?_
  refine pd_ldcS hx hb hown h dJ0_init_2_18 ?_
  refine vk_getf (v := .int (nI 0)) hx hb (pd_emp h).2.1 h.2.2.2.2.2 hown (hts _ q119) (fun _ h9 => h9) dJ0_init_2_20 ?_
  refine pd_putF (ci := 2) (v := .int (nI 0)) (ty := .byte) (C := RJ0) (T := TJ0) (N := 4) hx hb hts hown h in_J0 tyJ0 tyJ0_ok nmJ0 0 rfl rfl 1 (by decide) (hts _ q119) (fun _ h9 => h9) rfl hnm rfl (by decide +kernel) (by decide) (by decide) (Nat.le_of_ble_eq_true rfl) dJ0_init_2_23 (fun H locs h => ?_)
  have h : pd_W G _ s H locs [(h0, .inr (2, [.ref ((pd_vE G)), .int (nI 0), .int (0), .int (0)])), (h1, .inl (pd_cC G, N, .inl (fun j => nI (w j))))] := h
  exact pd_vret hx hb hr hlk h () [0, 1] (by decide) rfl trivial (by first | omega | (dsimp only; omega)) (by first | omega | (dsimp only; omega)) dJ0_init_2_26
set_option maxHeartbeats 4000000 in
set_option maxRecDepth 100000 in
theorem met_si10 (l : Launch) (G : pd_G) (h0 h1 N : Nat) (w : Nat → Nat) (sz : Nat) (hN : N < 2147483648) : Met l yJ0_init (ws_ yJ0_init cJ0_init 4 none) ({ frames := 5, cells := 0, slots := 0, locals := 114 } : Room) (va_Pc [.ref h0, .ref h1, .int (nI 0), .int (nI 0)] (pd_B G sz [(h0, .inr (2, [.null, .int (0), .int (0), .int (0)])), (h1, .inl (pd_cC G, N, .inl (fun j => nI (w j))))])) (va_Qv (fun (u : Unit) => True) (fun (u : Unit) t9 => pd_F G (va_A [(h0, .inr (2, [.null, .int (0), .int (0), .int (0)])), (h1, .inl (pd_cC G, N, .inl (fun j => nI (w j))))] sz) ([(h0, .inr (2, [.ref ((pd_vE G)), .int (nI 0), .int (0), .int (0)])), (h1, .inl (pd_cC G, N, .inl (fun j => nI (w j))))]) t9) (va_A [(h0, .inr (2, [.null, .int (0), .int (0), .int (0)])), (h1, .inl (pd_cC G, N, .inl (fun j => nI (w j))))] sz)) 0 0 (va_A [(h0, .inr (2, [.null, .int (0), .int (0), .int (0)])), (h1, .inl (pd_cC G, N, .inl (fun j => nI (w j))))] sz) := by
  refine pd_start (by decide) (Nat.le_of_ble_eq_true rfl) ?_
  intro p e s m below meth co ls H locs ⟨hx, hb, hml, hown, hts⟩ hr hlk hnm hsz h hl
  have hown : s.vm.findClass RJ0 = some m.cls := hown
  have hl : lv_has ls 4 [(0, .ref h0), (1, .ref h1), (2, .int (nI 0)), (3, .int (nI 0))] := hl
  refine lv_aload_n hx hb dJ0_init_0 rfl (lv_at hl 0 rfl) ?_
  refine lv_aload_n hx hb dJ0_init_1 rfl (lv_at hl 1 rfl) ?_
  refine lv_iload_n hx hb dJ0_init_2 rfl (lv_at hl 2 rfl) ?_
  refine lv_iload_n hx hb dJ0_init_3 rfl (lv_at hl 3 rfl) ?_
  refine lv_aload_n hx hb dJ0_init_4 rfl (lv_at hl 1 rfl) ?_
  refine lv_iload_n hx hb dJ0_init_5 rfl (lv_at hl 2 rfl) ?_
  refine lv_iload_n hx hb dJ0_init_6 rfl (lv_at hl 3 rfl) ?_
  refine pd_goq (wc := [(h1, .inl (pd_cC G, N, .inl (fun j => nI (w j))))]) (wr := [(h0, .inr (2, [.null, .int (0), .int (0), .int (0)]))]) h (va_runS (As := [.ref h1, .int (nI 0), .int (nI 0)]) (rest := [.int (nI 0), .int (nI 0), .ref h1, .ref h0]) ⟨hx, hb, hml, hown, hts⟩ (met_src l G h1 N 0 w H.size hN (Nat.zero_le _)) (va_cwS 3 hts (lw_S q58 q59 q4 q60) rfl rfl rfl (by decide +kernel) ⟨Nat.le_of_ble_eq_true rfl, Nat.le_of_ble_eq_true rfl⟩) ⟨pd_blind, pd_pre h [1] (by decide) rfl⟩ rfl rfl hl.1 rfl (lv_room (Nat.le_of_ble_eq_true rfl)) dJ0_init_7 ⟨(by first | omega | (dsimp only; omega)), (by first | omega | (dsimp only; omega))⟩) [1] [0] rfl rfl (by decide) (by decide) (fun r1 u H locs hp h => ?_)
  have h : pd_W G _ s H locs [(h0, .inr (2, [.null, .int (0), .int (0), .int (0)])), (h1, .inl (pd_cC G, N, .inl (fun j => nI (w j))))] := h
  obtain rfl : r1 = none := hp
  refine W.eq (g2 := F0 m 10 ls [.null, .int (nI 0), .int (nI 0), .ref h1, .ref h0]) rfl ?_
  refine pd_gov (wc := [(h0, .inr (2, [.null, .int (0), .int (0), .int (0)])), (h1, .inl (pd_cC G, N, .inl (fun j => nI (w j))))]) (wr := []) h (va_runI (As := [.ref h1, .int (nI 0), .int (nI 0), .null]) (rest := []) ⟨hx, hb, hml, hown, hts⟩ (met_si20 l G h0 h1 N w H.size) (cwI 4 hts (lw_meth q71) rfl rfl rfl (hts _ q4) (hts _ q69) (hts _ q70) rfl (by decide +kernel) ⟨Nat.le_of_ble_eq_true rfl, Nat.le_of_ble_eq_true rfl⟩) ⟨pd_blind, pd_pre h [0, 1] (by decide) rfl⟩ rfl rfl hl.1 rfl (lv_room (Nat.le_of_ble_eq_true rfl)) dJ0_init_10 ⟨(by first | omega | (dsimp only; omega)), (by first | omega | (dsimp only; omega))⟩) [0, 1] [] rfl rfl (by decide) (by decide) (fun u H locs hp h => ?_)
  have h : pd_W G _ s H locs [(h0, .inr (2, [.ref ((pd_vE G)), .int (nI 0), .int (0), .int (0)])), (h1, .inl (pd_cC G, N, .inl (fun j => nI (w j))))] := h
  exact pd_vret hx hb hr hlk h () [0, 1] (by decide) rfl trivial (by first | omega | (dsimp only; omega)) (by first | omega | (dsimp only; omega)) dJ0_init_13
end
section
/-! PdfParityDeskModel -/
set_option maxRecDepth 100000
set_option maxHeartbeats 4000000 in
set_option maxRecDepth 100000 in
theorem met_min (l : Launch) (G : pd_G) (h0 : Nat) (sz : Nat) : Met l yX1_init (ws_ yX1_init cX1_init 1 none) ({ frames := 1, cells := 2, slots := 64, locals := 12 } : Room) (va_Pc [.ref h0] (pd_B G sz [(h0, .inr (1, [.null, .int (nI 0), .null]))])) (va_Qv (fun (u : Nat × Nat) => True) (fun (u : Nat × Nat) t9 => pd_F G (va_A [(h0, .inr (1, [.null, .int (nI 0), .null]))] sz) ([(h0, .inr (1, [.ref u.1, .int (nI 0), .ref u.2])), (u.1, .inl (pd_cI G, 64, .inl (fun j => nI (pd_z j)))), (u.2, .inl (pd_cI G, 0, .inl (fun j => nI (pd_z j))))]) t9) (va_A [(h0, .inr (1, [.null, .int (nI 0), .null]))] sz)) 2 64 (va_A [(h0, .inr (1, [.null, .int (nI 0), .null]))] sz) := by
  refine pd_start (by decide) (Nat.le_of_ble_eq_true rfl) ?_
  intro p e s m below meth co ls H locs ⟨hx, hb, hml, hown, hts⟩ hr hlk hnm hsz h hl
  have hown : s.vm.findClass RX1 = some m.cls := hown
  have hl : lv_has ls 1 [(0, .ref h0)] := hl
  refine lv_aload_n hx hb dX1_init_0 rfl (lv_at hl 0 rfl) ?_
  refine W.objInit hx hb hown (hts _ q399) (hts _ q25) (hts _ q26) rfl (by rw [hml]; exact hl.1) rfl dX1_init_1 (Nat.le_of_ble_eq_true rfl) (Nat.le_of_ble_eq_true rfl) ?_
  refine W.eq (g2 := F0 m 4 ls []) rfl ?_
  refine lv_aload_n hx hb dX1_init_4 rfl (lv_at hl 0 rfl) ?_
  refine lv_bipush (v := (nI 64)) hx hb dX1_init_5 (by decide) ?_
  refine pd_newI hx hb hts h (by omega) (by first | omega | (dsimp only; omega)) (by first | omega | (dsimp only; omega)) dX1_init_7 (fun qa H h => ?_)
  have h : pd_W G _ s H locs [(h0, .inr (1, [.null, .int (nI 0), .null])), (qa, .inl (pd_cI G, 64, .inl (fun j => nI (pd_z j))))] := h
  refine pd_putF (ci := 1) (v := .ref qa) (ty := .array .int) (C := RX1) (T := TX1) (N := 3) hx hb hts hown h in_X1 tyX1 tyX1_ok nmX1 0 rfl rfl 0 (by decide) (hts _ q400) (fun _ h9 => h9) rfl hnm rfl (by decide +kernel) rfl rfl (Nat.le_of_ble_eq_true rfl) dX1_init_9 (fun H locs h => ?_)
  have h : pd_W G _ s H locs [(h0, .inr (1, [.ref qa, .int (nI 0), .null])), (qa, .inl (pd_cI G, 64, .inl (fun j => nI (pd_z j))))] := h
  refine lv_aload_n hx hb dX1_init_12 rfl (lv_at hl 0 rfl) ?_
  refine lv_iconst (v := (nI 0)) hx hb dX1_init_13 (by decide) ?_
  refine pd_newI hx hb hts h (by omega) (by first | omega | (dsimp only; omega)) (by first | omega | (dsimp only; omega)) dX1_init_14 (fun qt H h => ?_)
  have h : pd_W G _ s H locs [(h0, .inr (1, [.ref qa, .int (nI 0), .null])), (qa, .inl (pd_cI G, 64, .inl (fun j => nI (pd_z j)))), (qt, .inl (pd_cI G, 0, .inl (fun j => nI (pd_z j))))] := h
  refine pd_put (ci := 1) (v := .ref qt) (ty := .array .int) (C := RX1) (T := TX1) (N := 3) hx hb hts hown h in_X1 tyX1 tyX1_ok nmX1 0 rfl rfl 2 (by decide) (hts _ q402) (fun _ h9 => h9) rfl (by decide +kernel) rfl rfl (Nat.le_of_ble_eq_true rfl) dX1_init_16 (fun H locs h => ?_)
  have h : pd_W G _ s H locs [(h0, .inr (1, [.ref qa, .int (nI 0), .ref qt])), (qa, .inl (pd_cI G, 64, .inl (fun j => nI (pd_z j)))), (qt, .inl (pd_cI G, 0, .inl (fun j => nI (pd_z j))))] := h
  refine lv_aload_n hx hb dX1_init_19 rfl (lv_at hl 0 rfl) ?_
  refine lv_iconst (v := (nI 0)) hx hb dX1_init_20 (by decide) ?_
  refine pd_put (ci := 1) (v := .int (nI 0)) (ty := .int) (C := RX1) (T := TX1) (N := 3) hx hb hts hown h in_X1 tyX1 tyX1_ok nmX1 0 rfl rfl 1 (by decide) (hts _ q401) (fun _ h9 => h9) rfl (by decide +kernel) rfl rfl (Nat.le_of_ble_eq_true rfl) dX1_init_21 (fun H locs h => ?_)
  have h : pd_W G _ s H locs [(h0, .inr (1, [.ref qa, .int (nI 0), .ref qt])), (qa, .inl (pd_cI G, 64, .inl (fun j => nI (pd_z j)))), (qt, .inl (pd_cI G, 0, .inl (fun j => nI (pd_z j))))] := h
  exact pd_vret hx hb hr hlk h (qa, qt) [0, 1, 2] (by decide) rfl trivial (by first | omega | (dsimp only; omega)) (by first | omega | (dsimp only; omega)) dX1_init_24
set_option maxHeartbeats 4000000 in
set_option maxRecDepth 100000 in
theorem met_mpl (l : Launch) (G : pd_G) (x : Int32) (sz : Nat) : Met l yX1_plain (ws_ yX1_plain cX1_plain 1 (some .int)) ({ frames := 0, cells := 0, slots := 0, locals := 0 } : Room) (va_Pc [.int (x)] (pd_B G sz [])) (va_Qi (fun (r : Int32) (u : Unit) => r = nI (pd_pl x)) (fun (u : Unit) t9 => pd_F G (va_A [] sz) ([]) t9) (va_A [] sz)) 0 0 (va_A [] sz) := by
  refine pd_start (by decide) (Nat.le_of_ble_eq_true rfl) ?_
  intro p e s m below meth co ls H locs ⟨hx, hb, hml, hown, hts⟩ hr hlk hnm hsz h hl
  have hown : s.vm.findClass RX1 = some m.cls := hown
  have hl : lv_has ls 1 [(0, .int (x))] := hl
  refine lv_iload_n hx hb dX1_plain_0 rfl (lv_at hl 0 rfl) ?_
  refine lv_ldc (v := 2147483647) hx hb hown (hts _ q418) dX1_plain_1 ?_
  refine lv_iand hx hb dX1_plain_3 ?_
  refine pd_top (y := (nI (pd_pl x))) (pd_pl_and x) ?_
  exact pd_iret hx hb hr hlk h () [] (by decide) rfl rfl (by first | omega | (dsimp only; omega)) (by first | omega | (dsimp only; omega)) dX1_plain_4
set_option maxHeartbeats 4000000 in
set_option maxRecDepth 100000 in
theorem met_mpy (l : Launch) (G : pd_G) (h0 v tl n : Nat) (w : Nat → Nat) (a b : Int32) (sz : Nat) (hn : n ≤ 62) : Met l yX1_put (ws_ yX1_put cX1_put 3 (some .boolean)) ({ frames := 1, cells := 0, slots := 0, locals := 20 } : Room) (va_Pc [.ref h0, .int (a), .int (b)] (pd_B G sz [(h0, .inr (1, [.ref v, .int (nI n), .ref tl])), (v, .inl (pd_cI G, 64, .inl (fun j => nI (w j))))])) (va_Qi (fun (r : Int32) (u : Unit) => r = nI 1) (fun (u : Unit) t9 => pd_F G (va_A [(h0, .inr (1, [.ref v, .int (nI n), .ref tl])), (v, .inl (pd_cI G, 64, .inl (fun j => nI (w j))))] sz) ([(h0, .inr (1, [.ref v, .int (nI ((n + 2))), .ref tl])), (v, .inl (pd_cI G, 64, .inl (fun j => nI ((va_up (va_up w n (pd_pl a % 929)) (n + 1) (pd_pl b % 929)) j))))]) t9) (va_A [(h0, .inr (1, [.ref v, .int (nI n), .ref tl])), (v, .inl (pd_cI G, 64, .inl (fun j => nI (w j))))] sz)) 0 0 (va_A [(h0, .inr (1, [.ref v, .int (nI n), .ref tl])), (v, .inl (pd_cI G, 64, .inl (fun j => nI (w j))))] sz) := by
  refine pd_start (by decide) (Nat.le_of_ble_eq_true rfl) ?_
  intro p e s m below meth co ls H locs ⟨hx, hb, hml, hown, hts⟩ hr hlk hnm hsz h hl
  have hown : s.vm.findClass RX1 = some m.cls := hown
  have hl : lv_has ls 3 [(0, .ref h0), (1, .int (a)), (2, .int (b))] := hl
  refine lv_aload_n hx hb dX1_put_0 rfl (lv_at hl 0 rfl) ?_
  refine va_get (D := pd_D G) (ci := 1) (v := .int (nI n)) (C := RX1) (T := TX1) (N := 3) hx hb hts in_X1 hown h.1 h.2.2.2.1 0 rfl rfl 1 (by decide) (hts _ q401) (fun _ h9 => h9) rfl dX1_put_1 ?_
  refine lv_iconst (v := (nI 2)) hx hb dX1_put_4 (by decide) ?_
  refine pd_add hx hb dX1_put_5 ?_
  refine lv_aload_n hx hb dX1_put_6 rfl (lv_at hl 0 rfl) ?_
  refine va_get (D := pd_D G) (ci := 1) (v := .ref v) (C := RX1) (T := TX1) (N := 3) hx hb hts in_X1 hown h.1 h.2.2.2.1 0 rfl rfl 0 (by decide) (hts _ q400) (fun _ h9 => h9) rfl dX1_put_7 ?_
  refine pd_alenI hx hb h 1 rfl dX1_put_10 ?_
  refine pd_icmp_le (tgt := 16) hx hb (by omega) (by omega) dX1_put_11 (by decide) (fun c1 => ?_) (fun c1 => absurd c1 (by omega))
  refine lv_aload_n hx hb dX1_put_16 rfl (lv_at hl 0 rfl) ?_
  refine va_get (D := pd_D G) (ci := 1) (v := .ref v) (C := RX1) (T := TX1) (N := 3) hx hb hts in_X1 hown h.1 h.2.2.2.1 0 rfl rfl 0 (by decide) (hts _ q400) (fun _ h9 => h9) rfl dX1_put_17 ?_
  refine lv_aload_n hx hb dX1_put_20 rfl (lv_at hl 0 rfl) ?_
  refine va_get (D := pd_D G) (ci := 1) (v := .int (nI n)) (C := RX1) (T := TX1) (N := 3) hx hb hts in_X1 hown h.1 h.2.2.2.1 0 rfl rfl 1 (by decide) (hts _ q401) (fun _ h9 => h9) rfl dX1_put_21 ?_
  refine lv_iload_n hx hb dX1_put_24 rfl (lv_at hl 1 rfl) ?_
  refine pd_goi (wc := []) (wr := [(h0, .inr (1, [.ref v, .int (nI n), .ref tl])), (v, .inl (pd_cI G, 64, .inl (fun j => nI (w j))))]) h (va_runS (As := [.int (a)]) (rest := [.int (nI n), .ref v]) ⟨hx, hb, hml, hown, hts⟩ (met_mpl l G a H.size) (va_cwS 1 hts (lw_S q415 q416 q3 q417) rfl rfl rfl (by decide +kernel) ⟨Nat.le_of_ble_eq_true rfl, Nat.le_of_ble_eq_true rfl⟩) ⟨pd_blind, pd_pre h [] (by decide) rfl⟩ rfl rfl hl.1 rfl (lv_room (Nat.le_of_ble_eq_true rfl)) dX1_put_25 ⟨(by first | omega | (dsimp only; omega)), (by first | omega | (dsimp only; omega))⟩) [] [0, 1] rfl rfl (by decide) (by decide) (fun r1 u H locs hp h => ?_)
  have h : pd_W G _ s H locs [(h0, .inr (1, [.ref v, .int (nI n), .ref tl])), (v, .inl (pd_cI G, 64, .inl (fun j => nI (w j))))] := h
  obtain rfl : r1 = (nI (pd_pl a)) := hp
  have hpa := pd_pl_lt a
  have hpb := pd_pl_lt b
  refine lv_sipush (v := (nI 929)) hx hb dX1_put_28 (by decide) ?_
  refine pd_rem hx hb (by omega) (by omega) (by omega) dX1_put_31 ?_
  refine pd_iast hx hb h 1 rfl (by omega) (by omega) dX1_put_32 (fun H locs h => ?_)
  have h : pd_W G _ s H locs [(h0, .inr (1, [.ref v, .int (nI n), .ref tl])), (v, .inl (pd_cI G, 64, .inl (fun j => nI ((va_up w n ((pd_pl a) % 929)) j))))] := h
  refine lv_aload_n hx hb dX1_put_33 rfl (lv_at hl 0 rfl) ?_
  refine va_get (D := pd_D G) (ci := 1) (v := .ref v) (C := RX1) (T := TX1) (N := 3) hx hb hts in_X1 hown h.1 h.2.2.2.1 0 rfl rfl 0 (by decide) (hts _ q400) (fun _ h9 => h9) rfl dX1_put_34 ?_
  refine lv_aload_n hx hb dX1_put_37 rfl (lv_at hl 0 rfl) ?_
  refine va_get (D := pd_D G) (ci := 1) (v := .int (nI n)) (C := RX1) (T := TX1) (N := 3) hx hb hts in_X1 hown h.1 h.2.2.2.1 0 rfl rfl 1 (by decide) (hts _ q401) (fun _ h9 => h9) rfl dX1_put_38 ?_
  refine lv_iconst (v := (nI 1)) hx hb dX1_put_41 (by decide) ?_
  refine pd_add hx hb dX1_put_42 ?_
  refine lv_iload_n hx hb dX1_put_43 rfl (lv_at hl 2 rfl) ?_
  refine pd_goi (wc := []) (wr := [(h0, .inr (1, [.ref v, .int (nI n), .ref tl])), (v, .inl (pd_cI G, 64, .inl (fun j => nI ((va_up w n ((pd_pl a) % 929)) j))))]) h (va_runS (As := [.int (b)]) (rest := [.int (nI (n + 1)), .ref v]) ⟨hx, hb, hml, hown, hts⟩ (met_mpl l G b H.size) (va_cwS 1 hts (lw_S q415 q416 q3 q417) rfl rfl rfl (by decide +kernel) ⟨Nat.le_of_ble_eq_true rfl, Nat.le_of_ble_eq_true rfl⟩) ⟨pd_blind, pd_pre h [] (by decide) rfl⟩ rfl rfl hl.1 rfl (lv_room (Nat.le_of_ble_eq_true rfl)) dX1_put_44 ⟨(by first | omega | (dsimp only; omega)), (by first | omega | (dsimp only; omega))⟩) [] [0, 1] rfl rfl (by decide) (by decide) (fun r3 u H locs hp h => ?_)
  have h : pd_W G _ s H locs [(h0, .inr (1, [.ref v, .int (nI n), .ref tl])), (v, .inl (pd_cI G, 64, .inl (fun j => nI ((va_up w n ((pd_pl a) % 929)) j))))] := h
  obtain rfl : r3 = (nI (pd_pl b)) := hp
  refine lv_sipush (v := (nI 929)) hx hb dX1_put_47 (by decide) ?_
  refine pd_rem hx hb (by omega) (by omega) (by omega) dX1_put_50 ?_
  refine pd_iast hx hb h 1 rfl (by omega) (by omega) dX1_put_51 (fun H locs h => ?_)
  have h : pd_W G _ s H locs [(h0, .inr (1, [.ref v, .int (nI n), .ref tl])), (v, .inl (pd_cI G, 64, .inl (fun j => nI ((va_up (va_up w n ((pd_pl a) % 929)) (n + 1) ((pd_pl b) % 929)) j))))] := h
  refine lv_aload_n hx hb dX1_put_52 rfl (lv_at hl 0 rfl) ?_
  refine lv_dup hx hb dX1_put_53 rfl ?_
  refine va_get (D := pd_D G) (ci := 1) (v := .int (nI n)) (C := RX1) (T := TX1) (N := 3) hx hb hts in_X1 hown h.1 h.2.2.2.1 0 rfl rfl 1 (by decide) (hts _ q401) (fun _ h9 => h9) rfl dX1_put_54 ?_
  refine lv_iconst (v := (nI 2)) hx hb dX1_put_57 (by decide) ?_
  refine pd_add hx hb dX1_put_58 ?_
  refine pd_put (ci := 1) (v := .int (nI (n + 2))) (ty := .int) (C := RX1) (T := TX1) (N := 3) hx hb hts hown h in_X1 tyX1 tyX1_ok nmX1 0 rfl rfl 1 (by decide) (hts _ q401) (fun _ h9 => h9) rfl (by decide +kernel) rfl rfl (Nat.le_of_ble_eq_true rfl) dX1_put_59 (fun H locs h => ?_)
  have h : pd_W G _ s H locs [(h0, .inr (1, [.ref v, .int (nI (n + 2)), .ref tl])), (v, .inl (pd_cI G, 64, .inl (fun j => nI ((va_up (va_up w n ((pd_pl a) % 929)) (n + 1) ((pd_pl b) % 929)) j))))] := h
  refine lv_iconst (v := (nI 1)) hx hb dX1_put_62 (by decide) ?_
  exact pd_zret hx hb hr rfl hlk h () [0, 1] (by decide) rfl rfl (by first | omega | (dsimp only; omega)) (by first | omega | (dsimp only; omega)) dX1_put_63
set_option maxHeartbeats 4000000 in
set_option maxRecDepth 100000 in
theorem met_mpn (l : Launch) (G : pd_G) (h0 v tl n : Nat) (w : Nat → Nat) (a b : Int32) (sz : Nat) (hn : 62 < n) (hn2 : n ≤ 64) : Met l yX1_put (ws_ yX1_put cX1_put 3 (some .boolean)) ({ frames := 1, cells := 0, slots := 0, locals := 20 } : Room) (va_Pc [.ref h0, .int (a), .int (b)] (pd_B G sz [(h0, .inr (1, [.ref v, .int (nI n), .ref tl])), (v, .inl (pd_cI G, 64, .inl (fun j => nI (w j))))])) (va_Qi (fun (r : Int32) (u : Unit) => r = nI 0) (fun (u : Unit) t9 => pd_F G (va_A [(h0, .inr (1, [.ref v, .int (nI n), .ref tl])), (v, .inl (pd_cI G, 64, .inl (fun j => nI (w j))))] sz) ([(h0, .inr (1, [.ref v, .int (nI n), .ref tl])), (v, .inl (pd_cI G, 64, .inl (fun j => nI (w j))))]) t9) (va_A [(h0, .inr (1, [.ref v, .int (nI n), .ref tl])), (v, .inl (pd_cI G, 64, .inl (fun j => nI (w j))))] sz)) 0 0 (va_A [(h0, .inr (1, [.ref v, .int (nI n), .ref tl])), (v, .inl (pd_cI G, 64, .inl (fun j => nI (w j))))] sz) := by
  refine pd_start (by decide) (Nat.le_of_ble_eq_true rfl) ?_
  intro p e s m below meth co ls H locs ⟨hx, hb, hml, hown, hts⟩ hr hlk hnm hsz h hl
  have hown : s.vm.findClass RX1 = some m.cls := hown
  have hl : lv_has ls 3 [(0, .ref h0), (1, .int (a)), (2, .int (b))] := hl
  refine lv_aload_n hx hb dX1_put_0 rfl (lv_at hl 0 rfl) ?_
  refine va_get (D := pd_D G) (ci := 1) (v := .int (nI n)) (C := RX1) (T := TX1) (N := 3) hx hb hts in_X1 hown h.1 h.2.2.2.1 0 rfl rfl 1 (by decide) (hts _ q401) (fun _ h9 => h9) rfl dX1_put_1 ?_
  refine lv_iconst (v := (nI 2)) hx hb dX1_put_4 (by decide) ?_
  refine pd_add hx hb dX1_put_5 ?_
  refine lv_aload_n hx hb dX1_put_6 rfl (lv_at hl 0 rfl) ?_
  refine va_get (D := pd_D G) (ci := 1) (v := .ref v) (C := RX1) (T := TX1) (N := 3) hx hb hts in_X1 hown h.1 h.2.2.2.1 0 rfl rfl 0 (by decide) (hts _ q400) (fun _ h9 => h9) rfl dX1_put_7 ?_
  refine pd_alenI hx hb h 1 rfl dX1_put_10 ?_
  refine pd_icmp_le (tgt := 16) hx hb (by omega) (by omega) dX1_put_11 (by decide) (fun c1 => absurd c1 (by omega)) (fun c1 => ?_)
  refine lv_iconst (v := (nI 0)) hx hb dX1_put_14 (by decide) ?_
  exact pd_zret hx hb hr rfl hlk h () [0, 1] (by decide) rfl rfl (by first | omega | (dsimp only; omega)) (by first | omega | (dsimp only; omega)) dX1_put_15
set_option maxHeartbeats 4000000 in
set_option maxRecDepth 100000 in
theorem met_mdr (l : Launch) (G : pd_G) (h0 v tl n : Nat) (x : Int32) (sz : Nat) (hn : n ≤ 64) : Met l yX1_drop (ws_ yX1_drop cX1_drop 2 none) ({ frames := 1, cells := 0, slots := 0, locals := 20 } : Room) (va_Pc [.ref h0, .int (x)] (pd_B G sz [(h0, .inr (1, [.ref v, .int (nI n), .ref tl]))])) (va_Qv (fun (u : Unit) => True) (fun (u : Unit) t9 => pd_F G (va_A [(h0, .inr (1, [.ref v, .int (nI n), .ref tl]))] sz) ([(h0, .inr (1, [.ref v, .int (nI ((pd_pl x % (n + 1)))), .ref tl]))]) t9) (va_A [(h0, .inr (1, [.ref v, .int (nI n), .ref tl]))] sz)) 0 0 (va_A [(h0, .inr (1, [.ref v, .int (nI n), .ref tl]))] sz) := by
  refine pd_start (by decide) (Nat.le_of_ble_eq_true rfl) ?_
  intro p e s m below meth co ls H locs ⟨hx, hb, hml, hown, hts⟩ hr hlk hnm hsz h hl
  have hown : s.vm.findClass RX1 = some m.cls := hown
  have hl : lv_has ls 2 [(0, .ref h0), (1, .int (x))] := hl
  refine lv_aload_n hx hb dX1_drop_0 rfl (lv_at hl 0 rfl) ?_
  refine lv_iload_n hx hb dX1_drop_1 rfl (lv_at hl 1 rfl) ?_
  refine pd_goi (wc := []) (wr := [(h0, .inr (1, [.ref v, .int (nI n), .ref tl]))]) h (va_runS (As := [.int (x)]) (rest := [.ref h0]) ⟨hx, hb, hml, hown, hts⟩ (met_mpl l G x H.size) (va_cwS 1 hts (lw_S q415 q416 q3 q417) rfl rfl rfl (by decide +kernel) ⟨Nat.le_of_ble_eq_true rfl, Nat.le_of_ble_eq_true rfl⟩) ⟨pd_blind, pd_pre h [] (by decide) rfl⟩ rfl rfl hl.1 rfl (lv_room (Nat.le_of_ble_eq_true rfl)) dX1_drop_2 ⟨(by first | omega | (dsimp only; omega)), (by first | omega | (dsimp only; omega))⟩) [] [0] rfl rfl (by decide) (by decide) (fun r1 u H locs hp h => ?_)
  have h : pd_W G _ s H locs [(h0, .inr (1, [.ref v, .int (nI n), .ref tl]))] := h
  obtain rfl : r1 = (nI (pd_pl x)) := hp
  have hpa := pd_pl_lt x
  refine lv_aload_n hx hb dX1_drop_5 rfl (lv_at hl 0 rfl) ?_
  refine va_get (D := pd_D G) (ci := 1) (v := .int (nI n)) (C := RX1) (T := TX1) (N := 3) hx hb hts in_X1 hown h.1 h.2.2.2.1 0 rfl rfl 1 (by decide) (hts _ q401) (fun _ h9 => h9) rfl dX1_drop_6 ?_
  refine lv_iconst (v := (nI 1)) hx hb dX1_drop_9 (by decide) ?_
  refine pd_add hx hb dX1_drop_10 ?_
  refine pd_rem hx hb (by omega) (by omega) (by omega) dX1_drop_11 ?_
  refine pd_put (ci := 1) (v := .int (nI ((pd_pl x) % (n + 1)))) (ty := .int) (C := RX1) (T := TX1) (N := 3) hx hb hts hown h in_X1 tyX1 tyX1_ok nmX1 0 rfl rfl 1 (by decide) (hts _ q401) (fun _ h9 => h9) rfl (by decide +kernel) rfl rfl (Nat.le_of_ble_eq_true rfl) dX1_drop_12 (fun H locs h => ?_)
  have h : pd_W G _ s H locs [(h0, .inr (1, [.ref v, .int (nI ((pd_pl x) % (n + 1))), .ref tl]))] := h
  exact pd_vret hx hb hr hlk h () [0] (by decide) rfl trivial (by first | omega | (dsimp only; omega)) (by first | omega | (dsimp only; omega)) dX1_drop_15
set_option maxHeartbeats 4000000 in
set_option maxRecDepth 100000 in
theorem met_mco (l : Launch) (G : pd_G) (h0 v tl n : Nat) (x : Int32) (sz : Nat) : Met l yX1_count (ws_ yX1_count cX1_count 4 (some .int)) ({ frames := 0, cells := 0, slots := 0, locals := 0 } : Room) (va_Pc [.ref h0, .int (x)] (pd_B G sz [(h0, .inr (1, [.ref v, .int (nI n), .ref tl]))])) (va_Qi (fun (r : Int32) (u : Unit) => r = nI (2 ^ (pd_lo x + 1))) (fun (u : Unit) t9 => pd_F G (va_A [(h0, .inr (1, [.ref v, .int (nI n), .ref tl]))] sz) ([(h0, .inr (1, [.ref v, .int (nI n), .ref tl]))]) t9) (va_A [(h0, .inr (1, [.ref v, .int (nI n), .ref tl]))] sz)) 0 0 (va_A [(h0, .inr (1, [.ref v, .int (nI n), .ref tl]))] sz) := by
  refine pd_start (by decide) (Nat.le_of_ble_eq_true rfl) ?_
  intro p e s m below meth co ls H locs ⟨hx, hb, hml, hown, hts⟩ hr hlk hnm hsz h hl
  have hown : s.vm.findClass RX1 = some m.cls := hown
  have hl : lv_has ls 4 [(0, .ref h0), (1, .int (x))] := hl
  have hlo := pd_lo_lt x
  refine lv_iconst (v := (nI 2)) hx hb dX1_count_0 (by decide) ?_
  refine lv_istore_n (lv' := [(2, .int (nI 2)), (0, .ref h0), (1, .int (x))]) hx hb dX1_count_1 rfl hl (by decide) rfl (fun ls hl => ?_)
  refine lv_iconst (v := (nI 0)) hx hb dX1_count_2 (by decide) ?_
  refine lv_istore_n (lv' := [(3, .int (nI 0)), (2, .int (nI 2)), (0, .ref h0), (1, .int (x))]) hx hb dX1_count_3 rfl hl (by decide) rfl (fun ls hl => ?_)
  have key : ∀ (d : Nat) (i : Nat) (H : Heap) (locs : List Loc) (ls : Array Slot), i + d = pd_lo x → pd_W G (va_A [(h0, .inr (1, [.ref v, .int (nI n), .ref tl]))] sz) s H locs [(h0, .inr (1, [.ref v, .int (nI n), .ref tl]))] → lv_has ls 4 [(0, .ref h0), (1, .int (x)), (2, .int (nI (2 ^ (i + 1)))), (3, .int (nI i))] → W p l e ({ frames := 0, cells := 0, slots := 0, locals := 0 } : Room) s m ([.ref h0, .int (x)] : List Value).toArray below meth co H locs 0 0 (MQ below (va_Qi (fun (r : Int32) (u : Unit) => r = nI (2 ^ (pd_lo x + 1))) (fun (u : Unit) t9 => pd_F G (va_A [(h0, .inr (1, [.ref v, .int (nI n), .ref tl]))] sz) ([(h0, .inr (1, [.ref v, .int (nI n), .ref tl]))]) t9) (va_A [(h0, .inr (1, [.ref v, .int (nI n), .ref tl]))] sz)) ([.ref h0, .int (x)] : List Value).toArray s 0 0 (va_A [(h0, .inr (1, [.ref v, .int (nI n), .ref tl]))] sz)) (F0 m 4 ls []) := by
    intro d
    induction d with
    | zero =>
      intro i H locs ls hi h hl
      refine lv_iload_n hx hb dX1_count_4 rfl (lv_at hl 3 rfl) ?_
      refine lv_iload_n hx hb dX1_count_5 rfl (lv_at hl 1 rfl) ?_
      refine lv_bipush (v := (nI 7)) hx hb dX1_count_6 (by decide) ?_
      refine lv_iand hx hb dX1_count_8 ?_
      refine pd_top (y := (nI (pd_lo x))) (pd_lo_and x) ?_
      refine pd_icmp_ge (tgt := 22) hx hb (by omega) (by omega) dX1_count_9 (by decide) (fun c1 => ?_) (fun c1 => absurd c1 (by omega))
      refine lv_iload_n hx hb dX1_count_22 rfl (lv_at hl 2 rfl) ?_
      exact pd_iret hx hb hr hlk h () [0] (by decide) rfl (by rw [show i = pd_lo x by omega]) (by first | omega | (dsimp only; omega)) (by first | omega | (dsimp only; omega)) dX1_count_23
    | succ d ih =>
      intro i H locs ls hi h hl
      refine lv_iload_n hx hb dX1_count_4 rfl (lv_at hl 3 rfl) ?_
      refine lv_iload_n hx hb dX1_count_5 rfl (lv_at hl 1 rfl) ?_
      refine lv_bipush (v := (nI 7)) hx hb dX1_count_6 (by decide) ?_
      refine lv_iand hx hb dX1_count_8 ?_
      refine pd_top (y := (nI (pd_lo x))) (pd_lo_and x) ?_
      refine pd_icmp_ge (tgt := 22) hx hb (by omega) (by omega) dX1_count_9 (by decide) (fun c1 => absurd c1 (by omega)) (fun c1 => ?_)
      refine lv_iload_n hx hb dX1_count_12 rfl (lv_at hl 2 rfl) ?_
      refine lv_iconst (v := (nI 2)) hx hb dX1_count_13 (by decide) ?_
      refine pd_mul hx hb dX1_count_14 ?_
      refine pd_top (y := (nI (2 ^ (i + 1 + 1)))) (congrArg nI (Nat.pow_succ 2 (i + 1)).symm) ?_
      refine lv_istore_n (lv' := [(2, .int (nI (2 ^ (i + 1 + 1)))), (0, .ref h0), (1, .int (x)), (3, .int (nI i))]) hx hb dX1_count_15 rfl hl (by decide) rfl (fun ls hl => ?_)
      refine lv_iinc (v := (nI (i + 1))) (lv' := [(3, .int (nI (i + 1))), (2, .int (nI (2 ^ (i + 1 + 1)))), (0, .ref h0), (1, .int (x))]) hx hb dX1_count_16 hl (k := 3) rfl (by rw [show Int32.ofInt 1 = nI 1 from rfl, nI_add]) (by decide) rfl (fun ls hl => ?_)
      refine lv_goto (tgt := 4) hx hb dX1_count_19 (by decide) ?_
      exact ih (i + 1) H _ ls (by omega) (h.sub [0] (by decide) rfl) (lv_sub hl [2, 3, 1, 0] rfl)
  exact key (pd_lo x) 0 H _ ls (by omega) (h.sub [0] (by decide) rfl) (lv_sub hl [2, 3, 1, 0] rfl)
set_option maxHeartbeats 4000000 in
set_option maxRecDepth 100000 in
theorem met_mge (l : Launch) (G : pd_G) (k : Nat) (sz : Nat) (hk : k ≤ 256) : Met l yX1_generator (ws_ yX1_generator cX1_generator 6 (some (.array .int))) ({ frames := 0, cells := 2, slots := (k + 1) + k, locals := 0 } : Room) (va_Pc [.int (nI k)] (pd_B G sz [])) (va_Qr (fun (u : Nat → Nat) => ∀ j, j < k → u j = pd_pf k j) (fun (u : Nat → Nat) (q : Nat) t9 => pd_F G (va_A [] sz) ([(q, .inl (pd_cI G, k, .inl (fun j => nI (u j))))]) t9) (va_A [] sz)) 2 ((k + 1) + k) (va_A [] sz) := by
  refine pd_start (by decide) (Nat.le_of_ble_eq_true rfl) ?_
  intro p e s m below meth co ls H locs ⟨hx, hb, hml, hown, hts⟩ hr hlk hnm hsz h hl
  have hown : s.vm.findClass RX1 = some m.cls := hown
  have hl : lv_has ls 6 [(0, .int (nI k))] := hl
  refine lv_iload_n hx hb dX1_generator_0 rfl (lv_at hl 0 rfl) ?_
  refine lv_iconst (v := (nI 1)) hx hb dX1_generator_1 (by decide) ?_
  refine pd_add hx hb dX1_generator_2 ?_
  refine pd_newI hx hb hts h (by omega) (by first | omega | (dsimp only; omega)) (by first | omega | (dsimp only; omega)) dX1_generator_3 (fun qa H h => ?_)
  have h : pd_W G _ s H locs [(qa, .inl (pd_cI G, k + 1, .inl (fun j => nI (pd_z j))))] := h
  refine lv_astore_n (lv' := [(1, .ref qa), (0, .int (nI k))]) hx hb dX1_generator_5 rfl hl (by decide) rfl (fun ls hl => ?_)
  refine lv_aload_n hx hb dX1_generator_6 rfl (lv_at hl 0 rfl) ?_
  refine lv_iconst (v := (nI 0)) hx hb dX1_generator_7 (by decide) ?_
  refine lv_iconst (v := (nI 1)) hx hb dX1_generator_8 (by decide) ?_
  refine pd_iast hx hb h 0 rfl (by omega) (by omega) dX1_generator_9 (fun H locs h => ?_)
  have h : pd_W G _ s H locs [(qa, .inl (pd_cI G, k + 1, .inl (fun j => nI ((va_up pd_z 0 1) j))))] := h
  refine lv_iconst (v := (nI 1)) hx hb dX1_generator_10 (by decide) ?_
  refine lv_istore_n (lv' := [(2, .int (nI 1)), (1, .ref qa), (0, .int (nI k))]) hx hb dX1_generator_11 rfl hl (by decide) rfl (fun ls hl => ?_)
  refine lv_iconst (v := (nI 0)) hx hb dX1_generator_12 (by decide) ?_
  refine lv_istore_n (lv' := [(3, .int (nI 0)), (2, .int (nI 1)), (1, .ref qa), (0, .int (nI k))]) hx hb dX1_generator_13 rfl hl (by decide) rfl (fun ls hl => ?_)
  have key : ∀ (d : Nat) (i : Nat) (g : Nat → Nat) (H : Heap) (locs : List Loc) (ls : Array Slot), i + d = k → (∀ x, x ≤ k → g x = pd_pf i x) → pd_W G (va_A [] sz) s H locs [(qa, .inl (pd_cI G, k + 1, .inl (fun j => nI (g j))))] → lv_has ls 6 [(0, .int (nI k)), (1, .ref qa), (2, .int (nI (pd_pw i))), (3, .int (nI i))] → W p l e ({ frames := 0, cells := 2, slots := (k + 1) + k, locals := 0 } : Room) s m ([.int (nI k)] : List Value).toArray below meth co H locs (0 + 1) (0 + (k + 1)) (MQ below (va_Qr (fun (u : Nat → Nat) => ∀ j, j < k → u j = pd_pf k j) (fun (u : Nat → Nat) (q : Nat) t9 => pd_F G (va_A [] sz) ([(q, .inl (pd_cI G, k, .inl (fun j => nI (u j))))]) t9) (va_A [] sz)) ([.int (nI k)] : List Value).toArray s 2 ((k + 1) + k) (va_A [] sz)) (F0 m 14 ls []) := by
    intro d
    induction d with
    | zero =>
      intro i g H locs ls hi hg h hl
      refine lv_iload_n hx hb dX1_generator_14 rfl (lv_at hl 3 rfl) ?_
      refine lv_iload_n hx hb dX1_generator_15 rfl (lv_at hl 0 rfl) ?_
      refine pd_icmp_ge (tgt := 87) hx hb (by omega) (by omega) dX1_generator_16 (by decide) (fun c1 => ?_) (fun c1 => absurd c1 (by omega))
      obtain rfl : i = k := by omega
      refine lv_iload_n hx hb dX1_generator_87 rfl (lv_at hl 0 rfl) ?_
      refine pd_newI hx hb hts h (by omega) (by first | omega | (dsimp only; omega)) (by first | omega | (dsimp only; omega)) dX1_generator_88 (fun qm H h => ?_)
      have h : pd_W G _ s H locs [(qa, .inl (pd_cI G, i + 1, .inl (fun j => nI (g j)))), (qm, .inl (pd_cI G, i, .inl (fun j => nI (pd_z j))))] := h
      refine lv_astore_n (lv' := [(3, .ref qm), (0, .int (nI i)), (1, .ref qa), (2, .int (nI (pd_pw i)))]) hx hb dX1_generator_90 rfl hl (by decide) rfl (fun ls hl => ?_)
      refine lv_iconst (v := (nI 0)) hx hb dX1_generator_91 (by decide) ?_
      refine lv_istore (lv' := [(4, .int (nI 0)), (3, .ref qm), (0, .int (nI i)), (1, .ref qa), (2, .int (nI (pd_pw i)))]) hx hb dX1_generator_92 hl (by decide) rfl (fun ls hl => ?_)
      have key3 : ∀ (d3 : Nat) (z : Nat) (y : Nat → Nat) (H : Heap) (locs : List Loc) (ls : Array Slot), z + d3 = i → (∀ j, j < z → y j = pd_pf i j) → pd_W G (va_A [] sz) s H locs [(qa, .inl (pd_cI G, i + 1, .inl (fun j => nI (g j)))), (qm, .inl (pd_cI G, i, .inl (fun j => nI (y j))))] → lv_has ls 6 [(0, .int (nI i)), (1, .ref qa), (3, .ref qm), (4, .int (nI z))] → W p l e ({ frames := 0, cells := 2, slots := (i + 1) + i, locals := 0 } : Room) s m ([.int (nI i)] : List Value).toArray below meth co H locs (0 + 1 + 1) (0 + (i + 1) + i) (MQ below (va_Qr (fun (u : Nat → Nat) => ∀ j, j < i → u j = pd_pf i j) (fun (u : Nat → Nat) (q : Nat) t9 => pd_F G (va_A [] sz) ([(q, .inl (pd_cI G, i, .inl (fun j => nI (u j))))]) t9) (va_A [] sz)) ([.int (nI i)] : List Value).toArray s 2 ((i + 1) + i) (va_A [] sz)) (F0 m 94 ls []) := by
        intro d3
        induction d3 with
        | zero =>
          intro z y H locs ls hz hy h hl
          refine lv_iload hx hb dX1_generator_94 (lv_at hl 3 rfl) ?_
          refine lv_iload_n hx hb dX1_generator_96 rfl (lv_at hl 0 rfl) ?_
          refine pd_icmp_ge (tgt := 114) hx hb (by omega) (by omega) dX1_generator_97 (by decide) (fun c1 => ?_) (fun c1 => absurd c1 (by omega))
          refine lv_aload_n hx hb dX1_generator_114 rfl (lv_at hl 2 rfl) ?_
          exact pd_aret hx hb hr (Or.inr ⟨_, rfl⟩) hlk h y [1] (by decide) rfl (fun j hj => hy j (by omega)) (by first | omega | (dsimp only; omega)) (by first | omega | (dsimp only; omega)) dX1_generator_115
        | succ d3 ih3 =>
          intro z y H locs ls hz hy h hl
          refine lv_iload hx hb dX1_generator_94 (lv_at hl 3 rfl) ?_
          refine lv_iload_n hx hb dX1_generator_96 rfl (lv_at hl 0 rfl) ?_
          refine pd_icmp_ge (tgt := 114) hx hb (by omega) (by omega) dX1_generator_97 (by decide) (fun c1 => absurd c1 (by omega)) (fun c1 => ?_)
          refine lv_aload_n hx hb dX1_generator_100 rfl (lv_at hl 2 rfl) ?_
          refine lv_iload hx hb dX1_generator_101 (lv_at hl 3 rfl) ?_
          refine lv_aload_n hx hb dX1_generator_103 rfl (lv_at hl 1 rfl) ?_
          refine lv_iload hx hb dX1_generator_104 (lv_at hl 3 rfl) ?_
          refine pd_iald hx hb h 0 rfl (by omega) (by omega) dX1_generator_106 ?_
          refine pd_iast hx hb h 1 rfl (by omega) (by omega) dX1_generator_107 (fun H locs h => ?_)
          have h : pd_W G _ s H locs [(qa, .inl (pd_cI G, i + 1, .inl (fun j => nI (g j)))), (qm, .inl (pd_cI G, i, .inl (fun j => nI ((va_up y z (g z)) j))))] := h
          refine lv_iinc (v := (nI (z + 1))) (lv' := [(4, .int (nI (z + 1))), (0, .int (nI i)), (1, .ref qa), (3, .ref qm)]) hx hb dX1_generator_108 hl (k := 3) rfl (by rw [show Int32.ofInt 1 = nI 1 from rfl, nI_add]) (by decide) rfl (fun ls hl => ?_)
          refine lv_goto (tgt := 94) hx hb dX1_generator_111 (by decide) ?_
          exact ih3 (z + 1) (va_up y z (g z)) H _ ls (by omega) (pd_fill hy (hg z (by omega))) (h.sub [0, 1] (by decide) rfl) (lv_sub hl [1, 2, 3, 0] rfl)
      exact key3 i 0 pd_z H _ ls (by omega) (fun j hj => absurd hj (Nat.not_lt_zero j)) (h.sub [0, 1] (by decide) rfl) (lv_sub hl [2, 3, 1, 0] rfl)
    | succ d ih =>
      intro i g H locs ls hi hg h hl
      refine lv_iload_n hx hb dX1_generator_14 rfl (lv_at hl 3 rfl) ?_
      refine lv_iload_n hx hb dX1_generator_15 rfl (lv_at hl 0 rfl) ?_
      refine pd_icmp_ge (tgt := 87) hx hb (by omega) (by omega) dX1_generator_16 (by decide) (fun c1 => absurd c1 (by omega)) (fun c1 => ?_)
      have hpw := pd_pw_lt i
      have hpw1 := pd_pw_lt (i + 1)
      refine lv_iload_n hx hb dX1_generator_19 rfl (lv_at hl 2 rfl) ?_
      refine lv_iconst (v := (nI 3)) hx hb dX1_generator_20 (by decide) ?_
      refine pd_mul hx hb dX1_generator_21 ?_
      refine lv_sipush (v := (nI 929)) hx hb dX1_generator_22 (by decide) ?_
      refine pd_rem hx hb (by omega) (by omega) (by omega) dX1_generator_25 ?_
      refine pd_top (y := (nI (pd_pw (i + 1)))) rfl ?_
      refine lv_istore_n (lv' := [(2, .int (nI (pd_pw (i + 1)))), (0, .int (nI k)), (1, .ref qa), (3, .int (nI i))]) hx hb dX1_generator_26 rfl hl (by decide) rfl (fun ls hl => ?_)
      refine lv_iload_n hx hb dX1_generator_27 rfl (lv_at hl 3 rfl) ?_
      refine lv_iconst (v := (nI 1)) hx hb dX1_generator_28 (by decide) ?_
      refine pd_add hx hb dX1_generator_29 ?_
      refine lv_istore (lv' := [(4, .int (nI (i + 1))), (2, .int (nI (pd_pw (i + 1)))), (0, .int (nI k)), (1, .ref qa), (3, .int (nI i))]) hx hb dX1_generator_30 hl (by decide) rfl (fun ls hl => ?_)
      rw [← pk_m1 (i + 1)] at hl
      have key2 : ∀ (d2 : Nat) (J : Nat) (f2 : Nat → Nat) (H : Heap) (locs : List Loc) (ls : Array Slot), (J = d2 ∧ J ≤ i + 2) → (∀ x, J ≤ x → x ≤ k → f2 x = pd_pf (i + 1) x) → (∀ x, x < J → f2 x = pd_pf i x) → pd_W G (va_A [] sz) s H locs [(qa, .inl (pd_cI G, k + 1, .inl (fun j => nI (f2 j))))] → lv_has ls 6 [(0, .int (nI k)), (1, .ref qa), (2, .int (nI (pd_pw (i + 1)))), (3, .int (nI i)), (4, .int (nI J + (-1)))] → W p l e ({ frames := 0, cells := 2, slots := (k + 1) + k, locals := 0 } : Room) s m ([.int (nI k)] : List Value).toArray below meth co H locs (0 + 1) (0 + (k + 1)) (MQ below (va_Qr (fun (u : Nat → Nat) => ∀ j, j < k → u j = pd_pf k j) (fun (u : Nat → Nat) (q : Nat) t9 => pd_F G (va_A [] sz) ([(q, .inl (pd_cI G, k, .inl (fun j => nI (u j))))]) t9) (va_A [] sz)) ([.int (nI k)] : List Value).toArray s 2 ((k + 1) + k) (va_A [] sz)) (F0 m 32 ls []) := by
        intro d2
        induction d2 with
        | zero =>
          intro J f2 H locs ls hJ hf1 hf2 h hl
          obtain rfl : J = 0 := by omega
          refine lv_iload hx hb dX1_generator_32 (lv_at hl 4 rfl) ?_
          refine lv_if_lt (tgt := 81) hx hb dX1_generator_34 (by decide) (fun _ => ?_) (fun z => absurd (by decide) z)
          refine lv_iinc (v := (nI (i + 1))) (lv' := [(3, .int (nI (i + 1))), (0, .int (nI k)), (1, .ref qa), (2, .int (nI (pd_pw (i + 1)))), (4, .int (nI 0 + (-1)))]) hx hb dX1_generator_81 hl (k := 3) rfl (by rw [show Int32.ofInt 1 = nI 1 from rfl, nI_add]) (by decide) rfl (fun ls hl => ?_)
          refine lv_goto (tgt := 14) hx hb dX1_generator_84 (by decide) ?_
          exact ih (i + 1) f2 H _ ls (by omega) (fun x hx9 => hf1 x (Nat.zero_le x) hx9) (h.sub [0] (by decide) rfl) (lv_sub hl [1, 2, 3, 0] rfl)
        | succ d2 ih2 =>
          intro J f2 H locs ls hJ hf1 hf2 h hl
          obtain ⟨y, rfl⟩ : ∃ y, J = y + 1 := ⟨J - 1, by omega⟩
          rw [pk_m1 y] at hl
          refine lv_iload hx hb dX1_generator_32 (lv_at hl 4 rfl) ?_
          refine lv_if_lt (tgt := 81) hx hb dX1_generator_34 (by decide) (fun z => absurd z (nI_pos (by omega))) (fun _ => ?_)
          refine lv_iload hx hb dX1_generator_37 (lv_at hl 4 rfl) ?_
          have hfy : f2 y < 929 := by rw [hf2 y (by omega)]; exact pd_pf_lt i y
          have hfz : f2 (y - 1) < 929 := by rw [hf2 (y - 1) (by omega)]; exact pd_pf_lt i (y - 1)
          have hmul : (929 - pd_pw (i + 1)) * f2 y ≤ 929 * 929 := Nat.mul_le_mul (by omega) (by omega)
          refine pd_if_ne (tgt := 46) hx hb (by omega) dX1_generator_39 (by decide) (fun c7 => ?_) (fun c7 => ?_)
          · refine lv_aload_n hx hb dX1_generator_46 rfl (lv_at hl 1 rfl) ?_
            refine lv_iload hx hb dX1_generator_47 (lv_at hl 4 rfl) ?_
            refine lv_iconst (v := (nI 1)) hx hb dX1_generator_49 (by decide) ?_
            refine pd_subI hx hb (by omega) dX1_generator_50 ?_
            refine pd_iald hx hb h 0 rfl (by omega) (by omega) dX1_generator_51 ?_
            refine lv_istore (lv' := [(5, .int (nI (f2 (y - 1)))), (0, .int (nI k)), (1, .ref qa), (2, .int (nI (pd_pw (i + 1)))), (3, .int (nI i)), (4, .int (nI y))]) hx hb dX1_generator_52 hl (by decide) rfl (fun ls hl => ?_)
            refine lv_aload_n hx hb dX1_generator_54 rfl (lv_at hl 2 rfl) ?_
            refine lv_iload hx hb dX1_generator_55 (lv_at hl 5 rfl) ?_
            refine lv_iload hx hb dX1_generator_57 (lv_at hl 0 rfl) ?_
            refine lv_sipush (v := (nI 929)) hx hb dX1_generator_59 (by decide) ?_
            refine lv_iload_n hx hb dX1_generator_62 rfl (lv_at hl 3 rfl) ?_
            refine pd_subI hx hb (by omega) dX1_generator_63 ?_
            refine lv_aload_n hx hb dX1_generator_64 rfl (lv_at hl 2 rfl) ?_
            refine lv_iload hx hb dX1_generator_65 (lv_at hl 5 rfl) ?_
            refine pd_iald hx hb h 0 rfl (by omega) (by omega) dX1_generator_67 ?_
            refine pd_mul hx hb dX1_generator_68 ?_
            refine pd_add hx hb dX1_generator_69 ?_
            refine lv_sipush (v := (nI 929)) hx hb dX1_generator_70 (by decide) ?_
            refine pd_rem hx hb (by omega) (by omega) (by omega) dX1_generator_73 ?_
            refine pd_iast hx hb h 0 rfl (by omega) (by omega) dX1_generator_74 (fun H locs h => ?_)
            have h : pd_W G _ s H locs [(qa, .inl (pd_cI G, k + 1, .inl (fun j => nI ((va_up f2 y (((f2 (y - 1)) + ((929 - (pd_pw (i + 1))) * (f2 y))) % 929)) j))))] := h
            refine lv_iinc (v := nI y + (-1)) (lv' := [(4, .int (nI y + (-1))), (5, .int (nI (f2 (y - 1)))), (0, .int (nI k)), (1, .ref qa), (2, .int (nI (pd_pw (i + 1)))), (3, .int (nI i))]) hx hb dX1_generator_75 hl (k := 5) rfl (by rw [show Int32.ofInt (-1) = -1 from by decide]) (by decide) rfl (fun ls hl => ?_)
            refine lv_goto (tgt := 32) hx hb dX1_generator_78 (by decide) ?_
            have hs := pd_gen_s (v := (f2 (y - 1) + (929 - pd_pw (i + 1)) * f2 y) % 929) hf1 hf2 (by rw [if_neg (by omega)])
            exact ih2 y (va_up f2 y ((f2 (y - 1) + (929 - pd_pw (i + 1)) * f2 y) % 929)) H _ ls (by omega) hs.1 hs.2 (h.sub [0] (by decide) rfl) (lv_sub hl [2, 3, 4, 5, 0] rfl)
          · refine lv_iconst (v := (nI 0)) hx hb dX1_generator_42 (by decide) ?_
            refine lv_goto (tgt := 52) hx hb dX1_generator_43 (by decide) ?_
            refine lv_istore (lv' := [(5, .int (nI 0)), (0, .int (nI k)), (1, .ref qa), (2, .int (nI (pd_pw (i + 1)))), (3, .int (nI i)), (4, .int (nI y))]) hx hb dX1_generator_52 hl (by decide) rfl (fun ls hl => ?_)
            refine lv_aload_n hx hb dX1_generator_54 rfl (lv_at hl 2 rfl) ?_
            refine lv_iload hx hb dX1_generator_55 (lv_at hl 5 rfl) ?_
            refine lv_iload hx hb dX1_generator_57 (lv_at hl 0 rfl) ?_
            refine lv_sipush (v := (nI 929)) hx hb dX1_generator_59 (by decide) ?_
            refine lv_iload_n hx hb dX1_generator_62 rfl (lv_at hl 3 rfl) ?_
            refine pd_subI hx hb (by omega) dX1_generator_63 ?_
            refine lv_aload_n hx hb dX1_generator_64 rfl (lv_at hl 2 rfl) ?_
            refine lv_iload hx hb dX1_generator_65 (lv_at hl 5 rfl) ?_
            refine pd_iald hx hb h 0 rfl (by omega) (by omega) dX1_generator_67 ?_
            refine pd_mul hx hb dX1_generator_68 ?_
            refine pd_add hx hb dX1_generator_69 ?_
            refine lv_sipush (v := (nI 929)) hx hb dX1_generator_70 (by decide) ?_
            refine pd_rem hx hb (by omega) (by omega) (by omega) dX1_generator_73 ?_
            refine pd_iast hx hb h 0 rfl (by omega) (by omega) dX1_generator_74 (fun H locs h => ?_)
            have h : pd_W G _ s H locs [(qa, .inl (pd_cI G, k + 1, .inl (fun j => nI ((va_up f2 y ((0 + ((929 - (pd_pw (i + 1))) * (f2 y))) % 929)) j))))] := h
            refine lv_iinc (v := nI y + (-1)) (lv' := [(4, .int (nI y + (-1))), (5, .int (nI 0)), (0, .int (nI k)), (1, .ref qa), (2, .int (nI (pd_pw (i + 1)))), (3, .int (nI i))]) hx hb dX1_generator_75 hl (k := 5) rfl (by rw [show Int32.ofInt (-1) = -1 from by decide]) (by decide) rfl (fun ls hl => ?_)
            refine lv_goto (tgt := 32) hx hb dX1_generator_78 (by decide) ?_
            have hs := pd_gen_s (v := (0 + (929 - pd_pw (i + 1)) * f2 y) % 929) hf1 hf2 (by rw [if_pos c7])
            exact ih2 y (va_up f2 y ((0 + (929 - pd_pw (i + 1)) * f2 y) % 929)) H _ ls (by omega) hs.1 hs.2 (h.sub [0] (by decide) rfl) (lv_sub hl [2, 3, 4, 5, 0] rfl)
      exact key2 (i + 1 + 1) (i + 1 + 1) g H _ ls ⟨rfl, Nat.le_refl _⟩ (pd_gen_0 hg) (fun x hx9 => hg x (by omega)) (h.sub [0] (by decide) rfl) (lv_sub hl [2, 3, 1, 4, 0] rfl)
  exact key k 0 (va_up pd_z 0 1) H _ ls (by omega) (fun x _ => by by_cases e : x = 0; subst e; rfl; rw [va_up_ne _ _ e]; show 0 = (if x = 0 then 1 else 0); rw [if_neg e]) (h.sub [0] (by decide) rfl) (lv_sub hl [3, 2, 1, 0] rfl)
set_option maxHeartbeats 4000000 in
set_option maxRecDepth 100000 in
theorem met_mma (l : Launch) (G : pd_G) (h0 v tl n : Nat) (w : Nat → Nat) (x : Int32) (sz : Nat) (hn : n ≤ 64) (hw : ∀ j, w j < 929) : Met l yX1_make (ws_ yX1_make cX1_make 9 (some .int)) ({ frames := 1, cells := 4, slots := (2 ^ (pd_lo x + 1)) * 4 + 65, locals := 25 } : Room) (va_Pc [.ref h0, .int (x)] (pd_B G sz [(h0, .inr (1, [.ref v, .int (nI n), .ref tl])), (v, .inl (pd_cI G, 64, .inl (fun j => nI (w j))))])) (va_Qi (fun (r : Int32) (u : Nat × (Nat → Nat)) => r = nI (2 ^ (pd_lo x + 1)) ∧ ∀ q, q < (2 ^ (pd_lo x + 1)) → u.2 q = pd_out (2 ^ (pd_lo x + 1)) w n q) (fun (u : Nat × (Nat → Nat)) t9 => pd_F G (va_A [(h0, .inr (1, [.ref v, .int (nI n), .ref tl])), (v, .inl (pd_cI G, 64, .inl (fun j => nI (w j))))] sz) ([(h0, .inr (1, [.ref v, .int (nI n), .ref u.1])), (v, .inl (pd_cI G, 64, .inl (fun j => nI (w j)))), (u.1, .inl (pd_cI G, (2 ^ (pd_lo x + 1)), .inl (fun j => nI (u.2 j))))]) t9) (va_A [(h0, .inr (1, [.ref v, .int (nI n), .ref tl])), (v, .inl (pd_cI G, 64, .inl (fun j => nI (w j))))] sz)) 4 ((2 ^ (pd_lo x + 1)) * 4 + 65) (va_A [(h0, .inr (1, [.ref v, .int (nI n), .ref tl])), (v, .inl (pd_cI G, 64, .inl (fun j => nI (w j))))] sz) := by
  refine pd_start (by decide) (Nat.le_of_ble_eq_true rfl) ?_
  intro p e s m below meth co ls H locs ⟨hx, hb, hml, hown, hts⟩ hr hlk hnm hsz h hl
  have hown : s.vm.findClass RX1 = some m.cls := hown
  have hl : lv_has ls 9 [(0, .ref h0), (1, .int (x))] := hl
  have hK8 := pd_pow8 (pd_lo_lt x)
  have hK0 : 0 < 2 ^ (pd_lo x + 1) := Nat.two_pow_pos _
  refine lv_aload_n hx hb dX1_make_0 rfl (lv_at hl 0 rfl) ?_
  refine lv_iload_n hx hb dX1_make_1 rfl (lv_at hl 1 rfl) ?_
  refine pd_goi (wc := [(h0, .inr (1, [.ref v, .int (nI n), .ref tl]))]) (wr := [(v, .inl (pd_cI G, 64, .inl (fun j => nI (w j))))]) h (va_runV (As := [.int (x)]) (rest := []) ⟨hx, hb, hml, hown, hts⟩ (met_mco l G h0 v tl n x H.size) (cwV 1 hts (lw_V q431 q424 q425 q3 q426) rfl rfl rfl (by decide +kernel) ⟨Nat.le_of_ble_eq_true rfl, Nat.le_of_ble_eq_true rfl⟩) ⟨pd_blind, pd_recv h 0 rfl rfl, pd_pre h [0] (by decide) rfl⟩ rfl rfl hl.1 rfl (lv_room (Nat.le_of_ble_eq_true rfl)) dX1_make_2 ⟨(by first | omega | (dsimp only; omega)), (by first | omega | (dsimp only; omega))⟩) [0] [1] rfl rfl (by decide) (by decide) (fun r1 u H locs hp h => ?_)
  have h : pd_W G _ s H locs [(v, .inl (pd_cI G, 64, .inl (fun j => nI (w j)))), (h0, .inr (1, [.ref v, .int (nI n), .ref tl]))] := h
  obtain rfl : r1 = (nI (2 ^ (pd_lo x + 1))) := hp
  generalize hKe : 2 ^ (pd_lo x + 1) = K at hK8 hK0 hl ⊢
  refine lv_istore_n (lv' := [(2, .int (nI K)), (0, .ref h0), (1, .int (x))]) hx hb dX1_make_5 rfl hl (by decide) rfl (fun ls hl => ?_)
  refine lv_iload_n hx hb dX1_make_6 rfl (lv_at hl 0 rfl) ?_
  refine pd_gor (wc := []) (wr := [(v, .inl (pd_cI G, 64, .inl (fun j => nI (w j)))), (h0, .inr (1, [.ref v, .int (nI n), .ref tl]))]) h (va_runS (As := [.int (nI K)]) (rest := []) ⟨hx, hb, hml, hown, hts⟩ (met_mge l G K H.size hK8) (va_cwS 1 hts (lw_S q432 q433 q3 q434) rfl rfl rfl (by decide +kernel) ⟨Nat.le_of_ble_eq_true rfl, Nat.le_of_ble_eq_true rfl⟩) ⟨pd_blind, pd_pre h [] (by decide) rfl⟩ rfl rfl hl.1 rfl (lv_room (Nat.le_of_ble_eq_true rfl)) dX1_make_7 ⟨(by first | omega | (dsimp only; omega)), (by first | omega | (dsimp only; omega))⟩) [] [0, 1] rfl rfl (by decide) (by decide) (fun y qg H locs hy h => ?_)
  have h : pd_W G _ s H locs [(v, .inl (pd_cI G, 64, .inl (fun j => nI (w j)))), (h0, .inr (1, [.ref v, .int (nI n), .ref tl])), (qg, .inl (pd_cI G, K, .inl (fun j => nI (y j))))] := h
  refine lv_astore_n (lv' := [(3, .ref qg), (2, .int (nI K)), (0, .ref h0), (1, .int (x))]) hx hb dX1_make_10 rfl hl (by decide) rfl (fun ls hl => ?_)
  refine lv_aload_n hx hb dX1_make_11 rfl (lv_at hl 2 rfl) ?_
  refine va_get (D := pd_D G) (ci := 1) (v := .int (nI n)) (C := RX1) (T := TX1) (N := 3) hx hb hts in_X1 hown h.1 h.2.2.2.1 1 rfl rfl 1 (by decide) (hts _ q401) (fun _ h9 => h9) rfl dX1_make_12 ?_
  refine lv_iload_n hx hb dX1_make_15 rfl (lv_at hl 1 rfl) ?_
  refine pd_add hx hb dX1_make_16 ?_
  refine pd_newI hx hb hts h (by omega) (by first | omega | (dsimp only; omega)) (by first | omega | (dsimp only; omega)) dX1_make_17 (fun qr H h => ?_)
  have h : pd_W G _ s H locs [(v, .inl (pd_cI G, 64, .inl (fun j => nI (w j)))), (h0, .inr (1, [.ref v, .int (nI n), .ref tl])), (qg, .inl (pd_cI G, K, .inl (fun j => nI (y j)))), (qr, .inl (pd_cI G, n + K, .inl (fun j => nI (pd_z j))))] := h
  refine lv_astore (lv' := [(4, .ref qr), (3, .ref qg), (2, .int (nI K)), (0, .ref h0), (1, .int (x))]) hx hb dX1_make_19 hl (by decide) rfl (fun ls hl => ?_)
  refine lv_iconst (v := (nI 0)) hx hb dX1_make_21 (by decide) ?_
  refine lv_istore (lv' := [(5, .int (nI 0)), (4, .ref qr), (3, .ref qg), (2, .int (nI K)), (0, .ref h0), (1, .int (x))]) hx hb dX1_make_22 hl (by decide) rfl (fun ls hl => ?_)
  have key : ∀ (d : Nat) (i : Nat) (f : Nat → Nat) (H : Heap) (locs : List Loc) (ls : Array Slot), i + d = n → (∀ z, z < i → f z = w z) → (∀ z, i ≤ z → f z = 0) → pd_W G (va_A [(h0, .inr (1, [.ref v, .int (nI n), .ref tl])), (v, .inl (pd_cI G, 64, .inl (fun j => nI (w j))))] sz) s H locs [(h0, .inr (1, [.ref v, .int (nI n), .ref tl])), (v, .inl (pd_cI G, 64, .inl (fun j => nI (w j)))), (qg, .inl (pd_cI G, K, .inl (fun j => nI (y j)))), (qr, .inl (pd_cI G, n + K, .inl (fun j => nI (f j))))] → lv_has ls 9 [(0, .ref h0), (1, .int (x)), (2, .int (nI K)), (3, .ref qg), (4, .ref qr), (5, .int (nI i))] → W p l e ({ frames := 1, cells := 4, slots := K * 4 + 65, locals := 25 } : Room) s m ([.ref h0, .int (x)] : List Value).toArray below meth co H locs (0 + 0 + 2 + 1) (0 + 0 + ((K + 1) + K) + (n + K)) (MQ below (va_Qi (fun (r : Int32) (u : Nat × (Nat → Nat)) => r = nI K ∧ ∀ q, q < K → u.2 q = pd_out K w n q) (fun (u : Nat × (Nat → Nat)) t9 => pd_F G (va_A [(h0, .inr (1, [.ref v, .int (nI n), .ref tl])), (v, .inl (pd_cI G, 64, .inl (fun j => nI (w j))))] sz) ([(h0, .inr (1, [.ref v, .int (nI n), .ref u.1])), (v, .inl (pd_cI G, 64, .inl (fun j => nI (w j)))), (u.1, .inl (pd_cI G, K, .inl (fun j => nI (u.2 j))))]) t9) (va_A [(h0, .inr (1, [.ref v, .int (nI n), .ref tl])), (v, .inl (pd_cI G, 64, .inl (fun j => nI (w j))))] sz)) ([.ref h0, .int (x)] : List Value).toArray s 4 (K * 4 + 65) (va_A [(h0, .inr (1, [.ref v, .int (nI n), .ref tl])), (v, .inl (pd_cI G, 64, .inl (fun j => nI (w j))))] sz)) (F0 m 24 ls []) := by
    intro d
    induction d with
    | zero =>
      intro i f H locs ls hi hf1 hf2 h hl
      refine lv_iload hx hb dX1_make_24 (lv_at hl 5 rfl) ?_
      refine lv_aload_n hx hb dX1_make_26 rfl (lv_at hl 0 rfl) ?_
      refine va_get (D := pd_D G) (ci := 1) (v := .int (nI n)) (C := RX1) (T := TX1) (N := 3) hx hb hts in_X1 hown h.1 h.2.2.2.1 0 rfl rfl 1 (by decide) (hts _ q401) (fun _ h9 => h9) rfl dX1_make_27 ?_
      refine pd_icmp_ge (tgt := 51) hx hb (by omega) (by omega) dX1_make_30 (by decide) (fun c1 => ?_) (fun c1 => absurd c1 (by omega))
      obtain rfl : i = n := by omega
      have hl : lv_has ls 9 [(0, .ref h0), (1, .int (x)), (2, .int (nI K)), (3, .ref qg), (4, .ref qr), (5, .int (nI i))] := by assumption
      have h : pd_W G (va_A [(h0, .inr (1, [.ref v, .int (nI i), .ref tl])), (v, .inl (pd_cI G, 64, .inl (fun j => nI (w j))))] sz) s H locs [(h0, .inr (1, [.ref v, .int (nI i), .ref tl])), (v, .inl (pd_cI G, 64, .inl (fun j => nI (w j)))), (qg, .inl (pd_cI G, K, .inl (fun j => nI (y j)))), (qr, .inl (pd_cI G, i + K, .inl (fun j => nI (f j))))] := by assumption
      refine lv_iconst (v := (nI 0)) hx hb dX1_make_51 (by decide) ?_
      refine lv_istore (lv' := [(5, .int (nI 0)), (0, .ref h0), (1, .int (x)), (2, .int (nI K)), (3, .ref qg), (4, .ref qr)]) hx hb dX1_make_52 hl (by decide) rfl (fun ls hl => ?_)
      have key2 : ∀ (d2 : Nat) (a : Nat) (fd : Nat → Nat) (H : Heap) (locs : List Loc) (ls : Array Slot), a + d2 = i → (∀ z, a ≤ z → z < i + K → fd z = pd_row K w i a z) → pd_W G (va_A [(h0, .inr (1, [.ref v, .int (nI i), .ref tl])), (v, .inl (pd_cI G, 64, .inl (fun j => nI (w j))))] sz) s H locs [(h0, .inr (1, [.ref v, .int (nI i), .ref tl])), (v, .inl (pd_cI G, 64, .inl (fun j => nI (w j)))), (qg, .inl (pd_cI G, K, .inl (fun j => nI (y j)))), (qr, .inl (pd_cI G, i + K, .inl (fun j => nI (fd j))))] → lv_has ls 9 [(0, .ref h0), (1, .int (x)), (2, .int (nI K)), (3, .ref qg), (4, .ref qr), (5, .int (nI a))] → W p l e ({ frames := 1, cells := 4, slots := K * 4 + 65, locals := 25 } : Room) s m ([.ref h0, .int (x)] : List Value).toArray below meth co H locs (0 + 0 + 2 + 1) (0 + 0 + ((K + 1) + K) + (i + K)) (MQ below (va_Qi (fun (r : Int32) (u : Nat × (Nat → Nat)) => r = nI K ∧ ∀ q, q < K → u.2 q = pd_out K w i q) (fun (u : Nat × (Nat → Nat)) t9 => pd_F G (va_A [(h0, .inr (1, [.ref v, .int (nI i), .ref tl])), (v, .inl (pd_cI G, 64, .inl (fun j => nI (w j))))] sz) ([(h0, .inr (1, [.ref v, .int (nI i), .ref u.1])), (v, .inl (pd_cI G, 64, .inl (fun j => nI (w j)))), (u.1, .inl (pd_cI G, K, .inl (fun j => nI (u.2 j))))]) t9) (va_A [(h0, .inr (1, [.ref v, .int (nI i), .ref tl])), (v, .inl (pd_cI G, 64, .inl (fun j => nI (w j))))] sz)) ([.ref h0, .int (x)] : List Value).toArray s 4 (K * 4 + 65) (va_A [(h0, .inr (1, [.ref v, .int (nI i), .ref tl])), (v, .inl (pd_cI G, 64, .inl (fun j => nI (w j))))] sz)) (F0 m 54 ls []) := by
        intro d2
        induction d2 with
        | zero =>
          intro a fd H locs ls ha hfd h hl
          refine lv_iload hx hb dX1_make_54 (lv_at hl 5 rfl) ?_
          refine lv_aload_n hx hb dX1_make_56 rfl (lv_at hl 0 rfl) ?_
          refine va_get (D := pd_D G) (ci := 1) (v := .int (nI i)) (C := RX1) (T := TX1) (N := 3) hx hb hts in_X1 hown h.1 h.2.2.2.1 0 rfl rfl 1 (by decide) (hts _ q401) (fun _ h9 => h9) rfl dX1_make_57 ?_
          refine pd_icmp_ge (tgt := 139) hx hb (by omega) (by omega) dX1_make_60 (by decide) (fun c1 => ?_) (fun c1 => absurd c1 (by omega))
          obtain rfl : a = i := by omega
          have hl : lv_has ls 9 [(0, .ref h0), (1, .int (x)), (2, .int (nI K)), (3, .ref qg), (4, .ref qr), (5, .int (nI a))] := by assumption
          have h : pd_W G (va_A [(h0, .inr (1, [.ref v, .int (nI a), .ref tl])), (v, .inl (pd_cI G, 64, .inl (fun j => nI (w j))))] sz) s H locs [(h0, .inr (1, [.ref v, .int (nI a), .ref tl])), (v, .inl (pd_cI G, 64, .inl (fun j => nI (w j)))), (qg, .inl (pd_cI G, K, .inl (fun j => nI (y j)))), (qr, .inl (pd_cI G, a + K, .inl (fun j => nI (fd j))))] := by assumption
          refine lv_aload_n hx hb dX1_make_139 rfl (lv_at hl 0 rfl) ?_
          refine lv_iload_n hx hb dX1_make_140 rfl (lv_at hl 2 rfl) ?_
          refine pd_newI hx hb hts h (by omega) (by first | omega | (dsimp only; omega)) (by first | omega | (dsimp only; omega)) dX1_make_141 (fun qt H h => ?_)
          have h : pd_W G _ s H locs [(h0, .inr (1, [.ref v, .int (nI a), .ref tl])), (v, .inl (pd_cI G, 64, .inl (fun j => nI (w j)))), (qg, .inl (pd_cI G, K, .inl (fun j => nI (y j)))), (qr, .inl (pd_cI G, a + K, .inl (fun j => nI (fd j)))), (qt, .inl (pd_cI G, K, .inl (fun j => nI (pd_z j))))] := h
          refine pd_put (ci := 1) (v := .ref qt) (ty := .array .int) (C := RX1) (T := TX1) (N := 3) hx hb hts hown h in_X1 tyX1 tyX1_ok nmX1 0 rfl rfl 2 (by decide) (hts _ q402) (fun _ h9 => h9) rfl (by decide +kernel) rfl rfl (Nat.le_of_ble_eq_true rfl) dX1_make_143 (fun H locs h => ?_)
          have h : pd_W G _ s H locs [(h0, .inr (1, [.ref v, .int (nI a), .ref qt])), (v, .inl (pd_cI G, 64, .inl (fun j => nI (w j)))), (qg, .inl (pd_cI G, K, .inl (fun j => nI (y j)))), (qr, .inl (pd_cI G, a + K, .inl (fun j => nI (fd j)))), (qt, .inl (pd_cI G, K, .inl (fun j => nI (pd_z j))))] := h
          refine lv_iconst (v := (nI 0)) hx hb dX1_make_146 (by decide) ?_
          refine lv_istore (lv' := [(5, .int (nI 0)), (0, .ref h0), (1, .int (x)), (2, .int (nI K)), (3, .ref qg), (4, .ref qr)]) hx hb dX1_make_147 hl (by decide) rfl (fun ls hl => ?_)
          have key4 : ∀ (d4 : Nat) (b : Nat) (ft : Nat → Nat) (H : Heap) (locs : List Loc) (ls : Array Slot), b + d4 = K → (∀ q, q < b → ft q = pd_out K w a q) → pd_W G (va_A [(h0, .inr (1, [.ref v, .int (nI a), .ref tl])), (v, .inl (pd_cI G, 64, .inl (fun j => nI (w j))))] sz) s H locs [(h0, .inr (1, [.ref v, .int (nI a), .ref qt])), (v, .inl (pd_cI G, 64, .inl (fun j => nI (w j)))), (qr, .inl (pd_cI G, a + K, .inl (fun j => nI (fd j)))), (qt, .inl (pd_cI G, K, .inl (fun j => nI (ft j))))] → lv_has ls 9 [(0, .ref h0), (1, .int (x)), (2, .int (nI K)), (4, .ref qr), (5, .int (nI b))] → W p l e ({ frames := 1, cells := 4, slots := K * 4 + 65, locals := 25 } : Room) s m ([.ref h0, .int (x)] : List Value).toArray below meth co H locs (0 + 0 + 2 + 1 + 1) (0 + 0 + ((K + 1) + K) + (a + K) + K) (MQ below (va_Qi (fun (r : Int32) (u : Nat × (Nat → Nat)) => r = nI K ∧ ∀ q, q < K → u.2 q = pd_out K w a q) (fun (u : Nat × (Nat → Nat)) t9 => pd_F G (va_A [(h0, .inr (1, [.ref v, .int (nI a), .ref tl])), (v, .inl (pd_cI G, 64, .inl (fun j => nI (w j))))] sz) ([(h0, .inr (1, [.ref v, .int (nI a), .ref u.1])), (v, .inl (pd_cI G, 64, .inl (fun j => nI (w j)))), (u.1, .inl (pd_cI G, K, .inl (fun j => nI (u.2 j))))]) t9) (va_A [(h0, .inr (1, [.ref v, .int (nI a), .ref tl])), (v, .inl (pd_cI G, 64, .inl (fun j => nI (w j))))] sz)) ([.ref h0, .int (x)] : List Value).toArray s 4 (K * 4 + 65) (va_A [(h0, .inr (1, [.ref v, .int (nI a), .ref tl])), (v, .inl (pd_cI G, 64, .inl (fun j => nI (w j))))] sz)) (F0 m 149 ls []) := by
            intro d4
            induction d4 with
            | zero =>
              intro b ft H locs ls hb9 hft h hl
              refine lv_iload hx hb dX1_make_149 (lv_at hl 4 rfl) ?_
              refine lv_iload_n hx hb dX1_make_151 rfl (lv_at hl 2 rfl) ?_
              refine pd_icmp_ge (tgt := 186) hx hb (by omega) (by omega) dX1_make_152 (by decide) (fun c1 => ?_) (fun c1 => absurd c1 (by omega))
              refine lv_iload_n hx hb dX1_make_186 rfl (lv_at hl 2 rfl) ?_
              have hK9 := hKe
              exact pd_iret hx hb hr hlk h (qt, ft) [0, 1, 3] (by decide) rfl ⟨rfl, fun q hq => hft q (by omega)⟩ (by first | omega | (dsimp only; omega)) (by first | omega | (dsimp only; omega)) dX1_make_187
            | succ d4 ih4 =>
              intro b ft H locs ls hb9 hft h hl
              refine lv_iload hx hb dX1_make_149 (lv_at hl 4 rfl) ?_
              refine lv_iload_n hx hb dX1_make_151 rfl (lv_at hl 2 rfl) ?_
              refine pd_icmp_ge (tgt := 186) hx hb (by omega) (by omega) dX1_make_152 (by decide) (fun c1 => absurd c1 (by omega)) (fun c1 => ?_)
              have hfb : fd (a + b) = pd_e K w a (K - 1 - b) := by rw [hfd (a + b) (by omega) (by omega)]; exact pd_row_end (by omega)
              have hfl := pd_e_lt K w a (K - 1 - b)
              refine lv_aload_n hx hb dX1_make_155 rfl (lv_at hl 0 rfl) ?_
              refine va_get (D := pd_D G) (ci := 1) (v := .ref qt) (C := RX1) (T := TX1) (N := 3) hx hb hts in_X1 hown h.1 h.2.2.2.1 0 rfl rfl 2 (by decide) (hts _ q402) (fun _ h9 => h9) rfl dX1_make_156 ?_
              refine lv_iload hx hb dX1_make_159 (lv_at hl 4 rfl) ?_
              refine lv_sipush (v := (nI 929)) hx hb dX1_make_161 (by decide) ?_
              refine lv_aload hx hb dX1_make_164 (lv_at hl 3 rfl) ?_
              refine lv_aload_n hx hb dX1_make_166 rfl (lv_at hl 0 rfl) ?_
              refine va_get (D := pd_D G) (ci := 1) (v := .int (nI a)) (C := RX1) (T := TX1) (N := 3) hx hb hts in_X1 hown h.1 h.2.2.2.1 0 rfl rfl 1 (by decide) (hts _ q401) (fun _ h9 => h9) rfl dX1_make_167 ?_
              refine lv_iload hx hb dX1_make_170 (lv_at hl 4 rfl) ?_
              refine pd_add hx hb dX1_make_172 ?_
              refine pd_iald hx hb h 2 rfl (by omega) (by omega) dX1_make_173 ?_
              refine pd_subI hx hb (by omega) dX1_make_174 ?_
              refine lv_sipush (v := (nI 929)) hx hb dX1_make_175 (by decide) ?_
              refine pd_rem hx hb (by omega) (by omega) (by omega) dX1_make_178 ?_
              refine pd_iast hx hb h 3 rfl (by omega) (by omega) dX1_make_179 (fun H locs h => ?_)
              have h : pd_W G _ s H locs [(h0, .inr (1, [.ref v, .int (nI a), .ref qt])), (v, .inl (pd_cI G, 64, .inl (fun j => nI (w j)))), (qr, .inl (pd_cI G, a + K, .inl (fun j => nI (fd j)))), (qt, .inl (pd_cI G, K, .inl (fun j => nI ((va_up ft b ((929 - (fd (a + b))) % 929)) j))))] := h
              refine lv_iinc (v := (nI (b + 1))) (lv' := [(5, .int (nI (b + 1))), (0, .ref h0), (1, .int (x)), (2, .int (nI K)), (4, .ref qr)]) hx hb dX1_make_180 hl (k := 4) rfl (by rw [show Int32.ofInt 1 = nI 1 from rfl, nI_add]) (by decide) rfl (fun ls hl => ?_)
              refine lv_goto (tgt := 149) hx hb dX1_make_183 (by decide) ?_
              exact ih4 (b + 1) (va_up ft b ((929 - fd (a + b)) % 929)) H _ ls (by omega) (pd_fill (t := fun q => pd_out K w a q) hft (by rw [hfb]; rfl)) (h.sub [0, 1, 2, 3] (by decide) rfl) (lv_sub hl [1, 2, 3, 4, 0] rfl)
          exact key4 K 0 pd_z H _ ls (by omega) (fun q hq => absurd hq (Nat.not_lt_zero q)) (h.sub [0, 1, 3, 4] (by decide) rfl) (lv_sub hl [1, 2, 3, 5, 0] rfl)
        | succ d2 ih2 =>
          intro a fd H locs ls ha hfd h hl
          refine lv_iload hx hb dX1_make_54 (lv_at hl 5 rfl) ?_
          refine lv_aload_n hx hb dX1_make_56 rfl (lv_at hl 0 rfl) ?_
          refine va_get (D := pd_D G) (ci := 1) (v := .int (nI i)) (C := RX1) (T := TX1) (N := 3) hx hb hts in_X1 hown h.1 h.2.2.2.1 0 rfl rfl 1 (by decide) (hts _ q401) (fun _ h9 => h9) rfl dX1_make_57 ?_
          refine pd_icmp_ge (tgt := 139) hx hb (by omega) (by omega) dX1_make_60 (by decide) (fun c1 => absurd c1 (by omega)) (fun c1 => ?_)
          refine lv_aload hx hb dX1_make_63 (lv_at hl 4 rfl) ?_
          refine lv_iload hx hb dX1_make_65 (lv_at hl 5 rfl) ?_
          refine pd_iald hx hb h 3 rfl (by omega) (by omega) dX1_make_67 ?_
          have hfa := hfd a (Nat.le_refl a) (by omega)
          have hfal : fd a < 929 := by rw [hfa]; exact pd_row_lt hw
          refine lv_istore (lv' := [(6, .int (nI (fd a))), (0, .ref h0), (1, .int (x)), (2, .int (nI K)), (3, .ref qg), (4, .ref qr), (5, .int (nI a))]) hx hb dX1_make_68 hl (by decide) rfl (fun ls hl => ?_)
          refine lv_iconst (v := (nI 1)) hx hb dX1_make_70 (by decide) ?_
          refine lv_istore (lv' := [(7, .int (nI 1)), (6, .int (nI (fd a))), (0, .ref h0), (1, .int (x)), (2, .int (nI K)), (3, .ref qg), (4, .ref qr), (5, .int (nI a))]) hx hb dX1_make_71 hl (by decide) rfl (fun ls hl => ?_)
          have key3 : ∀ (d3 : Nat) (c9 : Nat) (fi : Nat → Nat) (H : Heap) (locs : List Loc) (ls : Array Slot), c9 + d3 = K + 1 → 1 ≤ c9 → (∀ x, a < x → x < a + c9 → fi x = pd_row K w i (a + 1) x) → (∀ x, a + c9 ≤ x → x < i + K → fi x = pd_row K w i a x) → pd_W G (va_A [(h0, .inr (1, [.ref v, .int (nI i), .ref tl])), (v, .inl (pd_cI G, 64, .inl (fun j => nI (w j))))] sz) s H locs [(h0, .inr (1, [.ref v, .int (nI i), .ref tl])), (v, .inl (pd_cI G, 64, .inl (fun j => nI (w j)))), (qg, .inl (pd_cI G, K, .inl (fun j => nI (y j)))), (qr, .inl (pd_cI G, i + K, .inl (fun j => nI (fi j))))] → lv_has ls 9 [(0, .ref h0), (1, .int (x)), (2, .int (nI K)), (3, .ref qg), (4, .ref qr), (5, .int (nI a)), (6, .int (nI (fd a))), (7, .int (nI c9))] → W p l e ({ frames := 1, cells := 4, slots := K * 4 + 65, locals := 25 } : Room) s m ([.ref h0, .int (x)] : List Value).toArray below meth co H locs (0 + 0 + 2 + 1) (0 + 0 + ((K + 1) + K) + (i + K)) (MQ below (va_Qi (fun (r : Int32) (u : Nat × (Nat → Nat)) => r = nI K ∧ ∀ q, q < K → u.2 q = pd_out K w i q) (fun (u : Nat × (Nat → Nat)) t9 => pd_F G (va_A [(h0, .inr (1, [.ref v, .int (nI i), .ref tl])), (v, .inl (pd_cI G, 64, .inl (fun j => nI (w j))))] sz) ([(h0, .inr (1, [.ref v, .int (nI i), .ref u.1])), (v, .inl (pd_cI G, 64, .inl (fun j => nI (w j)))), (u.1, .inl (pd_cI G, K, .inl (fun j => nI (u.2 j))))]) t9) (va_A [(h0, .inr (1, [.ref v, .int (nI i), .ref tl])), (v, .inl (pd_cI G, 64, .inl (fun j => nI (w j))))] sz)) ([.ref h0, .int (x)] : List Value).toArray s 4 (K * 4 + 65) (va_A [(h0, .inr (1, [.ref v, .int (nI i), .ref tl])), (v, .inl (pd_cI G, 64, .inl (fun j => nI (w j))))] sz)) (F0 m 73 ls []) := by
            intro d3
            induction d3 with
            | zero =>
              intro c9 fi H locs ls hc9 hc1 hfi1 hfi2 h hl
              obtain rfl : c9 = K + 1 := by omega
              refine lv_iload hx hb dX1_make_73 (lv_at hl 7 rfl) ?_
              refine lv_iload_n hx hb dX1_make_75 rfl (lv_at hl 2 rfl) ?_
              refine pd_icmp_gt (tgt := 127) hx hb (by omega) (by omega) dX1_make_76 (by decide) (fun c1 => ?_) (fun c1 => absurd c1 (by omega))
              refine lv_aload hx hb dX1_make_127 (lv_at hl 4 rfl) ?_
              refine lv_iload hx hb dX1_make_129 (lv_at hl 5 rfl) ?_
              refine lv_iconst (v := (nI 0)) hx hb dX1_make_131 (by decide) ?_
              refine pd_iast hx hb h 3 rfl (by omega) (by omega) dX1_make_132 (fun H locs h => ?_)
              have h : pd_W G _ s H locs [(h0, .inr (1, [.ref v, .int (nI i), .ref tl])), (v, .inl (pd_cI G, 64, .inl (fun j => nI (w j)))), (qg, .inl (pd_cI G, K, .inl (fun j => nI (y j)))), (qr, .inl (pd_cI G, i + K, .inl (fun j => nI ((va_up fi a 0) j))))] := h
              refine lv_iinc (v := (nI (a + 1))) (lv' := [(5, .int (nI (a + 1))), (0, .ref h0), (1, .int (x)), (2, .int (nI K)), (3, .ref qg), (4, .ref qr), (6, .int (nI (fd a))), (7, .int (nI (K + 1)))]) hx hb dX1_make_133 hl (k := 5) rfl (by rw [show Int32.ofInt 1 = nI 1 from rfl, nI_add]) (by decide) rfl (fun ls hl => ?_)
              refine lv_goto (tgt := 54) hx hb dX1_make_136 (by decide) ?_
              exact ih2 (a + 1) (va_up fi a 0) H _ ls (by omega) (pd_div_e hfi1 hfi2) (h.sub [0, 1, 2, 3] (by decide) rfl) (lv_sub hl [1, 2, 3, 4, 5, 0] rfl)
            | succ d3 ih3 =>
              intro c9 fi H locs ls hc9 hc1 hfi1 hfi2 h hl
              refine lv_iload hx hb dX1_make_73 (lv_at hl 7 rfl) ?_
              refine lv_iload_n hx hb dX1_make_75 rfl (lv_at hl 2 rfl) ?_
              refine pd_icmp_gt (tgt := 127) hx hb (by omega) (by omega) dX1_make_76 (by decide) (fun c1 => absurd c1 (by omega)) (fun c1 => ?_)
              have hy9 : y (K - c9) < 929 := by rw [hy (K - c9) (by omega)]; exact pd_pf_lt K _
              have hmul : fd a * y (K - c9) ≤ 929 * 929 := Nat.mul_le_mul (by omega) (by omega)
              have hfc := hfi2 (a + c9) (Nat.le_refl _) (by omega)
              have hfcl : fi (a + c9) < 929 := by rw [hfc]; exact pd_row_lt hw
              refine lv_iload hx hb dX1_make_79 (lv_at hl 6 rfl) ?_
              refine lv_aload_n hx hb dX1_make_81 rfl (lv_at hl 3 rfl) ?_
              refine lv_iload_n hx hb dX1_make_82 rfl (lv_at hl 2 rfl) ?_
              refine lv_iload hx hb dX1_make_83 (lv_at hl 7 rfl) ?_
              refine pd_subI hx hb (by omega) dX1_make_85 ?_
              refine pd_iald hx hb h 2 rfl (by omega) (by omega) dX1_make_86 ?_
              refine pd_mul hx hb dX1_make_87 ?_
              refine lv_sipush (v := (nI 929)) hx hb dX1_make_88 (by decide) ?_
              refine pd_rem hx hb (by omega) (by omega) (by omega) dX1_make_91 ?_
              refine lv_istore (lv' := [(8, .int (nI (((fd a) * (y (K - c9))) % 929))), (0, .ref h0), (1, .int (x)), (2, .int (nI K)), (3, .ref qg), (4, .ref qr), (5, .int (nI a)), (6, .int (nI (fd a))), (7, .int (nI c9))]) hx hb dX1_make_92 hl (by decide) rfl (fun ls hl => ?_)
              have hq9 : fd a * y (K - c9) % 929 < 929 := Nat.mod_lt _ (by decide)
              refine lv_aload hx hb dX1_make_94 (lv_at hl 5 rfl) ?_
              refine lv_iload hx hb dX1_make_96 (lv_at hl 6 rfl) ?_
              refine lv_iload hx hb dX1_make_98 (lv_at hl 8 rfl) ?_
              refine pd_add hx hb dX1_make_100 ?_
              refine lv_aload hx hb dX1_make_101 (lv_at hl 5 rfl) ?_
              refine lv_iload hx hb dX1_make_103 (lv_at hl 6 rfl) ?_
              refine lv_iload hx hb dX1_make_105 (lv_at hl 8 rfl) ?_
              refine pd_add hx hb dX1_make_107 ?_
              refine pd_iald hx hb h 3 rfl (by omega) (by omega) dX1_make_108 ?_
              refine lv_sipush (v := (nI 929)) hx hb dX1_make_109 (by decide) ?_
              refine pd_add hx hb dX1_make_112 ?_
              refine lv_iload hx hb dX1_make_113 (lv_at hl 0 rfl) ?_
              refine pd_subI hx hb (by omega) dX1_make_115 ?_
              refine lv_sipush (v := (nI 929)) hx hb dX1_make_116 (by decide) ?_
              refine pd_rem hx hb (by omega) (by omega) (by omega) dX1_make_119 ?_
              refine pd_iast hx hb h 3 rfl (by omega) (by omega) dX1_make_120 (fun H locs h => ?_)
              have h : pd_W G _ s H locs [(h0, .inr (1, [.ref v, .int (nI i), .ref tl])), (v, .inl (pd_cI G, 64, .inl (fun j => nI (w j)))), (qg, .inl (pd_cI G, K, .inl (fun j => nI (y j)))), (qr, .inl (pd_cI G, i + K, .inl (fun j => nI ((va_up fi (a + c9) ((((fi (a + c9)) + 929) - (((fd a) * (y (K - c9))) % 929)) % 929)) j))))] := h
              refine lv_iinc (v := (nI (c9 + 1))) (lv' := [(7, .int (nI (c9 + 1))), (8, .int (nI (((fd a) * (y (K - c9))) % 929))), (0, .ref h0), (1, .int (x)), (2, .int (nI K)), (3, .ref qg), (4, .ref qr), (5, .int (nI a)), (6, .int (nI (fd a)))]) hx hb dX1_make_121 hl (k := 8) rfl (by rw [show Int32.ofInt 1 = nI 1 from rfl, nI_add]) (by decide) rfl (fun ls hl => ?_)
              refine lv_goto (tgt := 73) hx hb dX1_make_124 (by decide) ?_
              have hs := pd_div_s (v := (fi (a + c9) + 929 - fd a * y (K - c9) % 929) % 929) hw (by omega) hc1 (by omega) hfi1 hfi2 (by rw [hfc, hfa, hy (K - c9) (by omega)])
              exact ih3 (c9 + 1) (va_up fi (a + c9) ((fi (a + c9) + 929 - fd a * y (K - c9) % 929) % 929)) H _ ls (by omega) (by omega) hs.1 hs.2 (h.sub [0, 1, 2, 3] (by decide) rfl) (lv_sub hl [2, 3, 4, 5, 6, 7, 8, 0] rfl)
          exact key3 K 1 fd H _ ls (by omega) (Nat.le_refl 1) (fun z h1 h2 => absurd h1 (by omega)) (fun z h1 h2 => hfd z (by omega) h2) (h.sub [0, 1, 2, 3] (by decide) rfl) (lv_sub hl [2, 3, 4, 5, 6, 7, 1, 0] rfl)
      exact key2 i 0 f H _ ls (by omega) (fun z _ hz => by rw [pd_row_0 hw]; by_cases e : z < i; rw [if_pos e]; exact hf1 z e; rw [if_neg e]; exact hf2 z (by omega)) (h.sub [0, 1, 2, 3] (by decide) rfl) (lv_sub hl [1, 2, 3, 4, 5, 0] rfl)
    | succ d ih =>
      intro i f H locs ls hi hf1 hf2 h hl
      refine lv_iload hx hb dX1_make_24 (lv_at hl 5 rfl) ?_
      refine lv_aload_n hx hb dX1_make_26 rfl (lv_at hl 0 rfl) ?_
      refine va_get (D := pd_D G) (ci := 1) (v := .int (nI n)) (C := RX1) (T := TX1) (N := 3) hx hb hts in_X1 hown h.1 h.2.2.2.1 0 rfl rfl 1 (by decide) (hts _ q401) (fun _ h9 => h9) rfl dX1_make_27 ?_
      refine pd_icmp_ge (tgt := 51) hx hb (by omega) (by omega) dX1_make_30 (by decide) (fun c1 => absurd c1 (by omega)) (fun c1 => ?_)
      refine lv_aload hx hb dX1_make_33 (lv_at hl 4 rfl) ?_
      refine lv_iload hx hb dX1_make_35 (lv_at hl 5 rfl) ?_
      refine lv_aload_n hx hb dX1_make_37 rfl (lv_at hl 0 rfl) ?_
      refine va_get (D := pd_D G) (ci := 1) (v := .ref v) (C := RX1) (T := TX1) (N := 3) hx hb hts in_X1 hown h.1 h.2.2.2.1 0 rfl rfl 0 (by decide) (hts _ q400) (fun _ h9 => h9) rfl dX1_make_38 ?_
      refine lv_iload hx hb dX1_make_41 (lv_at hl 5 rfl) ?_
      refine pd_iald hx hb h 1 rfl (by omega) (by omega) dX1_make_43 ?_
      refine pd_iast hx hb h 3 rfl (by omega) (by omega) dX1_make_44 (fun H locs h => ?_)
      have h : pd_W G _ s H locs [(h0, .inr (1, [.ref v, .int (nI n), .ref tl])), (v, .inl (pd_cI G, 64, .inl (fun j => nI (w j)))), (qg, .inl (pd_cI G, K, .inl (fun j => nI (y j)))), (qr, .inl (pd_cI G, n + K, .inl (fun j => nI ((va_up f i (w i)) j))))] := h
      refine lv_iinc (v := (nI (i + 1))) (lv' := [(5, .int (nI (i + 1))), (0, .ref h0), (1, .int (x)), (2, .int (nI K)), (3, .ref qg), (4, .ref qr)]) hx hb dX1_make_45 hl (k := 5) rfl (by rw [show Int32.ofInt 1 = nI 1 from rfl, nI_add]) (by decide) rfl (fun ls hl => ?_)
      refine lv_goto (tgt := 24) hx hb dX1_make_48 (by decide) ?_
      exact ih (i + 1) (va_up f i (w i)) H _ ls (by omega) (pd_fill hf1 rfl) (fun z hz => by rw [va_up_ne _ _ (by omega)]; exact hf2 z (by omega)) (h.sub [0, 1, 2, 3] (by decide) rfl) (lv_sub hl [1, 2, 3, 4, 5, 0] rfl)
  exact key n 0 pd_z H _ ls (by omega) (fun z hz => absurd hz (Nat.not_lt_zero z)) (fun z _ => rfl) (h.sub [1, 0, 2, 3] (by decide) rfl) (lv_sub hl [4, 5, 3, 2, 1, 0] rfl)
set_option maxHeartbeats 4000000 in
set_option maxRecDepth 100000 in
theorem met_mt0 (l : Launch) (G : pd_G) (h0 v tl n : Nat) (t : Nat → Nat) (x : Int32) (sz : Nat) : Met l yX1_told (ws_ yX1_told cX1_told 2 (some .int)) ({ frames := 1, cells := 0, slots := 0, locals := 20 } : Room) (va_Pc [.ref h0, .int (x)] (pd_B G sz [(h0, .inr (1, [.ref v, .int (nI n), .ref tl])), (tl, .inl (pd_cI G, 0, .inl (fun j => nI (t j))))])) (va_Qi (fun (r : Int32) (u : Unit) => r = -1) (fun (u : Unit) t9 => pd_F G (va_A [(h0, .inr (1, [.ref v, .int (nI n), .ref tl])), (tl, .inl (pd_cI G, 0, .inl (fun j => nI (t j))))] sz) ([(h0, .inr (1, [.ref v, .int (nI n), .ref tl])), (tl, .inl (pd_cI G, 0, .inl (fun j => nI (t j))))]) t9) (va_A [(h0, .inr (1, [.ref v, .int (nI n), .ref tl])), (tl, .inl (pd_cI G, 0, .inl (fun j => nI (t j))))] sz)) 0 0 (va_A [(h0, .inr (1, [.ref v, .int (nI n), .ref tl])), (tl, .inl (pd_cI G, 0, .inl (fun j => nI (t j))))] sz) := by
  refine pd_start (by decide) (Nat.le_of_ble_eq_true rfl) ?_
  intro p e s m below meth co ls H locs ⟨hx, hb, hml, hown, hts⟩ hr hlk hnm hsz h hl
  have hown : s.vm.findClass RX1 = some m.cls := hown
  have hl : lv_has ls 2 [(0, .ref h0), (1, .int (x))] := hl
  refine lv_aload_n hx hb dX1_told_0 rfl (lv_at hl 0 rfl) ?_
  refine va_get (D := pd_D G) (ci := 1) (v := .ref tl) (C := RX1) (T := TX1) (N := 3) hx hb hts in_X1 hown h.1 h.2.2.2.1 0 rfl rfl 2 (by decide) (hts _ q402) (fun _ h9 => h9) rfl dX1_told_1 ?_
  refine pd_alenI hx hb h 1 rfl dX1_told_4 ?_
  refine pd_if_ne (tgt := 12) hx hb (by omega) dX1_told_5 (by decide) (fun c1 => absurd c1 (by omega)) (fun c1 => ?_)
  refine lv_iconst (v := (-1)) hx hb dX1_told_8 (by decide) ?_
  refine lv_goto (tgt := 27) hx hb dX1_told_9 (by decide) ?_
  exact pd_iret hx hb hr hlk h () [0, 1] (by decide) rfl rfl (by first | omega | (dsimp only; omega)) (by first | omega | (dsimp only; omega)) dX1_told_27
set_option maxHeartbeats 4000000 in
set_option maxRecDepth 100000 in
theorem met_mt1 (l : Launch) (G : pd_G) (h0 v tl n L : Nat) (t : Nat → Nat) (x : Int32) (sz : Nat) (hL : 0 < L) (hL2 : L < 65536) : Met l yX1_told (ws_ yX1_told cX1_told 2 (some .int)) ({ frames := 1, cells := 0, slots := 0, locals := 20 } : Room) (va_Pc [.ref h0, .int (x)] (pd_B G sz [(h0, .inr (1, [.ref v, .int (nI n), .ref tl])), (tl, .inl (pd_cI G, L, .inl (fun j => nI (t j))))])) (va_Qi (fun (r : Int32) (u : Unit) => r = nI (t (pd_pl x % L))) (fun (u : Unit) t9 => pd_F G (va_A [(h0, .inr (1, [.ref v, .int (nI n), .ref tl])), (tl, .inl (pd_cI G, L, .inl (fun j => nI (t j))))] sz) ([(h0, .inr (1, [.ref v, .int (nI n), .ref tl])), (tl, .inl (pd_cI G, L, .inl (fun j => nI (t j))))]) t9) (va_A [(h0, .inr (1, [.ref v, .int (nI n), .ref tl])), (tl, .inl (pd_cI G, L, .inl (fun j => nI (t j))))] sz)) 0 0 (va_A [(h0, .inr (1, [.ref v, .int (nI n), .ref tl])), (tl, .inl (pd_cI G, L, .inl (fun j => nI (t j))))] sz) := by
  refine pd_start (by decide) (Nat.le_of_ble_eq_true rfl) ?_
  intro p e s m below meth co ls H locs ⟨hx, hb, hml, hown, hts⟩ hr hlk hnm hsz h hl
  have hown : s.vm.findClass RX1 = some m.cls := hown
  have hl : lv_has ls 2 [(0, .ref h0), (1, .int (x))] := hl
  refine lv_aload_n hx hb dX1_told_0 rfl (lv_at hl 0 rfl) ?_
  refine va_get (D := pd_D G) (ci := 1) (v := .ref tl) (C := RX1) (T := TX1) (N := 3) hx hb hts in_X1 hown h.1 h.2.2.2.1 0 rfl rfl 2 (by decide) (hts _ q402) (fun _ h9 => h9) rfl dX1_told_1 ?_
  refine pd_alenI hx hb h 1 rfl dX1_told_4 ?_
  refine pd_if_ne (tgt := 12) hx hb (by omega) dX1_told_5 (by decide) (fun c1 => ?_) (fun c1 => absurd c1 (by omega))
  refine lv_aload_n hx hb dX1_told_12 rfl (lv_at hl 0 rfl) ?_
  refine va_get (D := pd_D G) (ci := 1) (v := .ref tl) (C := RX1) (T := TX1) (N := 3) hx hb hts in_X1 hown h.1 h.2.2.2.1 0 rfl rfl 2 (by decide) (hts _ q402) (fun _ h9 => h9) rfl dX1_told_13 ?_
  refine lv_iload_n hx hb dX1_told_16 rfl (lv_at hl 1 rfl) ?_
  refine pd_goi (wc := []) (wr := [(h0, .inr (1, [.ref v, .int (nI n), .ref tl])), (tl, .inl (pd_cI G, L, .inl (fun j => nI (t j))))]) h (va_runS (As := [.int (x)]) (rest := [.ref tl]) ⟨hx, hb, hml, hown, hts⟩ (met_mpl l G x H.size) (va_cwS 1 hts (lw_S q415 q416 q3 q417) rfl rfl rfl (by decide +kernel) ⟨Nat.le_of_ble_eq_true rfl, Nat.le_of_ble_eq_true rfl⟩) ⟨pd_blind, pd_pre h [] (by decide) rfl⟩ rfl rfl hl.1 rfl (lv_room (Nat.le_of_ble_eq_true rfl)) dX1_told_17 ⟨(by first | omega | (dsimp only; omega)), (by first | omega | (dsimp only; omega))⟩) [] [0, 1] rfl rfl (by decide) (by decide) (fun r1 u H locs hp h => ?_)
  have h : pd_W G _ s H locs [(h0, .inr (1, [.ref v, .int (nI n), .ref tl])), (tl, .inl (pd_cI G, L, .inl (fun j => nI (t j))))] := h
  obtain rfl : r1 = (nI (pd_pl x)) := hp
  have hpa := pd_pl_lt x
  have hml9 : pd_pl x % L < L := Nat.mod_lt _ hL
  refine lv_aload_n hx hb dX1_told_20 rfl (lv_at hl 0 rfl) ?_
  refine va_get (D := pd_D G) (ci := 1) (v := .ref tl) (C := RX1) (T := TX1) (N := 3) hx hb hts in_X1 hown h.1 h.2.2.2.1 0 rfl rfl 2 (by decide) (hts _ q402) (fun _ h9 => h9) rfl dX1_told_21 ?_
  refine pd_alenI hx hb h 1 rfl dX1_told_24 ?_
  refine pd_rem hx hb (by omega) (by omega) (by omega) dX1_told_25 ?_
  refine pd_iald hx hb h 1 rfl (by omega) (by omega) dX1_told_26 ?_
  exact pd_iret hx hb hr hlk h () [0, 1] (by decide) rfl rfl (by first | omega | (dsimp only; omega)) (by first | omega | (dsimp only; omega)) dX1_told_27
end
section
/-! PDF417ErrorCorrection -/
set_option maxRecDepth 100000
set_option maxHeartbeats 4000000 in
set_option maxRecDepth 100000 in
theorem met_gco (l : Launch) (G : pd_G) (z : Nat) (sz : Nat) (hz : z < 8) : Met l yX2_getErrorCorrectionCodewordCount (ws_ yX2_getErrorCorrectionCodewordCount cX2_getErrorCorrectionCodewordCount 1 (some .int)) ({ frames := 0, cells := 0, slots := 0, locals := 0 } : Room) (va_Pc [.int (nI z)] (pd_B G sz [])) (va_Qi (fun (r : Int32) (u : Unit) => r = nI (2 ^ (z + 1))) (fun (u : Unit) t9 => pd_F G (va_A [] sz) ([]) t9) (va_A [] sz)) 0 0 (va_A [] sz) := by
  refine pd_start (by decide) (Nat.le_of_ble_eq_true rfl) ?_
  intro p e s m below meth co ls H locs ⟨hx, hb, hml, hown, hts⟩ hr hlk hnm hsz h hl
  have hown : s.vm.findClass RX2 = some m.cls := hown
  have hl : lv_has ls 1 [(0, .int (nI z))] := hl
  refine lv_iload_n hx hb dX2_getErrorCorrectionCodewordCount_0 rfl (lv_at hl 0 rfl) ?_
  refine lv_if_lt (tgt := 10) hx hb dX2_getErrorCorrectionCodewordCount_1 (by decide) (fun z => absurd z (nI_pos (by omega))) (fun _ => ?_)
  refine lv_iload_n hx hb dX2_getErrorCorrectionCodewordCount_4 rfl (lv_at hl 0 rfl) ?_
  refine lv_bipush (v := (nI 8)) hx hb dX2_getErrorCorrectionCodewordCount_5 (by decide) ?_
  refine pd_icmp_le (tgt := 20) hx hb (by omega) (by omega) dX2_getErrorCorrectionCodewordCount_7 (by decide) (fun c1 => ?_) (fun c1 => absurd c1 (by omega))
  refine lv_iconst (v := (nI 1)) hx hb dX2_getErrorCorrectionCodewordCount_20 (by decide) ?_
  refine lv_iload_n hx hb dX2_getErrorCorrectionCodewordCount_21 rfl (lv_at hl 0 rfl) ?_
  refine lv_iconst (v := (nI 1)) hx hb dX2_getErrorCorrectionCodewordCount_22 (by decide) ?_
  refine pd_add hx hb dX2_getErrorCorrectionCodewordCount_23 ?_
  refine lv_ishl hx hb dX2_getErrorCorrectionCodewordCount_24 ?_
  refine pd_top (y := nI (2 ^ (z + 1))) (pd_one_shl z hz) ?_
  exact pd_iret hx hb hr hlk h () [] (by decide) rfl rfl (by first | omega | (dsimp only; omega)) (by first | omega | (dsimp only; omega)) dX2_getErrorCorrectionCodewordCount_25
set_option maxHeartbeats 4000000 in
set_option maxRecDepth 100000 in
theorem met_gen (l : Launch) (G : pd_G) (h0 v cd nb n z : Nat) (f0 w : Nat → Nat) (sz : Nat) (hz : z < 8) (hn : n ≤ 64) (hst : pd_st cd nb f0 n w) (hw : ∀ j, w j < 929) : Met l yX2_generateErrorCorrection (ws_ yX2_generateErrorCorrection cX2_generateErrorCorrection 10 (some (.object "java/lang/String"))) ({ frames := 8, cells := 6, slots := (2 ^ (z + 1)) * 6 + 8, locals := 179 } : Room) (va_Pc [.ref h0, .int (nI z)] (pd_B G sz [(h0, .inr (2, [.ref v, .int (nI cd), .int (0), .int (0)])), (v, .inl (pd_cB G, nb, .inl (fun j => sb_b (f0 j))))])) (va_Qr (fun (u : Nat × Nat × Nat × (Nat → Nat)) => pd_st u.2.1 u.2.2.1 u.2.2.2 (2 ^ (z + 1)) (fun q => pd_out (2 ^ (z + 1)) w n q)) (fun (u : Nat × Nat × Nat × (Nat → Nat)) (q : Nat) t9 => pd_F G (va_A [(h0, .inr (2, [.ref v, .int (nI cd), .int (0), .int (0)])), (v, .inl (pd_cB G, nb, .inl (fun j => sb_b (f0 j))))] sz) ([(q, .inr (2, [.ref u.1, .int (nI u.2.1), .int (0), .int (0)])), (u.1, .inl (pd_cB G, u.2.2.1, .inl (fun j => sb_b (u.2.2.2 j))))]) t9) (va_A [(h0, .inr (2, [.ref v, .int (nI cd), .int (0), .int (0)])), (v, .inl (pd_cB G, nb, .inl (fun j => sb_b (f0 j))))] sz)) 6 ((2 ^ (z + 1)) * 6 + 8) (va_A [(h0, .inr (2, [.ref v, .int (nI cd), .int (0), .int (0)])), (v, .inl (pd_cB G, nb, .inl (fun j => sb_b (f0 j))))] sz) := by
  refine pd_start (by decide) (Nat.le_of_ble_eq_true rfl) ?_
  intro p e s m below meth co ls H locs ⟨hx, hb, hml, hown, hts⟩ hr hlk hnm hsz h hl
  have hown : s.vm.findClass RX2 = some m.cls := hown
  have hl : lv_has ls 10 [(0, .ref h0), (1, .int (nI z))] := hl
  have hK8 := pd_pow8 hz
  have hK0 : 2 ≤ 2 ^ (z + 1) := Nat.le_trans (by decide) (show 2 ^ 1 ≤ 2 ^ (z + 1) from Nat.pow_le_pow_right (n := 2) (by decide) (Nat.le_add_left 1 z))
  refine lv_iload_n hx hb dX2_generateErrorCorrection_0 rfl (lv_at hl 1 rfl) ?_
  refine pd_goi (wc := []) (wr := [(h0, .inr (2, [.ref v, .int (nI cd), .int (0), .int (0)])), (v, .inl (pd_cB G, nb, .inl (fun j => sb_b (f0 j))))]) h (va_runS (As := [.int (nI z)]) (rest := []) ⟨hx, hb, hml, hown, hts⟩ (met_gco l G z H.size hz) (va_cwS 1 hts (lw_S q132 q133 q7 q134) rfl rfl rfl (by decide +kernel) ⟨Nat.le_of_ble_eq_true rfl, Nat.le_of_ble_eq_true rfl⟩) ⟨pd_blind, pd_pre h [] (by decide) rfl⟩ rfl rfl hl.1 rfl (lv_room (Nat.le_of_ble_eq_true rfl)) dX2_generateErrorCorrection_1 ⟨(by first | omega | (dsimp only; omega)), (by first | omega | (dsimp only; omega))⟩) [] [0, 1] rfl rfl (by decide) (by decide) (fun r1 u H locs hp h => ?_)
  have h : pd_W G _ s H locs [(h0, .inr (2, [.ref v, .int (nI cd), .int (0), .int (0)])), (v, .inl (pd_cB G, nb, .inl (fun j => sb_b (f0 j))))] := h
  obtain rfl : r1 = (nI (2 ^ (z + 1))) := hp
  have hcf : ∀ j, pd_coef z j = pd_pf (2 ^ (z + 1)) j := fun j => rfl
  generalize hKe : 2 ^ (z + 1) = K at hK8 hK0 hcf hl ⊢
  refine lv_istore_n (lv' := [(2, .int (nI K)), (0, .ref h0), (1, .int (nI z))]) hx hb dX2_generateErrorCorrection_4 rfl hl (by decide) rfl (fun ls hl => ?_)
  refine lv_iload_n hx hb dX2_generateErrorCorrection_5 rfl (lv_at hl 0 rfl) ?_
  refine pd_newC hx hb hts h (by omega) (by first | omega | (dsimp only; omega)) (by first | omega | (dsimp only; omega)) dX2_generateErrorCorrection_6 (fun qe H h => ?_)
  have h : pd_W G _ s H locs [(h0, .inr (2, [.ref v, .int (nI cd), .int (0), .int (0)])), (v, .inl (pd_cB G, nb, .inl (fun j => sb_b (f0 j)))), (qe, .inl (pd_cC G, K, .inl (fun j => nI (pd_z j))))] := h
  refine lv_astore_n (lv' := [(3, .ref qe), (2, .int (nI K)), (0, .ref h0), (1, .int (nI z))]) hx hb dX2_generateErrorCorrection_8 rfl hl (by decide) rfl (fun ls hl => ?_)
  refine lv_aload_n hx hb dX2_generateErrorCorrection_9 rfl (lv_at hl 2 rfl) ?_
  refine pd_goFi (wc := [(h0, .inr (2, [.ref v, .int (nI cd), .int (0), .int (0)])), (v, .inl (pd_cB G, nb, .inl (fun j => sb_b (f0 j))))]) (wr := [(qe, .inl (pd_cC G, K, .inl (fun j => nI (pd_z j))))]) h (va_runF (As := []) (rest := []) (h.1.1 2 _ rfl).2 ⟨hx, hb, hml, hown, hts⟩ (met_sle l G h0 v cd nb n f0 w H.size (by omega) hst) (va_cwF 0 hts (lw_F q201 q205 q207 q4 q209) rfl rfl rfl h.2.1.2.2.2.2.2.2.2.2.2.2.2.1 (by decide +kernel) ⟨Nat.le_of_ble_eq_true rfl, Nat.le_of_ble_eq_true rfl⟩) ⟨pd_blind, pd_recv h 0 rfl rfl, pd_pre h [0, 1] (by decide) rfl⟩ rfl rfl hl.1 rfl (lv_room (Nat.le_of_ble_eq_true rfl)) dX2_generateErrorCorrection_10 ⟨(by first | omega | (dsimp only; omega)), (by first | omega | (dsimp only; omega))⟩) [0, 1] [2] rfl rfl (by decide) (by decide) (fun r3 u H locs hp h => ?_)
  have h : pd_W G _ s H locs [(qe, .inl (pd_cC G, K, .inl (fun j => nI (pd_z j)))), (h0, .inr (2, [.ref v, .int (nI cd), .int (0), .int (0)])), (v, .inl (pd_cB G, nb, .inl (fun j => sb_b (f0 j))))] := h
  obtain rfl : r3 = (nI n) := hp
  refine lv_istore (lv' := [(4, .int (nI n)), (3, .ref qe), (2, .int (nI K)), (0, .ref h0), (1, .int (nI z))]) hx hb dX2_generateErrorCorrection_15 hl (by decide) rfl (fun ls hl => ?_)
  refine lv_iconst (v := (nI 0)) hx hb dX2_generateErrorCorrection_17 (by decide) ?_
  refine lv_istore (lv' := [(5, .int (nI 0)), (4, .int (nI n)), (3, .ref qe), (2, .int (nI K)), (0, .ref h0), (1, .int (nI z))]) hx hb dX2_generateErrorCorrection_18 hl (by decide) rfl (fun ls hl => ?_)
  have key : ∀ (d : Nat) (i : Nat) (g : Nat → Nat) (H : Heap) (locs : List Loc) (ls : Array Slot), i + d = n → (∀ x, x < K → g x = pd_e K w i x) → pd_W G (va_A [(h0, .inr (2, [.ref v, .int (nI cd), .int (0), .int (0)])), (v, .inl (pd_cB G, nb, .inl (fun j => sb_b (f0 j))))] sz) s H locs [(h0, .inr (2, [.ref v, .int (nI cd), .int (0), .int (0)])), (v, .inl (pd_cB G, nb, .inl (fun j => sb_b (f0 j)))), (qe, .inl (pd_cC G, K, .inl (fun j => nI (g j))))] → lv_has ls 10 [(0, .ref h0), (1, .int (nI z)), (2, .int (nI K)), (3, .ref qe), (4, .int (nI n)), (5, .int (nI i))] → W p l e ({ frames := 8, cells := 6, slots := K * 6 + 8, locals := 179 } : Room) s m ([.ref h0, .int (nI z)] : List Value).toArray below meth co H locs (0 + 0 + 1 + 0) (0 + 0 + K + 0) (MQ below (va_Qr (fun (u : Nat × Nat × Nat × (Nat → Nat)) => pd_st u.2.1 u.2.2.1 u.2.2.2 K (fun q => pd_out K w n q)) (fun (u : Nat × Nat × Nat × (Nat → Nat)) (q : Nat) t9 => pd_F G (va_A [(h0, .inr (2, [.ref v, .int (nI cd), .int (0), .int (0)])), (v, .inl (pd_cB G, nb, .inl (fun j => sb_b (f0 j))))] sz) ([(q, .inr (2, [.ref u.1, .int (nI u.2.1), .int (0), .int (0)])), (u.1, .inl (pd_cB G, u.2.2.1, .inl (fun j => sb_b (u.2.2.2 j))))]) t9) (va_A [(h0, .inr (2, [.ref v, .int (nI cd), .int (0), .int (0)])), (v, .inl (pd_cB G, nb, .inl (fun j => sb_b (f0 j))))] sz)) ([.ref h0, .int (nI z)] : List Value).toArray s 6 (K * 6 + 8) (va_A [(h0, .inr (2, [.ref v, .int (nI cd), .int (0), .int (0)])), (v, .inl (pd_cB G, nb, .inl (fun j => sb_b (f0 j))))] sz)) (F0 m 20 ls []) := by
    intro d
    induction d with
    | zero =>
      intro i g H locs ls hi hg h hl
      obtain rfl : n = i := by omega
      refine lv_iload hx hb dX2_generateErrorCorrection_20 (lv_at hl 5 rfl) ?_
      refine lv_iload hx hb dX2_generateErrorCorrection_22 (lv_at hl 4 rfl) ?_
      refine pd_icmp_ge (tgt := 148) hx hb (by omega) (by omega) dX2_generateErrorCorrection_24 (by decide) (fun c1 => ?_) (fun c1 => absurd c1 (by omega))
      have hge : ∀ x, x < K → g x = pd_e K w n x := hg
      have h : pd_W G (va_A [(h0, .inr (2, [.ref v, .int (nI cd), .int (0), .int (0)])), (v, .inl (pd_cB G, nb, .inl (fun j => sb_b (f0 j))))] sz) s H locs [(qe, .inl (pd_cC G, K, .inl (fun j => nI (g j))))] := h.sub [2] (by decide) rfl
      refine pd_new (ci := 3) (fs := [.null, .int (0), .int (0), .int (0)]) (C := RJ10) (T := TJ10) (N := 4) hx hb hts hown h in_J10 tyJ10 tyJ10_ok (hts _ q268) (hts _ q269) (hts _ q15) rfl (fun j hj => by rcases (show j = 0 ∨ j = 1 ∨ j = 2 ∨ j = 3 by omega) with rfl | rfl | rfl | rfl <;> rfl) (by first | omega | (dsimp only; omega)) (by first | omega | (dsimp only; omega)) dX2_generateErrorCorrection_148 (fun qs H h => ?_)
      have h : pd_W G _ s H locs [(qe, .inl (pd_cC G, K, .inl (fun j => nI (g j)))), (qs, .inr (3, [.null, .int (0), .int (0), .int (0)]))] := h
      refine lv_dup hx hb dX2_generateErrorCorrection_151 rfl ?_
      refine lv_iload_n hx hb dX2_generateErrorCorrection_152 rfl (lv_at hl 2 rfl) ?_
      refine pd_gov (wc := [(qs, .inr (3, [.null, .int (0), .int (0), .int (nI 0)]))]) (wr := [(qe, .inl (pd_cC G, K, .inl (fun j => nI (g j))))]) h (va_runI (As := [.int (nI K)]) (rest := [.ref qs]) ⟨hx, hb, hml, hown, hts⟩ (met_sin l G qs K H.size (by omega)) (cwI 1 hts (lw_meth q272) rfl rfl rfl (hts _ q15) (hts _ q270) (hts _ q271) rfl (by decide +kernel) ⟨Nat.le_of_ble_eq_true rfl, Nat.le_of_ble_eq_true rfl⟩) ⟨pd_blind, pd_pre h [1] (by decide) rfl⟩ rfl rfl hl.1 rfl (lv_room (Nat.le_of_ble_eq_true rfl)) dX2_generateErrorCorrection_153 ⟨(by first | omega | (dsimp only; omega)), (by first | omega | (dsimp only; omega))⟩) [1] [0] rfl rfl (by decide) (by decide) (fun qb H locs hp h => ?_)
      have h : pd_W G _ s H locs [(qe, .inl (pd_cC G, K, .inl (fun j => nI (g j)))), (qs, .inr (3, [.ref qb, .int (nI 0), .int (0), .int (nI 0)])), (qb, .inl (pd_cB G, K, .inl (fun j => sb_b (pd_z j))))] := h
      refine lv_astore (lv' := [(5, .ref qs), (0, .ref h0), (1, .int (nI z)), (2, .int (nI K)), (3, .ref qe), (4, .int (nI n))]) hx hb dX2_generateErrorCorrection_156 hl (by decide) rfl (fun ls hl => ?_)
      refine lv_iload_n hx hb dX2_generateErrorCorrection_158 rfl (lv_at hl 3 rfl) ?_
      refine lv_iconst (v := (nI 1)) hx hb dX2_generateErrorCorrection_159 (by decide) ?_
      refine pd_subI hx hb (by omega) dX2_generateErrorCorrection_160 ?_
      refine lv_istore (lv' := [(6, .int (nI (K - 1))), (5, .ref qs), (0, .ref h0), (1, .int (nI z)), (2, .int (nI K)), (3, .ref qe), (4, .int (nI n))]) hx hb dX2_generateErrorCorrection_161 hl (by decide) rfl (fun ls hl => ?_)
      rw [show nI (K - 1) = nI K + (-1) from by rw [← pk_m1 (K - 1), show K - 1 + 1 = K by omega]] at hl
      have keyU : ∀ (dU : Nat) (c : Nat) (qu : Nat) (f : Nat → Nat) (g : Nat → Nat) (H : Heap) (locs : List Loc) (ls : Array Slot), c + dU = K → (∀ x, x < dU → f x = pd_e K w n x) → (∀ j, j < c → pd_out K w n j < 65536 ∧ g (2 * j) = pd_out K w n j % 256 ∧ g (2 * j + 1) = pd_out K w n j / 256) → pd_W G (va_A [(h0, .inr (2, [.ref v, .int (nI cd), .int (0), .int (0)])), (v, .inl (pd_cB G, nb, .inl (fun j => sb_b (f0 j))))] sz) s H locs [(qe, .inl (pd_cC G, K, .inl (fun j => nI (f j)))), (qs, .inr (3, [.ref qu, .int (nI 1), .int (0), .int (nI c)])), (qu, .inl (pd_cB G, K * 2, .inl (fun j => sb_b (g j))))] → lv_has ls 10 [(2, .int (nI K)), (3, .ref qe), (5, .ref qs), (6, .int (nI dU + (-1)))] → W p l e ({ frames := 8, cells := 6, slots := K * 6 + 8, locals := 179 } : Room) s m ([.ref h0, .int (nI z)] : List Value).toArray below meth co H locs (0 + 0 + 1 + 0 + 1 + 1 + 1) (0 + 0 + K + 0 + 4 + K + K * 2) (MQ below (va_Qr (fun (u : Nat × Nat × Nat × (Nat → Nat)) => pd_st u.2.1 u.2.2.1 u.2.2.2 K (fun q => pd_out K w n q)) (fun (u : Nat × Nat × Nat × (Nat → Nat)) (q : Nat) t9 => pd_F G (va_A [(h0, .inr (2, [.ref v, .int (nI cd), .int (0), .int (0)])), (v, .inl (pd_cB G, nb, .inl (fun j => sb_b (f0 j))))] sz) ([(q, .inr (2, [.ref u.1, .int (nI u.2.1), .int (0), .int (0)])), (u.1, .inl (pd_cB G, u.2.2.1, .inl (fun j => sb_b (u.2.2.2 j))))]) t9) (va_A [(h0, .inr (2, [.ref v, .int (nI cd), .int (0), .int (0)])), (v, .inl (pd_cB G, nb, .inl (fun j => sb_b (f0 j))))] sz)) ([.ref h0, .int (nI z)] : List Value).toArray s 6 (K * 6 + 8) (va_A [(h0, .inr (2, [.ref v, .int (nI cd), .int (0), .int (0)])), (v, .inl (pd_cB G, nb, .inl (fun j => sb_b (f0 j))))] sz)) (F0 m 163 ls []) := by
        intro dU
        induction dU with
        | zero =>
          intro c qu f g H locs ls hc hf hg h hl
          obtain rfl : K = c := by omega
          refine lv_iload hx hb dX2_generateErrorCorrection_163 (lv_at hl 3 rfl) ?_
          refine lv_if_lt (tgt := 204) hx hb dX2_generateErrorCorrection_165 (by decide) (fun _ => ?_) (fun z => absurd (by decide) z)
          refine lv_aload hx hb dX2_generateErrorCorrection_204 (lv_at hl 2 rfl) ?_
          refine pd_gor (wc := [(qs, .inr (3, [.ref qu, .int (nI 1), .int (0), .int (nI K)])), (qu, .inl (pd_cB G, K * 2, .inl (fun j => sb_b (g j))))]) (wr := [(qe, .inl (pd_cC G, K, .inl (fun j => nI (f j))))]) h (va_runV (As := []) (rest := []) ⟨hx, hb, hml, hown, hts⟩ (met_sts l G qs qu 1 (K * 2) K g (fun q => pd_out K w n q) H.size (by omega) (Or.inr ⟨rfl, by omega, hg⟩)) (cwV 0 hts (lw_V q352 q353 q354 q15 q355) rfl rfl rfl (by decide +kernel) ⟨Nat.le_of_ble_eq_true rfl, Nat.le_of_ble_eq_true rfl⟩) ⟨pd_blind, pd_recv h 1 rfl rfl, pd_pre h [1, 2] (by decide) rfl⟩ rfl rfl hl.1 rfl (lv_room (Nat.le_of_ble_eq_true rfl)) dX2_generateErrorCorrection_206 ⟨(by first | omega | (dsimp only; omega)), (by first | omega | (dsimp only; omega))⟩) [1, 2] [0] rfl rfl (by decide) (by decide) (fun uo qo H locs hp h => ?_)
          have h : pd_W G _ s H locs [(qe, .inl (pd_cC G, K, .inl (fun j => nI (f j)))), (qo, .inr (2, [.ref uo, .int (nI 1), .int (0), .int (0)])), (uo, .inl (pd_cB G, K * 2, .inl (fun j => sb_b (g j))))] := h
          exact pd_aret hx hb hr (Or.inl ⟨_, rfl⟩) hlk h (uo, 1, K * 2, g) [1, 2] (by decide) rfl (Or.inr ⟨rfl, by show K * 2 = 2 * K; omega, hg⟩) (by first | omega | (dsimp only; omega)) (by first | omega | (dsimp only; omega)) dX2_generateErrorCorrection_209
        | succ dU ihU =>
          intro c qu f g H locs ls hc hf hg h hl
          rw [pk_m1 dU] at hl
          have hfd : f dU = pd_e K w n dU := hf dU (Nat.lt_succ_self _)
          have hfl := pd_e_lt K w n dU
          obtain ⟨X, hX⟩ : ∃ X, X = pd_out K w n c := ⟨_, rfl⟩
          have hXl : X < 929 := by rw [hX]; exact pd_out_lt K w n c
          have hXe : X = (929 - f dU) % 929 := by rw [hX, hfd]; unfold pd_out; rw [show K - 1 - c = dU by omega]
          refine lv_iload hx hb dX2_generateErrorCorrection_163 (lv_at hl 3 rfl) ?_
          refine lv_if_lt (tgt := 204) hx hb dX2_generateErrorCorrection_165 (by decide) (fun z => absurd z (nI_pos (by omega))) (fun _ => ?_)
          refine lv_aload_n hx hb dX2_generateErrorCorrection_168 rfl (lv_at hl 1 rfl) ?_
          refine lv_iload hx hb dX2_generateErrorCorrection_169 (lv_at hl 3 rfl) ?_
          refine pd_cald hx hb h 0 rfl (by omega) (by omega) dX2_generateErrorCorrection_171 ?_
          refine pd_if_eq (tgt := 188) hx hb (by omega) dX2_generateErrorCorrection_172 (by decide) (fun c6 => ?_) (fun c6 => ?_)
          · refine lv_aload hx hb dX2_generateErrorCorrection_188 (lv_at hl 2 rfl) ?_
            refine lv_aload_n hx hb dX2_generateErrorCorrection_190 rfl (lv_at hl 1 rfl) ?_
            refine lv_iload hx hb dX2_generateErrorCorrection_191 (lv_at hl 3 rfl) ?_
            refine pd_cald hx hb h 0 rfl (by omega) (by omega) dX2_generateErrorCorrection_193 ?_
            refine pd_top (y := (nI X)) (congrArg nI (by omega)) ?_
            refine pd_gor (wc := [(qs, .inr (3, [.ref qu, .int (nI 1), .int (0), .int (nI c)])), (qu, .inl (pd_cB G, K * 2, .inl (fun j => sb_b (g j))))]) (wr := [(qe, .inl (pd_cC G, K, .inl (fun j => nI (f j))))]) h (va_runV (As := [.int (nI X)]) (rest := []) ⟨hx, hb, hml, hown, hts⟩ (met_saU l G qs qu c K X g H.size (by omega) (by omega) (by omega)) (cwV 1 hts (lw_V q291 q292 q293 q15 q294) rfl rfl rfl (by decide +kernel) ⟨Nat.le_of_ble_eq_true rfl, Nat.le_of_ble_eq_true rfl⟩) ⟨pd_blind, pd_recv h 1 rfl rfl, pd_pre h [1, 2] (by decide) rfl⟩ rfl rfl hl.1 rfl (lv_room (Nat.le_of_ble_eq_true rfl)) dX2_generateErrorCorrection_194 ⟨(by first | omega | (dsimp only; omega)), (by first | omega | (dsimp only; omega))⟩) [1, 2] [0] rfl rfl (by decide) (by decide) (fun u qx H locs hp h => ?_)
            have h : pd_W G _ s H locs [(qe, .inl (pd_cC G, K, .inl (fun j => nI (f j)))), (qs, .inr (3, [.ref qu, .int (nI 1), .int (0), .int (nI ((c + 1)))])), (qu, .inl (pd_cB G, K * 2, .inl (fun j => sb_b ((va_up (va_up g (2 * c) (X % 256)) (2 * c + 1) (X / 256)) j))))] := h
            refine lv_pop hx hb dX2_generateErrorCorrection_197 rfl ?_
            refine lv_iinc (v := nI dU + (-1)) (lv' := [(6, .int (nI dU + (-1))), (2, .int (nI K)), (3, .ref qe), (5, .ref qs)]) hx hb dX2_generateErrorCorrection_198 hl (k := 3) rfl (by rw [show Int32.ofInt (-1) = -1 from by decide]) (by decide) rfl (fun ls hl => ?_)
            refine lv_goto (tgt := 163) hx hb dX2_generateErrorCorrection_201 (by decide) ?_
            exact ihU (c + 1) qu f (va_up (va_up g (2 * c) (X % 256)) (2 * c + 1) (X / 256)) H _ ls (by omega) (fun x hx9 => hf x (by omega)) (pd_two hg (by rw [hX]) (by rw [hX]) (by rw [← hX]; omega)) (h.sub [0, 1, 2] (by decide) rfl) (lv_sub hl [1, 2, 3, 0] rfl)
          · refine lv_aload_n hx hb dX2_generateErrorCorrection_175 rfl (lv_at hl 1 rfl) ?_
            refine lv_iload hx hb dX2_generateErrorCorrection_176 (lv_at hl 3 rfl) ?_
            refine lv_sipush (v := (nI 929)) hx hb dX2_generateErrorCorrection_178 (by decide) ?_
            refine lv_aload_n hx hb dX2_generateErrorCorrection_181 rfl (lv_at hl 1 rfl) ?_
            refine lv_iload hx hb dX2_generateErrorCorrection_182 (lv_at hl 3 rfl) ?_
            refine pd_cald hx hb h 0 rfl (by omega) (by omega) dX2_generateErrorCorrection_184 ?_
            refine pd_subI hx hb (by omega) dX2_generateErrorCorrection_185 ?_
            refine pd_i2cN hx hb (by omega) dX2_generateErrorCorrection_186 ?_
            refine pd_cast hx hb h 0 rfl (by omega) (by omega) (by omega) dX2_generateErrorCorrection_187 (fun H locs h => ?_)
            have h : pd_W G _ s H locs [(qe, .inl (pd_cC G, K, .inl (fun j => nI ((va_up f dU (929 - (f dU))) j)))), (qs, .inr (3, [.ref qu, .int (nI 1), .int (0), .int (nI c)])), (qu, .inl (pd_cB G, K * 2, .inl (fun j => sb_b (g j))))] := h
            refine lv_aload hx hb dX2_generateErrorCorrection_188 (lv_at hl 2 rfl) ?_
            refine lv_aload_n hx hb dX2_generateErrorCorrection_190 rfl (lv_at hl 1 rfl) ?_
            refine lv_iload hx hb dX2_generateErrorCorrection_191 (lv_at hl 3 rfl) ?_
            refine pd_cald hx hb h 0 rfl (by omega) (by omega) dX2_generateErrorCorrection_193 ?_
            refine pd_top (y := (nI X)) (by rw [va_up_self]; exact congrArg nI (by omega)) ?_
            refine pd_gor (wc := [(qs, .inr (3, [.ref qu, .int (nI 1), .int (0), .int (nI c)])), (qu, .inl (pd_cB G, K * 2, .inl (fun j => sb_b (g j))))]) (wr := [(qe, .inl (pd_cC G, K, .inl (fun j => nI ((va_up f dU (929 - (f dU))) j))))]) h (va_runV (As := [.int (nI X)]) (rest := []) ⟨hx, hb, hml, hown, hts⟩ (met_saU l G qs qu c K X g H.size (by omega) (by omega) (by omega)) (cwV 1 hts (lw_V q291 q292 q293 q15 q294) rfl rfl rfl (by decide +kernel) ⟨Nat.le_of_ble_eq_true rfl, Nat.le_of_ble_eq_true rfl⟩) ⟨pd_blind, pd_recv h 1 rfl rfl, pd_pre h [1, 2] (by decide) rfl⟩ rfl rfl hl.1 rfl (lv_room (Nat.le_of_ble_eq_true rfl)) dX2_generateErrorCorrection_194 ⟨(by first | omega | (dsimp only; omega)), (by first | omega | (dsimp only; omega))⟩) [1, 2] [0] rfl rfl (by decide) (by decide) (fun u qx H locs hp h => ?_)
            have h : pd_W G _ s H locs [(qe, .inl (pd_cC G, K, .inl (fun j => nI ((va_up f dU (929 - (f dU))) j)))), (qs, .inr (3, [.ref qu, .int (nI 1), .int (0), .int (nI ((c + 1)))])), (qu, .inl (pd_cB G, K * 2, .inl (fun j => sb_b ((va_up (va_up g (2 * c) (X % 256)) (2 * c + 1) (X / 256)) j))))] := h
            refine lv_pop hx hb dX2_generateErrorCorrection_197 rfl ?_
            refine lv_iinc (v := nI dU + (-1)) (lv' := [(6, .int (nI dU + (-1))), (2, .int (nI K)), (3, .ref qe), (5, .ref qs)]) hx hb dX2_generateErrorCorrection_198 hl (k := 3) rfl (by rw [show Int32.ofInt (-1) = -1 from by decide]) (by decide) rfl (fun ls hl => ?_)
            refine lv_goto (tgt := 163) hx hb dX2_generateErrorCorrection_201 (by decide) ?_
            exact ihU (c + 1) qu (va_up f dU (929 - f dU)) (va_up (va_up g (2 * c) (X % 256)) (2 * c + 1) (X / 256)) H _ ls (by omega) (fun x hx9 => by rw [va_up_ne _ _ (by omega)]; exact hf x (by omega)) (pd_two hg (by rw [hX]) (by rw [hX]) (by rw [← hX]; omega)) (h.sub [0, 1, 2] (by decide) rfl) (lv_sub hl [1, 2, 3, 0] rfl)
      have keyL : ∀ (dL : Nat) (c : Nat) (f : Nat → Nat) (g : Nat → Nat) (H : Heap) (locs : List Loc) (ls : Array Slot), c + dL = K → (∀ x, x < dL → f x = pd_e K w n x) → (∀ j, j < c → pd_out K w n j < 256 ∧ g j = pd_out K w n j) → pd_W G (va_A [(h0, .inr (2, [.ref v, .int (nI cd), .int (0), .int (0)])), (v, .inl (pd_cB G, nb, .inl (fun j => sb_b (f0 j))))] sz) s H locs [(qe, .inl (pd_cC G, K, .inl (fun j => nI (f j)))), (qs, .inr (3, [.ref qb, .int (nI 0), .int (0), .int (nI c)])), (qb, .inl (pd_cB G, K, .inl (fun j => sb_b (g j))))] → lv_has ls 10 [(2, .int (nI K)), (3, .ref qe), (5, .ref qs), (6, .int (nI dL + (-1)))] → W p l e ({ frames := 8, cells := 6, slots := K * 6 + 8, locals := 179 } : Room) s m ([.ref h0, .int (nI z)] : List Value).toArray below meth co H locs (0 + 0 + 1 + 0 + 1 + 1) (0 + 0 + K + 0 + 4 + K) (MQ below (va_Qr (fun (u : Nat × Nat × Nat × (Nat → Nat)) => pd_st u.2.1 u.2.2.1 u.2.2.2 K (fun q => pd_out K w n q)) (fun (u : Nat × Nat × Nat × (Nat → Nat)) (q : Nat) t9 => pd_F G (va_A [(h0, .inr (2, [.ref v, .int (nI cd), .int (0), .int (0)])), (v, .inl (pd_cB G, nb, .inl (fun j => sb_b (f0 j))))] sz) ([(q, .inr (2, [.ref u.1, .int (nI u.2.1), .int (0), .int (0)])), (u.1, .inl (pd_cB G, u.2.2.1, .inl (fun j => sb_b (u.2.2.2 j))))]) t9) (va_A [(h0, .inr (2, [.ref v, .int (nI cd), .int (0), .int (0)])), (v, .inl (pd_cB G, nb, .inl (fun j => sb_b (f0 j))))] sz)) ([.ref h0, .int (nI z)] : List Value).toArray s 6 (K * 6 + 8) (va_A [(h0, .inr (2, [.ref v, .int (nI cd), .int (0), .int (0)])), (v, .inl (pd_cB G, nb, .inl (fun j => sb_b (f0 j))))] sz)) (F0 m 163 ls []) := by
        intro dL
        induction dL with
        | zero =>
          intro c f g H locs ls hc hf hg h hl
          obtain rfl : K = c := by omega
          refine lv_iload hx hb dX2_generateErrorCorrection_163 (lv_at hl 3 rfl) ?_
          refine lv_if_lt (tgt := 204) hx hb dX2_generateErrorCorrection_165 (by decide) (fun _ => ?_) (fun z => absurd (by decide) z)
          refine lv_aload hx hb dX2_generateErrorCorrection_204 (lv_at hl 2 rfl) ?_
          refine pd_gor (wc := [(qs, .inr (3, [.ref qb, .int (nI 0), .int (0), .int (nI K)])), (qb, .inl (pd_cB G, K, .inl (fun j => sb_b (g j))))]) (wr := [(qe, .inl (pd_cC G, K, .inl (fun j => nI (f j))))]) h (va_runV (As := []) (rest := []) ⟨hx, hb, hml, hown, hts⟩ (met_sts l G qs qb 0 K K g (fun q => pd_out K w n q) H.size (by omega) (Or.inl ⟨rfl, rfl, hg⟩)) (cwV 0 hts (lw_V q352 q353 q354 q15 q355) rfl rfl rfl (by decide +kernel) ⟨Nat.le_of_ble_eq_true rfl, Nat.le_of_ble_eq_true rfl⟩) ⟨pd_blind, pd_recv h 1 rfl rfl, pd_pre h [1, 2] (by decide) rfl⟩ rfl rfl hl.1 rfl (lv_room (Nat.le_of_ble_eq_true rfl)) dX2_generateErrorCorrection_206 ⟨(by first | omega | (dsimp only; omega)), (by first | omega | (dsimp only; omega))⟩) [1, 2] [0] rfl rfl (by decide) (by decide) (fun uo qo H locs hp h => ?_)
          have h : pd_W G _ s H locs [(qe, .inl (pd_cC G, K, .inl (fun j => nI (f j)))), (qo, .inr (2, [.ref uo, .int (nI 0), .int (0), .int (0)])), (uo, .inl (pd_cB G, K, .inl (fun j => sb_b (g j))))] := h
          exact pd_aret hx hb hr (Or.inl ⟨_, rfl⟩) hlk h (uo, 0, K, g) [1, 2] (by decide) rfl (Or.inl ⟨rfl, rfl, hg⟩) (by first | omega | (dsimp only; omega)) (by first | omega | (dsimp only; omega)) dX2_generateErrorCorrection_209
        | succ dL ihL =>
          intro c f g H locs ls hc hf hg h hl
          rw [pk_m1 dL] at hl
          have hfd : f dL = pd_e K w n dL := hf dL (Nat.lt_succ_self _)
          have hfl := pd_e_lt K w n dL
          obtain ⟨X, hX⟩ : ∃ X, X = pd_out K w n c := ⟨_, rfl⟩
          have hXl : X < 929 := by rw [hX]; exact pd_out_lt K w n c
          have hXe : X = (929 - f dL) % 929 := by rw [hX, hfd]; unfold pd_out; rw [show K - 1 - c = dL by omega]
          refine lv_iload hx hb dX2_generateErrorCorrection_163 (lv_at hl 3 rfl) ?_
          refine lv_if_lt (tgt := 204) hx hb dX2_generateErrorCorrection_165 (by decide) (fun z => absurd z (nI_pos (by omega))) (fun _ => ?_)
          refine lv_aload_n hx hb dX2_generateErrorCorrection_168 rfl (lv_at hl 1 rfl) ?_
          refine lv_iload hx hb dX2_generateErrorCorrection_169 (lv_at hl 3 rfl) ?_
          refine pd_cald hx hb h 0 rfl (by omega) (by omega) dX2_generateErrorCorrection_171 ?_
          refine pd_if_eq (tgt := 188) hx hb (by omega) dX2_generateErrorCorrection_172 (by decide) (fun c6 => ?_) (fun c6 => ?_)
          · refine lv_aload hx hb dX2_generateErrorCorrection_188 (lv_at hl 2 rfl) ?_
            refine lv_aload_n hx hb dX2_generateErrorCorrection_190 rfl (lv_at hl 1 rfl) ?_
            refine lv_iload hx hb dX2_generateErrorCorrection_191 (lv_at hl 3 rfl) ?_
            refine pd_cald hx hb h 0 rfl (by omega) (by omega) dX2_generateErrorCorrection_193 ?_
            refine pd_top (y := (nI X)) (congrArg nI (by omega)) ?_
            have hX8 : X < 256 := by omega
            refine pd_gor (wc := [(qs, .inr (3, [.ref qb, .int (nI 0), .int (0), .int (nI c)])), (qb, .inl (pd_cB G, K, .inl (fun j => sb_b (g j))))]) (wr := [(qe, .inl (pd_cC G, K, .inl (fun j => nI (f j))))]) h (va_runV (As := [.int (nI X)]) (rest := []) ⟨hx, hb, hml, hown, hts⟩ (met_saL l G qs qb c K X g H.size (by omega) (by omega) hX8) (cwV 1 hts (lw_V q291 q292 q293 q15 q294) rfl rfl rfl (by decide +kernel) ⟨Nat.le_of_ble_eq_true rfl, Nat.le_of_ble_eq_true rfl⟩) ⟨pd_blind, pd_recv h 1 rfl rfl, pd_pre h [1, 2] (by decide) rfl⟩ rfl rfl hl.1 rfl (lv_room (Nat.le_of_ble_eq_true rfl)) dX2_generateErrorCorrection_194 ⟨(by first | omega | (dsimp only; omega)), (by first | omega | (dsimp only; omega))⟩) [1, 2] [0] rfl rfl (by decide) (by decide) (fun u qx H locs hp h => ?_)
            have h : pd_W G _ s H locs [(qe, .inl (pd_cC G, K, .inl (fun j => nI (f j)))), (qs, .inr (3, [.ref qb, .int (nI 0), .int (0), .int (nI ((c + 1)))])), (qb, .inl (pd_cB G, K, .inl (fun j => sb_b ((va_up g c X) j))))] := h
            refine lv_pop hx hb dX2_generateErrorCorrection_197 rfl ?_
            refine lv_iinc (v := nI dL + (-1)) (lv' := [(6, .int (nI dL + (-1))), (2, .int (nI K)), (3, .ref qe), (5, .ref qs)]) hx hb dX2_generateErrorCorrection_198 hl (k := 3) rfl (by rw [show Int32.ofInt (-1) = -1 from by decide]) (by decide) rfl (fun ls hl => ?_)
            refine lv_goto (tgt := 163) hx hb dX2_generateErrorCorrection_201 (by decide) ?_
            exact ihL (c + 1) f (va_up g c X) H _ ls (by omega) (fun x hx9 => hf x (by omega)) (pd_lat hg hX (by rw [← hX]; exact hX8)) (h.sub [0, 1, 2] (by decide) rfl) (lv_sub hl [1, 2, 3, 0] rfl)
          · refine lv_aload_n hx hb dX2_generateErrorCorrection_175 rfl (lv_at hl 1 rfl) ?_
            refine lv_iload hx hb dX2_generateErrorCorrection_176 (lv_at hl 3 rfl) ?_
            refine lv_sipush (v := (nI 929)) hx hb dX2_generateErrorCorrection_178 (by decide) ?_
            refine lv_aload_n hx hb dX2_generateErrorCorrection_181 rfl (lv_at hl 1 rfl) ?_
            refine lv_iload hx hb dX2_generateErrorCorrection_182 (lv_at hl 3 rfl) ?_
            refine pd_cald hx hb h 0 rfl (by omega) (by omega) dX2_generateErrorCorrection_184 ?_
            refine pd_subI hx hb (by omega) dX2_generateErrorCorrection_185 ?_
            refine pd_i2cN hx hb (by omega) dX2_generateErrorCorrection_186 ?_
            refine pd_cast hx hb h 0 rfl (by omega) (by omega) (by omega) dX2_generateErrorCorrection_187 (fun H locs h => ?_)
            have h : pd_W G _ s H locs [(qe, .inl (pd_cC G, K, .inl (fun j => nI ((va_up f dL (929 - (f dL))) j)))), (qs, .inr (3, [.ref qb, .int (nI 0), .int (0), .int (nI c)])), (qb, .inl (pd_cB G, K, .inl (fun j => sb_b (g j))))] := h
            refine lv_aload hx hb dX2_generateErrorCorrection_188 (lv_at hl 2 rfl) ?_
            refine lv_aload_n hx hb dX2_generateErrorCorrection_190 rfl (lv_at hl 1 rfl) ?_
            refine lv_iload hx hb dX2_generateErrorCorrection_191 (lv_at hl 3 rfl) ?_
            refine pd_cald hx hb h 0 rfl (by omega) (by omega) dX2_generateErrorCorrection_193 ?_
            refine pd_top (y := (nI X)) (by rw [va_up_self]; exact congrArg nI (by omega)) ?_
            by_cases hX8 : X < 256
            · refine pd_gor (wc := [(qs, .inr (3, [.ref qb, .int (nI 0), .int (0), .int (nI c)])), (qb, .inl (pd_cB G, K, .inl (fun j => sb_b (g j))))]) (wr := [(qe, .inl (pd_cC G, K, .inl (fun j => nI ((va_up f dL (929 - (f dL))) j))))]) h (va_runV (As := [.int (nI X)]) (rest := []) ⟨hx, hb, hml, hown, hts⟩ (met_saL l G qs qb c K X g H.size (by omega) (by omega) hX8) (cwV 1 hts (lw_V q291 q292 q293 q15 q294) rfl rfl rfl (by decide +kernel) ⟨Nat.le_of_ble_eq_true rfl, Nat.le_of_ble_eq_true rfl⟩) ⟨pd_blind, pd_recv h 1 rfl rfl, pd_pre h [1, 2] (by decide) rfl⟩ rfl rfl hl.1 rfl (lv_room (Nat.le_of_ble_eq_true rfl)) dX2_generateErrorCorrection_194 ⟨(by first | omega | (dsimp only; omega)), (by first | omega | (dsimp only; omega))⟩) [1, 2] [0] rfl rfl (by decide) (by decide) (fun u qx H locs hp h => ?_)
              have h : pd_W G _ s H locs [(qe, .inl (pd_cC G, K, .inl (fun j => nI ((va_up f dL (929 - (f dL))) j)))), (qs, .inr (3, [.ref qb, .int (nI 0), .int (0), .int (nI ((c + 1)))])), (qb, .inl (pd_cB G, K, .inl (fun j => sb_b ((va_up g c X) j))))] := h
              refine lv_pop hx hb dX2_generateErrorCorrection_197 rfl ?_
              refine lv_iinc (v := nI dL + (-1)) (lv' := [(6, .int (nI dL + (-1))), (2, .int (nI K)), (3, .ref qe), (5, .ref qs)]) hx hb dX2_generateErrorCorrection_198 hl (k := 3) rfl (by rw [show Int32.ofInt (-1) = -1 from by decide]) (by decide) rfl (fun ls hl => ?_)
              refine lv_goto (tgt := 163) hx hb dX2_generateErrorCorrection_201 (by decide) ?_
              exact ihL (c + 1) (va_up f dL (929 - f dL)) (va_up g c X) H _ ls (by omega) (fun x hx9 => by rw [va_up_ne _ _ (by omega)]; exact hf x (by omega)) (pd_lat hg hX (by rw [← hX]; exact hX8)) (h.sub [0, 1, 2] (by decide) rfl) (lv_sub hl [1, 2, 3, 0] rfl)
            · refine pd_gor (wc := [(qs, .inr (3, [.ref qb, .int (nI 0), .int (0), .int (nI c)])), (qb, .inl (pd_cB G, K, .inl (fun j => sb_b (g j))))]) (wr := [(qe, .inl (pd_cC G, K, .inl (fun j => nI ((va_up f dL (929 - (f dL))) j))))]) h (va_runV (As := [.int (nI X)]) (rest := []) ⟨hx, hb, hml, hown, hts⟩ (met_saI l G qs qb c K X g H.size (by omega) (by omega) (fun j hj => by rw [(hg j hj).2]; exact (hg j hj).1) (by omega) (by omega)) (cwV 1 hts (lw_V q291 q292 q293 q15 q294) rfl rfl rfl (by decide +kernel) ⟨Nat.le_of_ble_eq_true rfl, Nat.le_of_ble_eq_true rfl⟩) ⟨pd_blind, pd_recv h 1 rfl rfl, pd_pre h [1, 2] (by decide) rfl⟩ rfl rfl hl.1 rfl (lv_room (Nat.le_of_ble_eq_true rfl)) dX2_generateErrorCorrection_194 ⟨(by first | omega | (dsimp only; omega)), (by first | omega | (dsimp only; omega))⟩) [1, 2] [0] rfl rfl (by decide) (by decide) (fun u5 qx H locs h5 h => ?_)
              have h : pd_W G _ s H locs [(qe, .inl (pd_cC G, K, .inl (fun j => nI ((va_up f dL (929 - (f dL))) j)))), (qs, .inr (3, [.ref u5.1, .int (nI 1), .int (0), .int (nI ((c + 1)))])), (u5.1, .inl (pd_cB G, K * 2, .inl (fun j => sb_b (u5.2 j))))] := h
              obtain ⟨qu, gu⟩ := u5
              obtain ⟨g5, h51, h52⟩ := h5
              obtain rfl : gu = va_up (va_up g5 (2 * c) (X % 256)) (2 * c + 1) (X / 256) := h52
              have h : pd_W G _ s H locs [(qe, .inl (pd_cC G, K, .inl (fun j => nI ((va_up f dL (929 - (f dL))) j)))), (qs, .inr (3, [.ref qu, .int (nI 1), .int (0), .int (nI ((c + 1)))])), (qu, .inl (pd_cB G, K * 2, .inl (fun j => sb_b ((va_up (va_up g5 (2 * c) (X % 256)) (2 * c + 1) (X / 256)) j))))] := h
              refine lv_pop hx hb dX2_generateErrorCorrection_197 rfl ?_
              refine lv_iinc (v := nI dL + (-1)) (lv' := [(6, .int (nI dL + (-1))), (2, .int (nI K)), (3, .ref qe), (5, .ref qs)]) hx hb dX2_generateErrorCorrection_198 hl (k := 3) rfl (by rw [show Int32.ofInt (-1) = -1 from by decide]) (by decide) rfl (fun ls hl => ?_)
              refine lv_goto (tgt := 163) hx hb dX2_generateErrorCorrection_201 (by decide) ?_
              exact keyU dL (c + 1) qu (va_up f dL (929 - f dL)) (va_up (va_up g5 (2 * c) (X % 256)) (2 * c + 1) (X / 256)) H _ ls (by omega) (fun x hx9 => by rw [va_up_ne _ _ (by omega)]; exact hf x (by omega)) (pd_two (t := (fun q => pd_out K w n q)) (fun j hj => by have h6 := h51 j hj; rw [(hg j hj).2] at h6; exact h6) (by rw [hX]) (by rw [hX]) (by rw [← hX]; omega)) (h.sub [0, 1, 2] (by decide) rfl) (lv_sub hl [1, 2, 3, 0] rfl)
      exact keyL K 0 g pd_z H _ ls (by omega) hge (fun j hj => absurd hj (Nat.not_lt_zero j)) (h.sub [0, 1, 2] (by decide) rfl) (lv_sub hl [4, 5, 1, 0] rfl)
    | succ d ih =>
      intro i g H locs ls hi hg h hl
      refine lv_iload hx hb dX2_generateErrorCorrection_20 (lv_at hl 5 rfl) ?_
      refine lv_iload hx hb dX2_generateErrorCorrection_22 (lv_at hl 4 rfl) ?_
      refine pd_icmp_ge (tgt := 148) hx hb (by omega) (by omega) dX2_generateErrorCorrection_24 (by decide) (fun c1 => absurd c1 (by omega)) (fun c1 => ?_)
      have hwi := hw i
      have hgk : g (K - 1) = pd_e K w i (K - 1) := hg (K - 1) (by omega)
      have hgl := pd_e_lt K w i (K - 1)
      refine lv_aload_n hx hb dX2_generateErrorCorrection_27 rfl (lv_at hl 0 rfl) ?_
      refine lv_iload hx hb dX2_generateErrorCorrection_28 (lv_at hl 5 rfl) ?_
      refine pd_goFi (wc := [(h0, .inr (2, [.ref v, .int (nI cd), .int (0), .int (0)])), (v, .inl (pd_cB G, nb, .inl (fun j => sb_b (f0 j))))]) (wr := [(qe, .inl (pd_cC G, K, .inl (fun j => nI (g j))))]) h (va_runF (As := [.int (nI i)]) (rest := []) (h.1.1 2 _ rfl).2 ⟨hx, hb, hml, hown, hts⟩ (met_sca l G h0 v cd nb n i f0 w H.size (by omega) hst (by omega)) (va_cwF 1 hts (lw_F q225 q228 q230 q4 q232) rfl rfl rfl h.2.1.2.2.2.2.2.2.2.2.2.2.2.2.1 (by decide +kernel) ⟨Nat.le_of_ble_eq_true rfl, Nat.le_of_ble_eq_true rfl⟩) ⟨pd_blind, pd_recv h 0 rfl rfl, pd_pre h [0, 1] (by decide) rfl⟩ rfl rfl hl.1 rfl (lv_room (Nat.le_of_ble_eq_true rfl)) dX2_generateErrorCorrection_30 ⟨(by first | omega | (dsimp only; omega)), (by first | omega | (dsimp only; omega))⟩) [0, 1] [2] rfl rfl (by decide) (by decide) (fun r5 u H locs hp h => ?_)
      have h : pd_W G _ s H locs [(qe, .inl (pd_cC G, K, .inl (fun j => nI (g j)))), (h0, .inr (2, [.ref v, .int (nI cd), .int (0), .int (0)])), (v, .inl (pd_cB G, nb, .inl (fun j => sb_b (f0 j))))] := h
      obtain rfl : r5 = (nI (w i)) := hp
      refine lv_aload_n hx hb dX2_generateErrorCorrection_35 rfl (lv_at hl 3 rfl) ?_
      refine lv_aload_n hx hb dX2_generateErrorCorrection_36 rfl (lv_at hl 3 rfl) ?_
      refine pd_alenC hx hb h 0 rfl dX2_generateErrorCorrection_37 ?_
      refine lv_iconst (v := (nI 1)) hx hb dX2_generateErrorCorrection_38 (by decide) ?_
      refine pd_subI hx hb (by omega) dX2_generateErrorCorrection_39 ?_
      refine pd_cald hx hb h 0 rfl (by omega) (by omega) dX2_generateErrorCorrection_40 ?_
      refine pd_add hx hb dX2_generateErrorCorrection_41 ?_
      refine lv_sipush (v := (nI 929)) hx hb dX2_generateErrorCorrection_42 (by decide) ?_
      refine pd_rem hx hb (by omega) (by omega) (by omega) dX2_generateErrorCorrection_45 ?_
      refine lv_istore (lv' := [(6, .int (nI (((w i) + (g (K - 1))) % 929))), (0, .ref h0), (1, .int (nI z)), (2, .int (nI K)), (3, .ref qe), (4, .int (nI n)), (5, .int (nI i))]) hx hb dX2_generateErrorCorrection_46 hl (by decide) rfl (fun ls hl => ?_)
      obtain ⟨T, hT⟩ : ∃ T, T = (w i + g (K - 1)) % 929 := ⟨_, rfl⟩
      rw [← hT] at hl
      have hTl : T < 929 := by rw [hT]; exact Nat.mod_lt _ (by decide)
      have hT2 : T = (w i + pd_e K w i (K - 1)) % 929 := by rw [hT, hgk]
      refine lv_iload_n hx hb dX2_generateErrorCorrection_48 rfl (lv_at hl 3 rfl) ?_
      refine lv_iconst (v := (nI 1)) hx hb dX2_generateErrorCorrection_49 (by decide) ?_
      refine pd_subI hx hb (by omega) dX2_generateErrorCorrection_50 ?_
      refine lv_istore (lv' := [(9, .int (nI (K - 1))), (6, .int (nI T)), (0, .ref h0), (1, .int (nI z)), (2, .int (nI K)), (3, .ref qe), (4, .int (nI n)), (5, .int (nI i))]) hx hb dX2_generateErrorCorrection_51 hl (by decide) rfl (fun ls hl => ?_)
      have key2 : ∀ (d2 : Nat) (J : Nat) (f : Nat → Nat) (H : Heap) (locs : List Loc) (ls : Array Slot), (J = d2 ∧ J < K) → (∀ x, J < x → x < K → f x = pd_e K w (i + 1) x) → (∀ x, x ≤ J → x < K → f x = pd_e K w i x) → pd_W G (va_A [(h0, .inr (2, [.ref v, .int (nI cd), .int (0), .int (0)])), (v, .inl (pd_cB G, nb, .inl (fun j => sb_b (f0 j))))] sz) s H locs [(h0, .inr (2, [.ref v, .int (nI cd), .int (0), .int (0)])), (v, .inl (pd_cB G, nb, .inl (fun j => sb_b (f0 j)))), (qe, .inl (pd_cC G, K, .inl (fun j => nI (f j))))] → lv_has ls 10 [(0, .ref h0), (1, .int (nI z)), (2, .int (nI K)), (3, .ref qe), (4, .int (nI n)), (5, .int (nI i)), (6, .int (nI T)), (9, .int (nI J))] → W p l e ({ frames := 8, cells := 6, slots := K * 6 + 8, locals := 179 } : Room) s m ([.ref h0, .int (nI z)] : List Value).toArray below meth co H locs (0 + 0 + 1 + 0) (0 + 0 + K + 0) (MQ below (va_Qr (fun (u : Nat × Nat × Nat × (Nat → Nat)) => pd_st u.2.1 u.2.2.1 u.2.2.2 K (fun q => pd_out K w n q)) (fun (u : Nat × Nat × Nat × (Nat → Nat)) (q : Nat) t9 => pd_F G (va_A [(h0, .inr (2, [.ref v, .int (nI cd), .int (0), .int (0)])), (v, .inl (pd_cB G, nb, .inl (fun j => sb_b (f0 j))))] sz) ([(q, .inr (2, [.ref u.1, .int (nI u.2.1), .int (0), .int (0)])), (u.1, .inl (pd_cB G, u.2.2.1, .inl (fun j => sb_b (u.2.2.2 j))))]) t9) (va_A [(h0, .inr (2, [.ref v, .int (nI cd), .int (0), .int (0)])), (v, .inl (pd_cB G, nb, .inl (fun j => sb_b (f0 j))))] sz)) ([.ref h0, .int (nI z)] : List Value).toArray s 6 (K * 6 + 8) (va_A [(h0, .inr (2, [.ref v, .int (nI cd), .int (0), .int (0)])), (v, .inl (pd_cB G, nb, .inl (fun j => sb_b (f0 j))))] sz)) (F0 m 53 ls []) := by
        intro d2
        induction d2 with
        | zero =>
          intro J f H locs ls hJ hf1 hf2 h hl
          obtain rfl : J = 0 := by omega
          have hcl := pd_pf_lt K (0)
          have hmul : T * pd_coef z (0) ≤ 929 * 929 := Nat.mul_le_mul (by omega) (by rw [hcf]; omega)
          have hq9 : T * pd_coef z (0) % 929 < 929 := Nat.mod_lt _ (by decide)
          refine lv_iload hx hb dX2_generateErrorCorrection_53 (lv_at hl 7 rfl) ?_
          refine lv_iconst (v := (nI 1)) hx hb dX2_generateErrorCorrection_55 (by decide) ?_
          refine pd_icmp_lt (tgt := 108) hx hb (by omega) (by omega) dX2_generateErrorCorrection_56 (by decide) (fun c1 => ?_) (fun c1 => absurd c1 (by omega))
          refine lv_iload hx hb dX2_generateErrorCorrection_108 (lv_at hl 6 rfl) ?_
          refine pd_gsE hx hb hown h (hts _ q266) dX2_generateErrorCorrection_110 ?_
          refine lv_iload_n hx hb dX2_generateErrorCorrection_113 rfl (lv_at hl 1 rfl) ?_
          refine pd_tabE hx hb h (by omega) dX2_generateErrorCorrection_114 ?_
          refine lv_iconst (v := (nI 0)) hx hb dX2_generateErrorCorrection_115 (by decide) ?_
          refine pd_tabR (i := z) hx hb h (by omega) (by rw [hKe]; omega) dX2_generateErrorCorrection_116 ?_
          refine pd_mul hx hb dX2_generateErrorCorrection_117 ?_
          refine lv_sipush (v := (nI 929)) hx hb dX2_generateErrorCorrection_118 (by decide) ?_
          refine pd_rem hx hb (by omega) (by omega) (by omega) dX2_generateErrorCorrection_121 ?_
          refine lv_istore (lv' := [(7, .int (nI ((T * (pd_coef z 0)) % 929))), (0, .ref h0), (1, .int (nI z)), (2, .int (nI K)), (3, .ref qe), (4, .int (nI n)), (5, .int (nI i)), (6, .int (nI T)), (9, .int (nI 0))]) hx hb dX2_generateErrorCorrection_122 hl (by decide) rfl (fun ls hl => ?_)
          refine lv_sipush (v := (nI 929)) hx hb dX2_generateErrorCorrection_124 (by decide) ?_
          refine lv_iload hx hb dX2_generateErrorCorrection_127 (lv_at hl 0 rfl) ?_
          refine pd_subI hx hb (by omega) dX2_generateErrorCorrection_129 ?_
          refine lv_istore (lv' := [(8, .int (nI (929 - ((T * (pd_coef z 0)) % 929)))), (7, .int (nI ((T * (pd_coef z 0)) % 929))), (0, .ref h0), (1, .int (nI z)), (2, .int (nI K)), (3, .ref qe), (4, .int (nI n)), (5, .int (nI i)), (6, .int (nI T)), (9, .int (nI 0))]) hx hb dX2_generateErrorCorrection_130 hl (by decide) rfl (fun ls hl => ?_)
          refine lv_aload_n hx hb dX2_generateErrorCorrection_132 rfl (lv_at hl 5 rfl) ?_
          refine lv_iconst (v := (nI 0)) hx hb dX2_generateErrorCorrection_133 (by decide) ?_
          refine lv_iload hx hb dX2_generateErrorCorrection_134 (lv_at hl 0 rfl) ?_
          refine lv_sipush (v := (nI 929)) hx hb dX2_generateErrorCorrection_136 (by decide) ?_
          refine pd_rem hx hb (by omega) (by omega) (by omega) dX2_generateErrorCorrection_139 ?_
          refine pd_i2cN hx hb (by omega) dX2_generateErrorCorrection_140 ?_
          refine pd_cast hx hb h 2 rfl (by omega) (by omega) (by omega) dX2_generateErrorCorrection_141 (fun H locs h => ?_)
          have h : pd_W G _ s H locs [(h0, .inr (2, [.ref v, .int (nI cd), .int (0), .int (0)])), (v, .inl (pd_cB G, nb, .inl (fun j => sb_b (f0 j)))), (qe, .inl (pd_cC G, K, .inl (fun j => nI ((va_up f 0 ((929 - ((T * (pd_coef z 0)) % 929)) % 929)) j))))] := h
          refine lv_iinc (v := (nI (i + 1))) (lv' := [(5, .int (nI (i + 1))), (8, .int (nI (929 - ((T * (pd_coef z 0)) % 929)))), (7, .int (nI ((T * (pd_coef z 0)) % 929))), (0, .ref h0), (1, .int (nI z)), (2, .int (nI K)), (3, .ref qe), (4, .int (nI n)), (6, .int (nI T)), (9, .int (nI 0))]) hx hb dX2_generateErrorCorrection_142 hl (k := 7) rfl (by rw [show Int32.ofInt 1 = nI 1 from rfl, nI_add]) (by decide) rfl (fun ls hl => ?_)
          refine lv_goto (tgt := 20) hx hb dX2_generateErrorCorrection_145 (by decide) ?_
          exact ih (i + 1) (va_up f 0 ((929 - T * pd_coef z 0 % 929) % 929)) H _ ls (by omega) (pd_reg_e hf1 (by rw [hcf, ← hT2])) (h.sub [0, 1, 2] (by decide) rfl) (lv_sub hl [3, 4, 5, 6, 7, 0] rfl)
        | succ d2 ih2 =>
          intro J f H locs ls hJ hf1 hf2 h hl
          obtain ⟨y, rfl⟩ : ∃ y, J = y + 1 := ⟨J - 1, by omega⟩
          have hcl := pd_pf_lt K (y + 1)
          have hmul : T * pd_coef z (y + 1) ≤ 929 * 929 := Nat.mul_le_mul (by omega) (by rw [hcf]; omega)
          have hq9 : T * pd_coef z (y + 1) % 929 < 929 := Nat.mod_lt _ (by decide)
          have hfy : f y = pd_e K w i y := hf2 y (by omega) (by omega)
          have hfyl := pd_e_lt K w i y
          refine lv_iload hx hb dX2_generateErrorCorrection_53 (lv_at hl 7 rfl) ?_
          refine lv_iconst (v := (nI 1)) hx hb dX2_generateErrorCorrection_55 (by decide) ?_
          refine pd_icmp_lt (tgt := 108) hx hb (by omega) (by omega) dX2_generateErrorCorrection_56 (by decide) (fun c1 => absurd c1 (by omega)) (fun c1 => ?_)
          refine lv_iload hx hb dX2_generateErrorCorrection_59 (lv_at hl 6 rfl) ?_
          refine pd_gsE hx hb hown h (hts _ q266) dX2_generateErrorCorrection_61 ?_
          refine lv_iload_n hx hb dX2_generateErrorCorrection_64 rfl (lv_at hl 1 rfl) ?_
          refine pd_tabE hx hb h (by omega) dX2_generateErrorCorrection_65 ?_
          refine lv_iload hx hb dX2_generateErrorCorrection_66 (lv_at hl 7 rfl) ?_
          refine pd_tabR (i := z) hx hb h (by omega) (by rw [hKe]; omega) dX2_generateErrorCorrection_68 ?_
          refine pd_mul hx hb dX2_generateErrorCorrection_69 ?_
          refine lv_sipush (v := (nI 929)) hx hb dX2_generateErrorCorrection_70 (by decide) ?_
          refine pd_rem hx hb (by omega) (by omega) (by omega) dX2_generateErrorCorrection_73 ?_
          refine lv_istore (lv' := [(7, .int (nI ((T * (pd_coef z (y + 1))) % 929))), (0, .ref h0), (1, .int (nI z)), (2, .int (nI K)), (3, .ref qe), (4, .int (nI n)), (5, .int (nI i)), (6, .int (nI T)), (9, .int (nI (y + 1)))]) hx hb dX2_generateErrorCorrection_74 hl (by decide) rfl (fun ls hl => ?_)
          refine lv_sipush (v := (nI 929)) hx hb dX2_generateErrorCorrection_76 (by decide) ?_
          refine lv_iload hx hb dX2_generateErrorCorrection_79 (lv_at hl 0 rfl) ?_
          refine pd_subI hx hb (by omega) dX2_generateErrorCorrection_81 ?_
          refine lv_istore (lv' := [(8, .int (nI (929 - ((T * (pd_coef z (y + 1))) % 929)))), (7, .int (nI ((T * (pd_coef z (y + 1))) % 929))), (0, .ref h0), (1, .int (nI z)), (2, .int (nI K)), (3, .ref qe), (4, .int (nI n)), (5, .int (nI i)), (6, .int (nI T)), (9, .int (nI (y + 1)))]) hx hb dX2_generateErrorCorrection_82 hl (by decide) rfl (fun ls hl => ?_)
          refine lv_aload_n hx hb dX2_generateErrorCorrection_84 rfl (lv_at hl 5 rfl) ?_
          refine lv_iload hx hb dX2_generateErrorCorrection_85 (lv_at hl 9 rfl) ?_
          refine lv_aload_n hx hb dX2_generateErrorCorrection_87 rfl (lv_at hl 5 rfl) ?_
          refine lv_iload hx hb dX2_generateErrorCorrection_88 (lv_at hl 9 rfl) ?_
          refine lv_iconst (v := (nI 1)) hx hb dX2_generateErrorCorrection_90 (by decide) ?_
          refine pd_subI hx hb (by omega) dX2_generateErrorCorrection_91 ?_
          refine pd_top (y := (nI y)) (congrArg nI (by omega)) ?_
          refine pd_cald hx hb h 2 rfl (by omega) (by omega) dX2_generateErrorCorrection_92 ?_
          refine lv_iload hx hb dX2_generateErrorCorrection_93 (lv_at hl 0 rfl) ?_
          refine pd_add hx hb dX2_generateErrorCorrection_95 ?_
          refine lv_sipush (v := (nI 929)) hx hb dX2_generateErrorCorrection_96 (by decide) ?_
          refine pd_rem hx hb (by omega) (by omega) (by omega) dX2_generateErrorCorrection_99 ?_
          refine pd_i2cN hx hb (by omega) dX2_generateErrorCorrection_100 ?_
          refine pd_cast hx hb h 2 rfl (by omega) (by omega) (by omega) dX2_generateErrorCorrection_101 (fun H locs h => ?_)
          have h : pd_W G _ s H locs [(h0, .inr (2, [.ref v, .int (nI cd), .int (0), .int (0)])), (v, .inl (pd_cB G, nb, .inl (fun j => sb_b (f0 j)))), (qe, .inl (pd_cC G, K, .inl (fun j => nI ((va_up f (y + 1) (((f y) + (929 - ((T * (pd_coef z (y + 1))) % 929))) % 929)) j))))] := h
          refine lv_iinc (v := (nI y)) (lv' := [(9, .int (nI y)), (8, .int (nI (929 - ((T * (pd_coef z (y + 1))) % 929)))), (7, .int (nI ((T * (pd_coef z (y + 1))) % 929))), (0, .ref h0), (1, .int (nI z)), (2, .int (nI K)), (3, .ref qe), (4, .int (nI n)), (5, .int (nI i)), (6, .int (nI T))]) hx hb dX2_generateErrorCorrection_102 hl (k := 9) rfl (by rw [show Int32.ofInt (-1) = -1 from by decide]; exact pk_m1 y) (by decide) rfl (fun ls hl => ?_)
          refine lv_goto (tgt := 53) hx hb dX2_generateErrorCorrection_105 (by decide) ?_
          have hs := pd_reg_s (v := (f y + (929 - T * pd_coef z (y + 1) % 929)) % 929) (by omega) hf1 hf2 (by omega) (by rw [show y + 1 - 1 = y from rfl, hfy, hcf, ← hT2])
          exact ih2 y (va_up f (y + 1) ((f y + (929 - T * pd_coef z (y + 1) % 929)) % 929)) H _ ls (by omega) hs.1 hs.2 (h.sub [0, 1, 2] (by decide) rfl) (lv_sub hl [3, 4, 5, 6, 7, 8, 9, 0] rfl)
      exact key2 (K - 1) (K - 1) g H _ ls ⟨rfl, by omega⟩ (fun x h1 h2 => absurd h1 (by omega)) (fun x _ h2 => hg x h2) (h.sub [1, 2, 0] (by decide) rfl) (lv_sub hl [2, 3, 4, 5, 6, 7, 1, 0] rfl)
  exact key n 0 pd_z H _ ls (by omega) (fun x _ => rfl) (h.sub [1, 2, 0] (by decide) rfl) (lv_sub hl [4, 5, 3, 2, 1, 0] rfl)
set_option maxHeartbeats 4000000 in
set_option maxRecDepth 100000 in
theorem met_gen0 (l : Launch) (G : pd_G) (h0 z : Nat) (w : Nat → Nat) (sz : Nat) (hz : z < 8) : Met l yX2_generateErrorCorrection (ws_ yX2_generateErrorCorrection cX2_generateErrorCorrection 10 (some (.object "java/lang/String"))) ({ frames := 8, cells := 6, slots := (2 ^ (z + 1)) * 6 + 8, locals := 179 } : Room) (va_Pc [.ref h0, .int (nI z)] (pd_B G sz [(h0, .inr (2, [.ref ((pd_vE G)), .int (nI 0), .int (0), .int (0)]))])) (va_Qr (fun (u : Nat × Nat × Nat × (Nat → Nat)) => pd_st u.2.1 u.2.2.1 u.2.2.2 (2 ^ (z + 1)) (fun q => pd_out (2 ^ (z + 1)) w 0 q)) (fun (u : Nat × Nat × Nat × (Nat → Nat)) (q : Nat) t9 => pd_F G (va_A [(h0, .inr (2, [.ref ((pd_vE G)), .int (nI 0), .int (0), .int (0)]))] sz) ([(q, .inr (2, [.ref u.1, .int (nI u.2.1), .int (0), .int (0)])), (u.1, .inl (pd_cB G, u.2.2.1, .inl (fun j => sb_b (u.2.2.2 j))))]) t9) (va_A [(h0, .inr (2, [.ref ((pd_vE G)), .int (nI 0), .int (0), .int (0)]))] sz)) 6 ((2 ^ (z + 1)) * 6 + 8) (va_A [(h0, .inr (2, [.ref ((pd_vE G)), .int (nI 0), .int (0), .int (0)]))] sz) := by
  refine pd_start (by decide) (Nat.le_of_ble_eq_true rfl) ?_
  intro p e s m below meth co ls H locs ⟨hx, hb, hml, hown, hts⟩ hr hlk hnm hsz h hl
  have hown : s.vm.findClass RX2 = some m.cls := hown
  have hl : lv_has ls 10 [(0, .ref h0), (1, .int (nI z))] := hl
  have hK8 := pd_pow8 hz
  have hK0 : 2 ≤ 2 ^ (z + 1) := Nat.le_trans (by decide) (show 2 ^ 1 ≤ 2 ^ (z + 1) from Nat.pow_le_pow_right (n := 2) (by decide) (Nat.le_add_left 1 z))
  refine lv_iload_n hx hb dX2_generateErrorCorrection_0 rfl (lv_at hl 1 rfl) ?_
  refine pd_goi (wc := []) (wr := [(h0, .inr (2, [.ref ((pd_vE G)), .int (nI 0), .int (0), .int (0)]))]) h (va_runS (As := [.int (nI z)]) (rest := []) ⟨hx, hb, hml, hown, hts⟩ (met_gco l G z H.size hz) (va_cwS 1 hts (lw_S q132 q133 q7 q134) rfl rfl rfl (by decide +kernel) ⟨Nat.le_of_ble_eq_true rfl, Nat.le_of_ble_eq_true rfl⟩) ⟨pd_blind, pd_pre h [] (by decide) rfl⟩ rfl rfl hl.1 rfl (lv_room (Nat.le_of_ble_eq_true rfl)) dX2_generateErrorCorrection_1 ⟨(by first | omega | (dsimp only; omega)), (by first | omega | (dsimp only; omega))⟩) [] [0] rfl rfl (by decide) (by decide) (fun r1 u H locs hp h => ?_)
  have h : pd_W G _ s H locs [(h0, .inr (2, [.ref ((pd_vE G)), .int (nI 0), .int (0), .int (0)]))] := h
  obtain rfl : r1 = (nI (2 ^ (z + 1))) := hp
  have hcf : ∀ j, pd_coef z j = pd_pf (2 ^ (z + 1)) j := fun j => rfl
  generalize hKe : 2 ^ (z + 1) = K at hK8 hK0 hcf hl ⊢
  refine lv_istore_n (lv' := [(2, .int (nI K)), (0, .ref h0), (1, .int (nI z))]) hx hb dX2_generateErrorCorrection_4 rfl hl (by decide) rfl (fun ls hl => ?_)
  refine lv_iload_n hx hb dX2_generateErrorCorrection_5 rfl (lv_at hl 0 rfl) ?_
  refine pd_newC hx hb hts h (by omega) (by first | omega | (dsimp only; omega)) (by first | omega | (dsimp only; omega)) dX2_generateErrorCorrection_6 (fun qe H h => ?_)
  have h : pd_W G _ s H locs [(h0, .inr (2, [.ref ((pd_vE G)), .int (nI 0), .int (0), .int (0)])), (qe, .inl (pd_cC G, K, .inl (fun j => nI (pd_z j))))] := h
  refine lv_astore_n (lv' := [(3, .ref qe), (2, .int (nI K)), (0, .ref h0), (1, .int (nI z))]) hx hb dX2_generateErrorCorrection_8 rfl hl (by decide) rfl (fun ls hl => ?_)
  refine lv_aload_n hx hb dX2_generateErrorCorrection_9 rfl (lv_at hl 2 rfl) ?_
  refine pd_goFi (wc := [(h0, .inr (2, [.ref ((pd_vE G)), .int (nI 0), .int (0), .int (0)]))]) (wr := [(qe, .inl (pd_cC G, K, .inl (fun j => nI (pd_z j))))]) h (va_runF (As := []) (rest := []) (h.1.1 2 _ rfl).2 ⟨hx, hb, hml, hown, hts⟩ (met_sle1 l G h0 H.size) (va_cwF 0 hts (lw_F q201 q205 q207 q4 q209) rfl rfl rfl h.2.1.2.2.2.2.2.2.2.2.2.2.2.1 (by decide +kernel) ⟨Nat.le_of_ble_eq_true rfl, Nat.le_of_ble_eq_true rfl⟩) ⟨pd_blind, pd_recv h 0 rfl rfl, pd_pre h [0] (by decide) rfl⟩ rfl rfl hl.1 rfl (lv_room (Nat.le_of_ble_eq_true rfl)) dX2_generateErrorCorrection_10 ⟨(by first | omega | (dsimp only; omega)), (by first | omega | (dsimp only; omega))⟩) [0] [1] rfl rfl (by decide) (by decide) (fun r3 u H locs hp h => ?_)
  have h : pd_W G _ s H locs [(qe, .inl (pd_cC G, K, .inl (fun j => nI (pd_z j)))), (h0, .inr (2, [.ref ((pd_vE G)), .int (nI 0), .int (0), .int (0)]))] := h
  obtain rfl : r3 = (nI 0) := hp
  refine lv_istore (lv' := [(4, .int (nI 0)), (3, .ref qe), (2, .int (nI K)), (0, .ref h0), (1, .int (nI z))]) hx hb dX2_generateErrorCorrection_15 hl (by decide) rfl (fun ls hl => ?_)
  refine lv_iconst (v := (nI 0)) hx hb dX2_generateErrorCorrection_17 (by decide) ?_
  refine lv_istore (lv' := [(5, .int (nI 0)), (4, .int (nI 0)), (3, .ref qe), (2, .int (nI K)), (0, .ref h0), (1, .int (nI z))]) hx hb dX2_generateErrorCorrection_18 hl (by decide) rfl (fun ls hl => ?_)
  refine lv_iload hx hb dX2_generateErrorCorrection_20 (lv_at hl 0 rfl) ?_
  refine lv_iload hx hb dX2_generateErrorCorrection_22 (lv_at hl 1 rfl) ?_
  refine pd_icmp_ge (tgt := 148) hx hb (by omega) (by omega) dX2_generateErrorCorrection_24 (by decide) (fun c1 => ?_) (fun c1 => absurd c1 (by omega))
  have hge : ∀ x, x < K → pd_z x = pd_e K w 0 x := fun x _ => rfl
  have h : pd_W G (va_A [(h0, .inr (2, [.ref ((pd_vE G)), .int (nI 0), .int (0), .int (0)]))] sz) s H locs [(qe, .inl (pd_cC G, K, .inl (fun j => nI (pd_z j))))] := h.sub [0] (by decide) rfl
  refine pd_new (ci := 3) (fs := [.null, .int (0), .int (0), .int (0)]) (C := RJ10) (T := TJ10) (N := 4) hx hb hts hown h in_J10 tyJ10 tyJ10_ok (hts _ q268) (hts _ q269) (hts _ q15) rfl (fun j hj => by rcases (show j = 0 ∨ j = 1 ∨ j = 2 ∨ j = 3 by omega) with rfl | rfl | rfl | rfl <;> rfl) (by first | omega | (dsimp only; omega)) (by first | omega | (dsimp only; omega)) dX2_generateErrorCorrection_148 (fun qs H h => ?_)
  have h : pd_W G _ s H locs [(qe, .inl (pd_cC G, K, .inl (fun j => nI (pd_z j)))), (qs, .inr (3, [.null, .int (0), .int (0), .int (0)]))] := h
  refine lv_dup hx hb dX2_generateErrorCorrection_151 rfl ?_
  refine lv_iload_n hx hb dX2_generateErrorCorrection_152 rfl (lv_at hl 3 rfl) ?_
  refine pd_gov (wc := [(qs, .inr (3, [.null, .int (0), .int (0), .int (nI 0)]))]) (wr := [(qe, .inl (pd_cC G, K, .inl (fun j => nI (pd_z j))))]) h (va_runI (As := [.int (nI K)]) (rest := [.ref qs]) ⟨hx, hb, hml, hown, hts⟩ (met_sin l G qs K H.size (by omega)) (cwI 1 hts (lw_meth q272) rfl rfl rfl (hts _ q15) (hts _ q270) (hts _ q271) rfl (by decide +kernel) ⟨Nat.le_of_ble_eq_true rfl, Nat.le_of_ble_eq_true rfl⟩) ⟨pd_blind, pd_pre h [1] (by decide) rfl⟩ rfl rfl hl.1 rfl (lv_room (Nat.le_of_ble_eq_true rfl)) dX2_generateErrorCorrection_153 ⟨(by first | omega | (dsimp only; omega)), (by first | omega | (dsimp only; omega))⟩) [1] [0] rfl rfl (by decide) (by decide) (fun qb H locs hp h => ?_)
  have h : pd_W G _ s H locs [(qe, .inl (pd_cC G, K, .inl (fun j => nI (pd_z j)))), (qs, .inr (3, [.ref qb, .int (nI 0), .int (0), .int (nI 0)])), (qb, .inl (pd_cB G, K, .inl (fun j => sb_b (pd_z j))))] := h
  refine lv_astore (lv' := [(5, .ref qs), (4, .int (nI 0)), (3, .ref qe), (2, .int (nI K)), (0, .ref h0), (1, .int (nI z))]) hx hb dX2_generateErrorCorrection_156 hl (by decide) rfl (fun ls hl => ?_)
  refine lv_iload_n hx hb dX2_generateErrorCorrection_158 rfl (lv_at hl 3 rfl) ?_
  refine lv_iconst (v := (nI 1)) hx hb dX2_generateErrorCorrection_159 (by decide) ?_
  refine pd_subI hx hb (by omega) dX2_generateErrorCorrection_160 ?_
  refine lv_istore (lv' := [(6, .int (nI (K - 1))), (5, .ref qs), (4, .int (nI 0)), (3, .ref qe), (2, .int (nI K)), (0, .ref h0), (1, .int (nI z))]) hx hb dX2_generateErrorCorrection_161 hl (by decide) rfl (fun ls hl => ?_)
  rw [show nI (K - 1) = nI K + (-1) from by rw [← pk_m1 (K - 1), show K - 1 + 1 = K by omega]] at hl
  have keyU : ∀ (dU : Nat) (c : Nat) (qu : Nat) (f : Nat → Nat) (g : Nat → Nat) (H : Heap) (locs : List Loc) (ls : Array Slot), c + dU = K → (∀ x, x < dU → f x = pd_e K w 0 x) → (∀ j, j < c → pd_out K w 0 j < 65536 ∧ g (2 * j) = pd_out K w 0 j % 256 ∧ g (2 * j + 1) = pd_out K w 0 j / 256) → pd_W G (va_A [(h0, .inr (2, [.ref ((pd_vE G)), .int (nI 0), .int (0), .int (0)]))] sz) s H locs [(qe, .inl (pd_cC G, K, .inl (fun j => nI (f j)))), (qs, .inr (3, [.ref qu, .int (nI 1), .int (0), .int (nI c)])), (qu, .inl (pd_cB G, K * 2, .inl (fun j => sb_b (g j))))] → lv_has ls 10 [(2, .int (nI K)), (3, .ref qe), (5, .ref qs), (6, .int (nI dU + (-1)))] → W p l e ({ frames := 8, cells := 6, slots := K * 6 + 8, locals := 179 } : Room) s m ([.ref h0, .int (nI z)] : List Value).toArray below meth co H locs (0 + 0 + 1 + 0 + 1 + 1 + 1) (0 + 0 + K + 0 + 4 + K + K * 2) (MQ below (va_Qr (fun (u : Nat × Nat × Nat × (Nat → Nat)) => pd_st u.2.1 u.2.2.1 u.2.2.2 K (fun q => pd_out K w 0 q)) (fun (u : Nat × Nat × Nat × (Nat → Nat)) (q : Nat) t9 => pd_F G (va_A [(h0, .inr (2, [.ref ((pd_vE G)), .int (nI 0), .int (0), .int (0)]))] sz) ([(q, .inr (2, [.ref u.1, .int (nI u.2.1), .int (0), .int (0)])), (u.1, .inl (pd_cB G, u.2.2.1, .inl (fun j => sb_b (u.2.2.2 j))))]) t9) (va_A [(h0, .inr (2, [.ref ((pd_vE G)), .int (nI 0), .int (0), .int (0)]))] sz)) ([.ref h0, .int (nI z)] : List Value).toArray s 6 (K * 6 + 8) (va_A [(h0, .inr (2, [.ref ((pd_vE G)), .int (nI 0), .int (0), .int (0)]))] sz)) (F0 m 163 ls []) := by
    intro dU
    induction dU with
    | zero =>
      intro c qu f g H locs ls hc hf hg h hl
      obtain rfl : K = c := by omega
      refine lv_iload hx hb dX2_generateErrorCorrection_163 (lv_at hl 3 rfl) ?_
      refine lv_if_lt (tgt := 204) hx hb dX2_generateErrorCorrection_165 (by decide) (fun _ => ?_) (fun z => absurd (by decide) z)
      refine lv_aload hx hb dX2_generateErrorCorrection_204 (lv_at hl 2 rfl) ?_
      refine pd_gor (wc := [(qs, .inr (3, [.ref qu, .int (nI 1), .int (0), .int (nI K)])), (qu, .inl (pd_cB G, K * 2, .inl (fun j => sb_b (g j))))]) (wr := [(qe, .inl (pd_cC G, K, .inl (fun j => nI (f j))))]) h (va_runV (As := []) (rest := []) ⟨hx, hb, hml, hown, hts⟩ (met_sts l G qs qu 1 (K * 2) K g (fun q => pd_out K w 0 q) H.size (by omega) (Or.inr ⟨rfl, by omega, hg⟩)) (cwV 0 hts (lw_V q352 q353 q354 q15 q355) rfl rfl rfl (by decide +kernel) ⟨Nat.le_of_ble_eq_true rfl, Nat.le_of_ble_eq_true rfl⟩) ⟨pd_blind, pd_recv h 1 rfl rfl, pd_pre h [1, 2] (by decide) rfl⟩ rfl rfl hl.1 rfl (lv_room (Nat.le_of_ble_eq_true rfl)) dX2_generateErrorCorrection_206 ⟨(by first | omega | (dsimp only; omega)), (by first | omega | (dsimp only; omega))⟩) [1, 2] [0] rfl rfl (by decide) (by decide) (fun uo qo H locs hp h => ?_)
      have h : pd_W G _ s H locs [(qe, .inl (pd_cC G, K, .inl (fun j => nI (f j)))), (qo, .inr (2, [.ref uo, .int (nI 1), .int (0), .int (0)])), (uo, .inl (pd_cB G, K * 2, .inl (fun j => sb_b (g j))))] := h
      exact pd_aret hx hb hr (Or.inl ⟨_, rfl⟩) hlk h (uo, 1, K * 2, g) [1, 2] (by decide) rfl (Or.inr ⟨rfl, by show K * 2 = 2 * K; omega, hg⟩) (by first | omega | (dsimp only; omega)) (by first | omega | (dsimp only; omega)) dX2_generateErrorCorrection_209
    | succ dU ihU =>
      intro c qu f g H locs ls hc hf hg h hl
      rw [pk_m1 dU] at hl
      have hfd : f dU = pd_e K w 0 dU := hf dU (Nat.lt_succ_self _)
      have hfl := pd_e_lt K w 0 dU
      obtain ⟨X, hX⟩ : ∃ X, X = pd_out K w 0 c := ⟨_, rfl⟩
      have hXl : X < 929 := by rw [hX]; exact pd_out_lt K w 0 c
      have hXe : X = (929 - f dU) % 929 := by rw [hX, hfd]; unfold pd_out; rw [show K - 1 - c = dU by omega]
      refine lv_iload hx hb dX2_generateErrorCorrection_163 (lv_at hl 3 rfl) ?_
      refine lv_if_lt (tgt := 204) hx hb dX2_generateErrorCorrection_165 (by decide) (fun z => absurd z (nI_pos (by omega))) (fun _ => ?_)
      refine lv_aload_n hx hb dX2_generateErrorCorrection_168 rfl (lv_at hl 1 rfl) ?_
      refine lv_iload hx hb dX2_generateErrorCorrection_169 (lv_at hl 3 rfl) ?_
      refine pd_cald hx hb h 0 rfl (by omega) (by omega) dX2_generateErrorCorrection_171 ?_
      refine pd_if_eq (tgt := 188) hx hb (by omega) dX2_generateErrorCorrection_172 (by decide) (fun c6 => ?_) (fun c6 => ?_)
      · refine lv_aload hx hb dX2_generateErrorCorrection_188 (lv_at hl 2 rfl) ?_
        refine lv_aload_n hx hb dX2_generateErrorCorrection_190 rfl (lv_at hl 1 rfl) ?_
        refine lv_iload hx hb dX2_generateErrorCorrection_191 (lv_at hl 3 rfl) ?_
        refine pd_cald hx hb h 0 rfl (by omega) (by omega) dX2_generateErrorCorrection_193 ?_
        refine pd_top (y := (nI X)) (congrArg nI (by omega)) ?_
        refine pd_gor (wc := [(qs, .inr (3, [.ref qu, .int (nI 1), .int (0), .int (nI c)])), (qu, .inl (pd_cB G, K * 2, .inl (fun j => sb_b (g j))))]) (wr := [(qe, .inl (pd_cC G, K, .inl (fun j => nI (f j))))]) h (va_runV (As := [.int (nI X)]) (rest := []) ⟨hx, hb, hml, hown, hts⟩ (met_saU l G qs qu c K X g H.size (by omega) (by omega) (by omega)) (cwV 1 hts (lw_V q291 q292 q293 q15 q294) rfl rfl rfl (by decide +kernel) ⟨Nat.le_of_ble_eq_true rfl, Nat.le_of_ble_eq_true rfl⟩) ⟨pd_blind, pd_recv h 1 rfl rfl, pd_pre h [1, 2] (by decide) rfl⟩ rfl rfl hl.1 rfl (lv_room (Nat.le_of_ble_eq_true rfl)) dX2_generateErrorCorrection_194 ⟨(by first | omega | (dsimp only; omega)), (by first | omega | (dsimp only; omega))⟩) [1, 2] [0] rfl rfl (by decide) (by decide) (fun u qx H locs hp h => ?_)
        have h : pd_W G _ s H locs [(qe, .inl (pd_cC G, K, .inl (fun j => nI (f j)))), (qs, .inr (3, [.ref qu, .int (nI 1), .int (0), .int (nI ((c + 1)))])), (qu, .inl (pd_cB G, K * 2, .inl (fun j => sb_b ((va_up (va_up g (2 * c) (X % 256)) (2 * c + 1) (X / 256)) j))))] := h
        refine lv_pop hx hb dX2_generateErrorCorrection_197 rfl ?_
        refine lv_iinc (v := nI dU + (-1)) (lv' := [(6, .int (nI dU + (-1))), (2, .int (nI K)), (3, .ref qe), (5, .ref qs)]) hx hb dX2_generateErrorCorrection_198 hl (k := 3) rfl (by rw [show Int32.ofInt (-1) = -1 from by decide]) (by decide) rfl (fun ls hl => ?_)
        refine lv_goto (tgt := 163) hx hb dX2_generateErrorCorrection_201 (by decide) ?_
        exact ihU (c + 1) qu f (va_up (va_up g (2 * c) (X % 256)) (2 * c + 1) (X / 256)) H _ ls (by omega) (fun x hx9 => hf x (by omega)) (pd_two hg (by rw [hX]) (by rw [hX]) (by rw [← hX]; omega)) (h.sub [0, 1, 2] (by decide) rfl) (lv_sub hl [1, 2, 3, 0] rfl)
      · refine lv_aload_n hx hb dX2_generateErrorCorrection_175 rfl (lv_at hl 1 rfl) ?_
        refine lv_iload hx hb dX2_generateErrorCorrection_176 (lv_at hl 3 rfl) ?_
        refine lv_sipush (v := (nI 929)) hx hb dX2_generateErrorCorrection_178 (by decide) ?_
        refine lv_aload_n hx hb dX2_generateErrorCorrection_181 rfl (lv_at hl 1 rfl) ?_
        refine lv_iload hx hb dX2_generateErrorCorrection_182 (lv_at hl 3 rfl) ?_
        refine pd_cald hx hb h 0 rfl (by omega) (by omega) dX2_generateErrorCorrection_184 ?_
        refine pd_subI hx hb (by omega) dX2_generateErrorCorrection_185 ?_
        refine pd_i2cN hx hb (by omega) dX2_generateErrorCorrection_186 ?_
        refine pd_cast hx hb h 0 rfl (by omega) (by omega) (by omega) dX2_generateErrorCorrection_187 (fun H locs h => ?_)
        have h : pd_W G _ s H locs [(qe, .inl (pd_cC G, K, .inl (fun j => nI ((va_up f dU (929 - (f dU))) j)))), (qs, .inr (3, [.ref qu, .int (nI 1), .int (0), .int (nI c)])), (qu, .inl (pd_cB G, K * 2, .inl (fun j => sb_b (g j))))] := h
        refine lv_aload hx hb dX2_generateErrorCorrection_188 (lv_at hl 2 rfl) ?_
        refine lv_aload_n hx hb dX2_generateErrorCorrection_190 rfl (lv_at hl 1 rfl) ?_
        refine lv_iload hx hb dX2_generateErrorCorrection_191 (lv_at hl 3 rfl) ?_
        refine pd_cald hx hb h 0 rfl (by omega) (by omega) dX2_generateErrorCorrection_193 ?_
        refine pd_top (y := (nI X)) (by rw [va_up_self]; exact congrArg nI (by omega)) ?_
        refine pd_gor (wc := [(qs, .inr (3, [.ref qu, .int (nI 1), .int (0), .int (nI c)])), (qu, .inl (pd_cB G, K * 2, .inl (fun j => sb_b (g j))))]) (wr := [(qe, .inl (pd_cC G, K, .inl (fun j => nI ((va_up f dU (929 - (f dU))) j))))]) h (va_runV (As := [.int (nI X)]) (rest := []) ⟨hx, hb, hml, hown, hts⟩ (met_saU l G qs qu c K X g H.size (by omega) (by omega) (by omega)) (cwV 1 hts (lw_V q291 q292 q293 q15 q294) rfl rfl rfl (by decide +kernel) ⟨Nat.le_of_ble_eq_true rfl, Nat.le_of_ble_eq_true rfl⟩) ⟨pd_blind, pd_recv h 1 rfl rfl, pd_pre h [1, 2] (by decide) rfl⟩ rfl rfl hl.1 rfl (lv_room (Nat.le_of_ble_eq_true rfl)) dX2_generateErrorCorrection_194 ⟨(by first | omega | (dsimp only; omega)), (by first | omega | (dsimp only; omega))⟩) [1, 2] [0] rfl rfl (by decide) (by decide) (fun u qx H locs hp h => ?_)
        have h : pd_W G _ s H locs [(qe, .inl (pd_cC G, K, .inl (fun j => nI ((va_up f dU (929 - (f dU))) j)))), (qs, .inr (3, [.ref qu, .int (nI 1), .int (0), .int (nI ((c + 1)))])), (qu, .inl (pd_cB G, K * 2, .inl (fun j => sb_b ((va_up (va_up g (2 * c) (X % 256)) (2 * c + 1) (X / 256)) j))))] := h
        refine lv_pop hx hb dX2_generateErrorCorrection_197 rfl ?_
        refine lv_iinc (v := nI dU + (-1)) (lv' := [(6, .int (nI dU + (-1))), (2, .int (nI K)), (3, .ref qe), (5, .ref qs)]) hx hb dX2_generateErrorCorrection_198 hl (k := 3) rfl (by rw [show Int32.ofInt (-1) = -1 from by decide]) (by decide) rfl (fun ls hl => ?_)
        refine lv_goto (tgt := 163) hx hb dX2_generateErrorCorrection_201 (by decide) ?_
        exact ihU (c + 1) qu (va_up f dU (929 - f dU)) (va_up (va_up g (2 * c) (X % 256)) (2 * c + 1) (X / 256)) H _ ls (by omega) (fun x hx9 => by rw [va_up_ne _ _ (by omega)]; exact hf x (by omega)) (pd_two hg (by rw [hX]) (by rw [hX]) (by rw [← hX]; omega)) (h.sub [0, 1, 2] (by decide) rfl) (lv_sub hl [1, 2, 3, 0] rfl)
  have keyL : ∀ (dL : Nat) (c : Nat) (f : Nat → Nat) (g : Nat → Nat) (H : Heap) (locs : List Loc) (ls : Array Slot), c + dL = K → (∀ x, x < dL → f x = pd_e K w 0 x) → (∀ j, j < c → pd_out K w 0 j < 256 ∧ g j = pd_out K w 0 j) → pd_W G (va_A [(h0, .inr (2, [.ref ((pd_vE G)), .int (nI 0), .int (0), .int (0)]))] sz) s H locs [(qe, .inl (pd_cC G, K, .inl (fun j => nI (f j)))), (qs, .inr (3, [.ref qb, .int (nI 0), .int (0), .int (nI c)])), (qb, .inl (pd_cB G, K, .inl (fun j => sb_b (g j))))] → lv_has ls 10 [(2, .int (nI K)), (3, .ref qe), (5, .ref qs), (6, .int (nI dL + (-1)))] → W p l e ({ frames := 8, cells := 6, slots := K * 6 + 8, locals := 179 } : Room) s m ([.ref h0, .int (nI z)] : List Value).toArray below meth co H locs (0 + 0 + 1 + 0 + 1 + 1) (0 + 0 + K + 0 + 4 + K) (MQ below (va_Qr (fun (u : Nat × Nat × Nat × (Nat → Nat)) => pd_st u.2.1 u.2.2.1 u.2.2.2 K (fun q => pd_out K w 0 q)) (fun (u : Nat × Nat × Nat × (Nat → Nat)) (q : Nat) t9 => pd_F G (va_A [(h0, .inr (2, [.ref ((pd_vE G)), .int (nI 0), .int (0), .int (0)]))] sz) ([(q, .inr (2, [.ref u.1, .int (nI u.2.1), .int (0), .int (0)])), (u.1, .inl (pd_cB G, u.2.2.1, .inl (fun j => sb_b (u.2.2.2 j))))]) t9) (va_A [(h0, .inr (2, [.ref ((pd_vE G)), .int (nI 0), .int (0), .int (0)]))] sz)) ([.ref h0, .int (nI z)] : List Value).toArray s 6 (K * 6 + 8) (va_A [(h0, .inr (2, [.ref ((pd_vE G)), .int (nI 0), .int (0), .int (0)]))] sz)) (F0 m 163 ls []) := by
    intro dL
    induction dL with
    | zero =>
      intro c f g H locs ls hc hf hg h hl
      obtain rfl : K = c := by omega
      refine lv_iload hx hb dX2_generateErrorCorrection_163 (lv_at hl 3 rfl) ?_
      refine lv_if_lt (tgt := 204) hx hb dX2_generateErrorCorrection_165 (by decide) (fun _ => ?_) (fun z => absurd (by decide) z)
      refine lv_aload hx hb dX2_generateErrorCorrection_204 (lv_at hl 2 rfl) ?_
      refine pd_gor (wc := [(qs, .inr (3, [.ref qb, .int (nI 0), .int (0), .int (nI K)])), (qb, .inl (pd_cB G, K, .inl (fun j => sb_b (g j))))]) (wr := [(qe, .inl (pd_cC G, K, .inl (fun j => nI (f j))))]) h (va_runV (As := []) (rest := []) ⟨hx, hb, hml, hown, hts⟩ (met_sts l G qs qb 0 K K g (fun q => pd_out K w 0 q) H.size (by omega) (Or.inl ⟨rfl, rfl, hg⟩)) (cwV 0 hts (lw_V q352 q353 q354 q15 q355) rfl rfl rfl (by decide +kernel) ⟨Nat.le_of_ble_eq_true rfl, Nat.le_of_ble_eq_true rfl⟩) ⟨pd_blind, pd_recv h 1 rfl rfl, pd_pre h [1, 2] (by decide) rfl⟩ rfl rfl hl.1 rfl (lv_room (Nat.le_of_ble_eq_true rfl)) dX2_generateErrorCorrection_206 ⟨(by first | omega | (dsimp only; omega)), (by first | omega | (dsimp only; omega))⟩) [1, 2] [0] rfl rfl (by decide) (by decide) (fun uo qo H locs hp h => ?_)
      have h : pd_W G _ s H locs [(qe, .inl (pd_cC G, K, .inl (fun j => nI (f j)))), (qo, .inr (2, [.ref uo, .int (nI 0), .int (0), .int (0)])), (uo, .inl (pd_cB G, K, .inl (fun j => sb_b (g j))))] := h
      exact pd_aret hx hb hr (Or.inl ⟨_, rfl⟩) hlk h (uo, 0, K, g) [1, 2] (by decide) rfl (Or.inl ⟨rfl, rfl, hg⟩) (by first | omega | (dsimp only; omega)) (by first | omega | (dsimp only; omega)) dX2_generateErrorCorrection_209
    | succ dL ihL =>
      intro c f g H locs ls hc hf hg h hl
      rw [pk_m1 dL] at hl
      have hfd : f dL = pd_e K w 0 dL := hf dL (Nat.lt_succ_self _)
      have hfl := pd_e_lt K w 0 dL
      obtain ⟨X, hX⟩ : ∃ X, X = pd_out K w 0 c := ⟨_, rfl⟩
      have hXl : X < 929 := by rw [hX]; exact pd_out_lt K w 0 c
      have hXe : X = (929 - f dL) % 929 := by rw [hX, hfd]; unfold pd_out; rw [show K - 1 - c = dL by omega]
      refine lv_iload hx hb dX2_generateErrorCorrection_163 (lv_at hl 3 rfl) ?_
      refine lv_if_lt (tgt := 204) hx hb dX2_generateErrorCorrection_165 (by decide) (fun z => absurd z (nI_pos (by omega))) (fun _ => ?_)
      refine lv_aload_n hx hb dX2_generateErrorCorrection_168 rfl (lv_at hl 1 rfl) ?_
      refine lv_iload hx hb dX2_generateErrorCorrection_169 (lv_at hl 3 rfl) ?_
      refine pd_cald hx hb h 0 rfl (by omega) (by omega) dX2_generateErrorCorrection_171 ?_
      refine pd_if_eq (tgt := 188) hx hb (by omega) dX2_generateErrorCorrection_172 (by decide) (fun c6 => ?_) (fun c6 => ?_)
      · refine lv_aload hx hb dX2_generateErrorCorrection_188 (lv_at hl 2 rfl) ?_
        refine lv_aload_n hx hb dX2_generateErrorCorrection_190 rfl (lv_at hl 1 rfl) ?_
        refine lv_iload hx hb dX2_generateErrorCorrection_191 (lv_at hl 3 rfl) ?_
        refine pd_cald hx hb h 0 rfl (by omega) (by omega) dX2_generateErrorCorrection_193 ?_
        refine pd_top (y := (nI X)) (congrArg nI (by omega)) ?_
        have hX8 : X < 256 := by omega
        refine pd_gor (wc := [(qs, .inr (3, [.ref qb, .int (nI 0), .int (0), .int (nI c)])), (qb, .inl (pd_cB G, K, .inl (fun j => sb_b (g j))))]) (wr := [(qe, .inl (pd_cC G, K, .inl (fun j => nI (f j))))]) h (va_runV (As := [.int (nI X)]) (rest := []) ⟨hx, hb, hml, hown, hts⟩ (met_saL l G qs qb c K X g H.size (by omega) (by omega) hX8) (cwV 1 hts (lw_V q291 q292 q293 q15 q294) rfl rfl rfl (by decide +kernel) ⟨Nat.le_of_ble_eq_true rfl, Nat.le_of_ble_eq_true rfl⟩) ⟨pd_blind, pd_recv h 1 rfl rfl, pd_pre h [1, 2] (by decide) rfl⟩ rfl rfl hl.1 rfl (lv_room (Nat.le_of_ble_eq_true rfl)) dX2_generateErrorCorrection_194 ⟨(by first | omega | (dsimp only; omega)), (by first | omega | (dsimp only; omega))⟩) [1, 2] [0] rfl rfl (by decide) (by decide) (fun u qx H locs hp h => ?_)
        have h : pd_W G _ s H locs [(qe, .inl (pd_cC G, K, .inl (fun j => nI (f j)))), (qs, .inr (3, [.ref qb, .int (nI 0), .int (0), .int (nI ((c + 1)))])), (qb, .inl (pd_cB G, K, .inl (fun j => sb_b ((va_up g c X) j))))] := h
        refine lv_pop hx hb dX2_generateErrorCorrection_197 rfl ?_
        refine lv_iinc (v := nI dL + (-1)) (lv' := [(6, .int (nI dL + (-1))), (2, .int (nI K)), (3, .ref qe), (5, .ref qs)]) hx hb dX2_generateErrorCorrection_198 hl (k := 3) rfl (by rw [show Int32.ofInt (-1) = -1 from by decide]) (by decide) rfl (fun ls hl => ?_)
        refine lv_goto (tgt := 163) hx hb dX2_generateErrorCorrection_201 (by decide) ?_
        exact ihL (c + 1) f (va_up g c X) H _ ls (by omega) (fun x hx9 => hf x (by omega)) (pd_lat hg hX (by rw [← hX]; exact hX8)) (h.sub [0, 1, 2] (by decide) rfl) (lv_sub hl [1, 2, 3, 0] rfl)
      · refine lv_aload_n hx hb dX2_generateErrorCorrection_175 rfl (lv_at hl 1 rfl) ?_
        refine lv_iload hx hb dX2_generateErrorCorrection_176 (lv_at hl 3 rfl) ?_
        refine lv_sipush (v := (nI 929)) hx hb dX2_generateErrorCorrection_178 (by decide) ?_
        refine lv_aload_n hx hb dX2_generateErrorCorrection_181 rfl (lv_at hl 1 rfl) ?_
        refine lv_iload hx hb dX2_generateErrorCorrection_182 (lv_at hl 3 rfl) ?_
        refine pd_cald hx hb h 0 rfl (by omega) (by omega) dX2_generateErrorCorrection_184 ?_
        refine pd_subI hx hb (by omega) dX2_generateErrorCorrection_185 ?_
        refine pd_i2cN hx hb (by omega) dX2_generateErrorCorrection_186 ?_
        refine pd_cast hx hb h 0 rfl (by omega) (by omega) (by omega) dX2_generateErrorCorrection_187 (fun H locs h => ?_)
        have h : pd_W G _ s H locs [(qe, .inl (pd_cC G, K, .inl (fun j => nI ((va_up f dL (929 - (f dL))) j)))), (qs, .inr (3, [.ref qb, .int (nI 0), .int (0), .int (nI c)])), (qb, .inl (pd_cB G, K, .inl (fun j => sb_b (g j))))] := h
        refine lv_aload hx hb dX2_generateErrorCorrection_188 (lv_at hl 2 rfl) ?_
        refine lv_aload_n hx hb dX2_generateErrorCorrection_190 rfl (lv_at hl 1 rfl) ?_
        refine lv_iload hx hb dX2_generateErrorCorrection_191 (lv_at hl 3 rfl) ?_
        refine pd_cald hx hb h 0 rfl (by omega) (by omega) dX2_generateErrorCorrection_193 ?_
        refine pd_top (y := (nI X)) (by rw [va_up_self]; exact congrArg nI (by omega)) ?_
        by_cases hX8 : X < 256
        · refine pd_gor (wc := [(qs, .inr (3, [.ref qb, .int (nI 0), .int (0), .int (nI c)])), (qb, .inl (pd_cB G, K, .inl (fun j => sb_b (g j))))]) (wr := [(qe, .inl (pd_cC G, K, .inl (fun j => nI ((va_up f dL (929 - (f dL))) j))))]) h (va_runV (As := [.int (nI X)]) (rest := []) ⟨hx, hb, hml, hown, hts⟩ (met_saL l G qs qb c K X g H.size (by omega) (by omega) hX8) (cwV 1 hts (lw_V q291 q292 q293 q15 q294) rfl rfl rfl (by decide +kernel) ⟨Nat.le_of_ble_eq_true rfl, Nat.le_of_ble_eq_true rfl⟩) ⟨pd_blind, pd_recv h 1 rfl rfl, pd_pre h [1, 2] (by decide) rfl⟩ rfl rfl hl.1 rfl (lv_room (Nat.le_of_ble_eq_true rfl)) dX2_generateErrorCorrection_194 ⟨(by first | omega | (dsimp only; omega)), (by first | omega | (dsimp only; omega))⟩) [1, 2] [0] rfl rfl (by decide) (by decide) (fun u qx H locs hp h => ?_)
          have h : pd_W G _ s H locs [(qe, .inl (pd_cC G, K, .inl (fun j => nI ((va_up f dL (929 - (f dL))) j)))), (qs, .inr (3, [.ref qb, .int (nI 0), .int (0), .int (nI ((c + 1)))])), (qb, .inl (pd_cB G, K, .inl (fun j => sb_b ((va_up g c X) j))))] := h
          refine lv_pop hx hb dX2_generateErrorCorrection_197 rfl ?_
          refine lv_iinc (v := nI dL + (-1)) (lv' := [(6, .int (nI dL + (-1))), (2, .int (nI K)), (3, .ref qe), (5, .ref qs)]) hx hb dX2_generateErrorCorrection_198 hl (k := 3) rfl (by rw [show Int32.ofInt (-1) = -1 from by decide]) (by decide) rfl (fun ls hl => ?_)
          refine lv_goto (tgt := 163) hx hb dX2_generateErrorCorrection_201 (by decide) ?_
          exact ihL (c + 1) (va_up f dL (929 - f dL)) (va_up g c X) H _ ls (by omega) (fun x hx9 => by rw [va_up_ne _ _ (by omega)]; exact hf x (by omega)) (pd_lat hg hX (by rw [← hX]; exact hX8)) (h.sub [0, 1, 2] (by decide) rfl) (lv_sub hl [1, 2, 3, 0] rfl)
        · refine pd_gor (wc := [(qs, .inr (3, [.ref qb, .int (nI 0), .int (0), .int (nI c)])), (qb, .inl (pd_cB G, K, .inl (fun j => sb_b (g j))))]) (wr := [(qe, .inl (pd_cC G, K, .inl (fun j => nI ((va_up f dL (929 - (f dL))) j))))]) h (va_runV (As := [.int (nI X)]) (rest := []) ⟨hx, hb, hml, hown, hts⟩ (met_saI l G qs qb c K X g H.size (by omega) (by omega) (fun j hj => by rw [(hg j hj).2]; exact (hg j hj).1) (by omega) (by omega)) (cwV 1 hts (lw_V q291 q292 q293 q15 q294) rfl rfl rfl (by decide +kernel) ⟨Nat.le_of_ble_eq_true rfl, Nat.le_of_ble_eq_true rfl⟩) ⟨pd_blind, pd_recv h 1 rfl rfl, pd_pre h [1, 2] (by decide) rfl⟩ rfl rfl hl.1 rfl (lv_room (Nat.le_of_ble_eq_true rfl)) dX2_generateErrorCorrection_194 ⟨(by first | omega | (dsimp only; omega)), (by first | omega | (dsimp only; omega))⟩) [1, 2] [0] rfl rfl (by decide) (by decide) (fun u5 qx H locs h5 h => ?_)
          have h : pd_W G _ s H locs [(qe, .inl (pd_cC G, K, .inl (fun j => nI ((va_up f dL (929 - (f dL))) j)))), (qs, .inr (3, [.ref u5.1, .int (nI 1), .int (0), .int (nI ((c + 1)))])), (u5.1, .inl (pd_cB G, K * 2, .inl (fun j => sb_b (u5.2 j))))] := h
          obtain ⟨qu, gu⟩ := u5
          obtain ⟨g5, h51, h52⟩ := h5
          obtain rfl : gu = va_up (va_up g5 (2 * c) (X % 256)) (2 * c + 1) (X / 256) := h52
          have h : pd_W G _ s H locs [(qe, .inl (pd_cC G, K, .inl (fun j => nI ((va_up f dL (929 - (f dL))) j)))), (qs, .inr (3, [.ref qu, .int (nI 1), .int (0), .int (nI ((c + 1)))])), (qu, .inl (pd_cB G, K * 2, .inl (fun j => sb_b ((va_up (va_up g5 (2 * c) (X % 256)) (2 * c + 1) (X / 256)) j))))] := h
          refine lv_pop hx hb dX2_generateErrorCorrection_197 rfl ?_
          refine lv_iinc (v := nI dL + (-1)) (lv' := [(6, .int (nI dL + (-1))), (2, .int (nI K)), (3, .ref qe), (5, .ref qs)]) hx hb dX2_generateErrorCorrection_198 hl (k := 3) rfl (by rw [show Int32.ofInt (-1) = -1 from by decide]) (by decide) rfl (fun ls hl => ?_)
          refine lv_goto (tgt := 163) hx hb dX2_generateErrorCorrection_201 (by decide) ?_
          exact keyU dL (c + 1) qu (va_up f dL (929 - f dL)) (va_up (va_up g5 (2 * c) (X % 256)) (2 * c + 1) (X / 256)) H _ ls (by omega) (fun x hx9 => by rw [va_up_ne _ _ (by omega)]; exact hf x (by omega)) (pd_two (t := (fun q => pd_out K w 0 q)) (fun j hj => by have h6 := h51 j hj; rw [(hg j hj).2] at h6; exact h6) (by rw [hX]) (by rw [hX]) (by rw [← hX]; omega)) (h.sub [0, 1, 2] (by decide) rfl) (lv_sub hl [1, 2, 3, 0] rfl)
  exact keyL K 0 pd_z pd_z H _ ls (by omega) hge (fun j hj => absurd hj (Nat.not_lt_zero j)) (h.sub [0, 1, 2] (by decide) rfl) (lv_sub hl [4, 3, 1, 0] rfl)
end
section
/-! PdfParityDesk -/
set_option maxRecDepth 100000
set_option maxHeartbeats 4000000 in
set_option maxRecDepth 100000 in
theorem met_din (l : Launch) (G : pd_G) (h0 : Nat) (sz : Nat) : Met l yX0_init (ws_ yX0_init cX0_init 1 none) ({ frames := 1, cells := 1, slots := 64, locals := 12 } : Room) (va_Pc [.ref h0] (pd_B G sz [(h0, .inr (0, [.null, .int (nI 0), .null]))])) (va_Qv (fun (u : Nat) => True) (fun (u : Nat) t9 => pd_F G (va_A [(h0, .inr (0, [.null, .int (nI 0), .null]))] sz) ([(h0, .inr (0, [.ref u, .int (nI 0), .ref ((pd_qE G))])), (u, .inl (pd_cC G, 64, .inl (fun j => nI (pd_z j))))]) t9) (va_A [(h0, .inr (0, [.null, .int (nI 0), .null]))] sz)) 1 64 (va_A [(h0, .inr (0, [.null, .int (nI 0), .null]))] sz) := by
  refine pd_start (by decide) (Nat.le_of_ble_eq_true rfl) ?_
  intro p e s m below meth co ls H locs ⟨hx, hb, hml, hown, hts⟩ hr hlk hnm hsz h hl
  have hown : s.vm.findClass RX0 = some m.cls := hown
  have hl : lv_has ls 1 [(0, .ref h0)] := hl
  refine lv_aload_n hx hb dX0_init_0 rfl (lv_at hl 0 rfl) ?_
  refine W.objInit hx hb hown (hts _ q24) (hts _ q25) (hts _ q26) rfl (by rw [hml]; exact hl.1) rfl dX0_init_1 (Nat.le_of_ble_eq_true rfl) (Nat.le_of_ble_eq_true rfl) ?_
  refine W.eq (g2 := F0 m 4 ls []) rfl ?_
  refine lv_aload_n hx hb dX0_init_4 rfl (lv_at hl 0 rfl) ?_
  refine lv_bipush (v := (nI 64)) hx hb dX0_init_5 (by decide) ?_
  refine pd_newC hx hb hts h (by omega) (by first | omega | (dsimp only; omega)) (by first | omega | (dsimp only; omega)) dX0_init_7 (fun qa H h => ?_)
  have h : pd_W G _ s H locs [(h0, .inr (0, [.null, .int (nI 0), .null])), (qa, .inl (pd_cC G, 64, .inl (fun j => nI (pd_z j))))] := h
  refine pd_putF (ci := 0) (v := .ref qa) (ty := .array .char) (C := RX0) (T := TX0) (N := 3) hx hb hts hown h in_X0 tyX0 tyX0_ok nmX0 0 rfl rfl 0 (by decide) (hts _ q28) (fun _ h9 => h9) rfl hnm rfl (by decide +kernel) rfl rfl (Nat.le_of_ble_eq_true rfl) dX0_init_9 (fun H locs h => ?_)
  have h : pd_W G _ s H locs [(h0, .inr (0, [.ref qa, .int (nI 0), .null])), (qa, .inl (pd_cC G, 64, .inl (fun j => nI (pd_z j))))] := h
  refine lv_aload_n hx hb dX0_init_12 rfl (lv_at hl 0 rfl) ?_
  refine pd_ldcD hx hb hown h dX0_init_13 ?_
  refine pd_put (ci := 0) (v := .ref ((pd_qE G))) (ty := .object "java/lang/String") (C := RX0) (T := TX0) (N := 3) hx hb hts hown h in_X0 tyX0 tyX0_ok nmX0 0 rfl rfl 2 (by decide) (hts _ q30) (fun _ h9 => h9) rfl (by decide +kernel) rfl rfl (Nat.le_of_ble_eq_true rfl) dX0_init_15 (fun H locs h => ?_)
  have h : pd_W G _ s H locs [(h0, .inr (0, [.ref qa, .int (nI 0), .ref ((pd_qE G))])), (qa, .inl (pd_cC G, 64, .inl (fun j => nI (pd_z j))))] := h
  exact pd_vret hx hb hr hlk h qa [0, 1] (by decide) rfl trivial (by first | omega | (dsimp only; omega)) (by first | omega | (dsimp only; omega)) dX0_init_18
set_option maxHeartbeats 4000000 in
set_option maxRecDepth 100000 in
theorem met_dpy (l : Launch) (G : pd_G) (h0 v tl n : Nat) (w : Nat → Nat) (a b : Int32) (sz : Nat) (hn : n ≤ 62) : Met l yX0_put (ws_ yX0_put cX0_put 3 (some .boolean)) ({ frames := 0, cells := 0, slots := 0, locals := 0 } : Room) (va_Pc [.ref h0, .int (a), .int (b)] (pd_B G sz [(h0, .inr (0, [.ref v, .int (nI n), .ref tl])), (v, .inl (pd_cC G, 64, .inl (fun j => nI (w j))))])) (va_Qi (fun (r : Int32) (u : Unit) => r = nI 1) (fun (u : Unit) t9 => pd_F G (va_A [(h0, .inr (0, [.ref v, .int (nI n), .ref tl])), (v, .inl (pd_cC G, 64, .inl (fun j => nI (w j))))] sz) ([(h0, .inr (0, [.ref v, .int (nI ((n + 2))), .ref tl])), (v, .inl (pd_cC G, 64, .inl (fun j => nI ((va_up (va_up w n (pd_pl a % 929)) (n + 1) (pd_pl b % 929)) j))))]) t9) (va_A [(h0, .inr (0, [.ref v, .int (nI n), .ref tl])), (v, .inl (pd_cC G, 64, .inl (fun j => nI (w j))))] sz)) 0 0 (va_A [(h0, .inr (0, [.ref v, .int (nI n), .ref tl])), (v, .inl (pd_cC G, 64, .inl (fun j => nI (w j))))] sz) := by
  refine pd_start (by decide) (Nat.le_of_ble_eq_true rfl) ?_
  intro p e s m below meth co ls H locs ⟨hx, hb, hml, hown, hts⟩ hr hlk hnm hsz h hl
  have hown : s.vm.findClass RX0 = some m.cls := hown
  have hl : lv_has ls 3 [(0, .ref h0), (1, .int (a)), (2, .int (b))] := hl
  refine lv_aload_n hx hb dX0_put_0 rfl (lv_at hl 0 rfl) ?_
  refine va_get (D := pd_D G) (ci := 0) (v := .int (nI n)) (C := RX0) (T := TX0) (N := 3) hx hb hts in_X0 hown h.1 h.2.2.2.1 0 rfl rfl 1 (by decide) (hts _ q29) (fun _ h9 => h9) rfl dX0_put_1 ?_
  refine lv_bipush (v := (nI 62)) hx hb dX0_put_4 (by decide) ?_
  have hpa := pd_pl_lt a
  have hpb := pd_pl_lt b
  refine pd_icmp_le (tgt := 11) hx hb (by omega) (by omega) dX0_put_6 (by decide) (fun c1 => ?_) (fun c1 => absurd c1 (by omega))
  refine lv_aload_n hx hb dX0_put_11 rfl (lv_at hl 0 rfl) ?_
  refine va_get (D := pd_D G) (ci := 0) (v := .ref v) (C := RX0) (T := TX0) (N := 3) hx hb hts in_X0 hown h.1 h.2.2.2.1 0 rfl rfl 0 (by decide) (hts _ q28) (fun _ h9 => h9) rfl dX0_put_12 ?_
  refine lv_aload_n hx hb dX0_put_15 rfl (lv_at hl 0 rfl) ?_
  refine lv_dup hx hb dX0_put_16 rfl ?_
  refine va_get (D := pd_D G) (ci := 0) (v := .int (nI n)) (C := RX0) (T := TX0) (N := 3) hx hb hts in_X0 hown h.1 h.2.2.2.1 0 rfl rfl 1 (by decide) (hts _ q29) (fun _ h9 => h9) rfl dX0_put_17 ?_
  refine lv_dup_x1 hx hb dX0_put_20 rfl rfl ?_
  refine lv_iconst (v := (nI 1)) hx hb dX0_put_21 (by decide) ?_
  refine pd_add hx hb dX0_put_22 ?_
  refine pd_put (ci := 0) (v := .int (nI (n + 1))) (ty := .int) (C := RX0) (T := TX0) (N := 3) hx hb hts hown h in_X0 tyX0 tyX0_ok nmX0 0 rfl rfl 1 (by decide) (hts _ q29) (fun _ h9 => h9) rfl (by decide +kernel) rfl rfl (Nat.le_of_ble_eq_true rfl) dX0_put_23 (fun H locs h => ?_)
  have h : pd_W G _ s H locs [(h0, .inr (0, [.ref v, .int (nI (n + 1)), .ref tl])), (v, .inl (pd_cC G, 64, .inl (fun j => nI (w j))))] := h
  refine lv_iload_n hx hb dX0_put_26 rfl (lv_at hl 1 rfl) ?_
  refine lv_ldc (v := 2147483647) hx hb hown (hts _ q44) dX0_put_27 ?_
  refine lv_iand hx hb dX0_put_29 ?_
  refine pd_top (y := (nI (pd_pl a))) (pd_pl_and a) ?_
  refine lv_sipush (v := (nI 929)) hx hb dX0_put_30 (by decide) ?_
  refine pd_rem hx hb (by omega) (by omega) (by omega) dX0_put_33 ?_
  refine pd_i2cN hx hb (by omega) dX0_put_34 ?_
  refine pd_cast hx hb h 1 rfl (by omega) (by omega) (by omega) dX0_put_35 (fun H locs h => ?_)
  have h : pd_W G _ s H locs [(h0, .inr (0, [.ref v, .int (nI (n + 1)), .ref tl])), (v, .inl (pd_cC G, 64, .inl (fun j => nI ((va_up w n ((pd_pl a) % 929)) j))))] := h
  refine lv_aload_n hx hb dX0_put_36 rfl (lv_at hl 0 rfl) ?_
  refine va_get (D := pd_D G) (ci := 0) (v := .ref v) (C := RX0) (T := TX0) (N := 3) hx hb hts in_X0 hown h.1 h.2.2.2.1 0 rfl rfl 0 (by decide) (hts _ q28) (fun _ h9 => h9) rfl dX0_put_37 ?_
  refine lv_aload_n hx hb dX0_put_40 rfl (lv_at hl 0 rfl) ?_
  refine lv_dup hx hb dX0_put_41 rfl ?_
  refine va_get (D := pd_D G) (ci := 0) (v := .int (nI (n + 1))) (C := RX0) (T := TX0) (N := 3) hx hb hts in_X0 hown h.1 h.2.2.2.1 0 rfl rfl 1 (by decide) (hts _ q29) (fun _ h9 => h9) rfl dX0_put_42 ?_
  refine lv_dup_x1 hx hb dX0_put_45 rfl rfl ?_
  refine lv_iconst (v := (nI 1)) hx hb dX0_put_46 (by decide) ?_
  refine pd_add hx hb dX0_put_47 ?_
  refine pd_put (ci := 0) (v := .int (nI ((n + 1) + 1))) (ty := .int) (C := RX0) (T := TX0) (N := 3) hx hb hts hown h in_X0 tyX0 tyX0_ok nmX0 0 rfl rfl 1 (by decide) (hts _ q29) (fun _ h9 => h9) rfl (by decide +kernel) rfl rfl (Nat.le_of_ble_eq_true rfl) dX0_put_48 (fun H locs h => ?_)
  have h : pd_W G _ s H locs [(h0, .inr (0, [.ref v, .int (nI ((n + 1) + 1)), .ref tl])), (v, .inl (pd_cC G, 64, .inl (fun j => nI ((va_up w n ((pd_pl a) % 929)) j))))] := h
  refine lv_iload_n hx hb dX0_put_51 rfl (lv_at hl 2 rfl) ?_
  refine lv_ldc (v := 2147483647) hx hb hown (hts _ q44) dX0_put_52 ?_
  refine lv_iand hx hb dX0_put_54 ?_
  refine pd_top (y := (nI (pd_pl b))) (pd_pl_and b) ?_
  refine lv_sipush (v := (nI 929)) hx hb dX0_put_55 (by decide) ?_
  refine pd_rem hx hb (by omega) (by omega) (by omega) dX0_put_58 ?_
  refine pd_i2cN hx hb (by omega) dX0_put_59 ?_
  refine pd_cast hx hb h 1 rfl (by omega) (by omega) (by omega) dX0_put_60 (fun H locs h => ?_)
  have h : pd_W G _ s H locs [(h0, .inr (0, [.ref v, .int (nI ((n + 1) + 1)), .ref tl])), (v, .inl (pd_cC G, 64, .inl (fun j => nI ((va_up (va_up w n ((pd_pl a) % 929)) (n + 1) ((pd_pl b) % 929)) j))))] := h
  have h : pd_W G _ s H locs [(h0, .inr (0, [.ref v, .int (nI ((n + 2))), .ref tl])), (v, .inl (pd_cC G, 64, .inl (fun j => nI ((va_up (va_up w n (pd_pl a % 929)) (n + 1) (pd_pl b % 929)) j))))] := h
  refine lv_iconst (v := (nI 1)) hx hb dX0_put_61 (by decide) ?_
  exact pd_zret hx hb hr rfl hlk h () [0, 1] (by decide) rfl rfl (by first | omega | (dsimp only; omega)) (by first | omega | (dsimp only; omega)) dX0_put_62
set_option maxHeartbeats 4000000 in
set_option maxRecDepth 100000 in
theorem met_dpn (l : Launch) (G : pd_G) (h0 v tl n : Nat) (w : Nat → Nat) (a b : Int32) (sz : Nat) (hn : 62 < n) (hn2 : n ≤ 64) : Met l yX0_put (ws_ yX0_put cX0_put 3 (some .boolean)) ({ frames := 0, cells := 0, slots := 0, locals := 0 } : Room) (va_Pc [.ref h0, .int (a), .int (b)] (pd_B G sz [(h0, .inr (0, [.ref v, .int (nI n), .ref tl])), (v, .inl (pd_cC G, 64, .inl (fun j => nI (w j))))])) (va_Qi (fun (r : Int32) (u : Unit) => r = nI 0) (fun (u : Unit) t9 => pd_F G (va_A [(h0, .inr (0, [.ref v, .int (nI n), .ref tl])), (v, .inl (pd_cC G, 64, .inl (fun j => nI (w j))))] sz) ([(h0, .inr (0, [.ref v, .int (nI n), .ref tl])), (v, .inl (pd_cC G, 64, .inl (fun j => nI (w j))))]) t9) (va_A [(h0, .inr (0, [.ref v, .int (nI n), .ref tl])), (v, .inl (pd_cC G, 64, .inl (fun j => nI (w j))))] sz)) 0 0 (va_A [(h0, .inr (0, [.ref v, .int (nI n), .ref tl])), (v, .inl (pd_cC G, 64, .inl (fun j => nI (w j))))] sz) := by
  refine pd_start (by decide) (Nat.le_of_ble_eq_true rfl) ?_
  intro p e s m below meth co ls H locs ⟨hx, hb, hml, hown, hts⟩ hr hlk hnm hsz h hl
  have hown : s.vm.findClass RX0 = some m.cls := hown
  have hl : lv_has ls 3 [(0, .ref h0), (1, .int (a)), (2, .int (b))] := hl
  refine lv_aload_n hx hb dX0_put_0 rfl (lv_at hl 0 rfl) ?_
  refine va_get (D := pd_D G) (ci := 0) (v := .int (nI n)) (C := RX0) (T := TX0) (N := 3) hx hb hts in_X0 hown h.1 h.2.2.2.1 0 rfl rfl 1 (by decide) (hts _ q29) (fun _ h9 => h9) rfl dX0_put_1 ?_
  refine lv_bipush (v := (nI 62)) hx hb dX0_put_4 (by decide) ?_
  refine pd_icmp_le (tgt := 11) hx hb (by omega) (by omega) dX0_put_6 (by decide) (fun c1 => absurd c1 (by omega)) (fun c1 => ?_)
  refine lv_iconst (v := (nI 0)) hx hb dX0_put_9 (by decide) ?_
  exact pd_zret hx hb hr rfl hlk h () [0, 1] (by decide) rfl rfl (by first | omega | (dsimp only; omega)) (by first | omega | (dsimp only; omega)) dX0_put_10
set_option maxHeartbeats 4000000 in
set_option maxRecDepth 100000 in
theorem met_ddr (l : Launch) (G : pd_G) (h0 v tl n : Nat) (x : Int32) (sz : Nat) (hn : n ≤ 64) : Met l yX0_drop (ws_ yX0_drop cX0_drop 2 none) ({ frames := 0, cells := 0, slots := 0, locals := 0 } : Room) (va_Pc [.ref h0, .int (x)] (pd_B G sz [(h0, .inr (0, [.ref v, .int (nI n), .ref tl]))])) (va_Qv (fun (u : Unit) => True) (fun (u : Unit) t9 => pd_F G (va_A [(h0, .inr (0, [.ref v, .int (nI n), .ref tl]))] sz) ([(h0, .inr (0, [.ref v, .int (nI ((pd_pl x % (n + 1)))), .ref tl]))]) t9) (va_A [(h0, .inr (0, [.ref v, .int (nI n), .ref tl]))] sz)) 0 0 (va_A [(h0, .inr (0, [.ref v, .int (nI n), .ref tl]))] sz) := by
  refine pd_start (by decide) (Nat.le_of_ble_eq_true rfl) ?_
  intro p e s m below meth co ls H locs ⟨hx, hb, hml, hown, hts⟩ hr hlk hnm hsz h hl
  have hown : s.vm.findClass RX0 = some m.cls := hown
  have hl : lv_has ls 2 [(0, .ref h0), (1, .int (x))] := hl
  have hpa := pd_pl_lt x
  refine lv_aload_n hx hb dX0_drop_0 rfl (lv_at hl 0 rfl) ?_
  refine lv_iload_n hx hb dX0_drop_1 rfl (lv_at hl 1 rfl) ?_
  refine lv_ldc (v := 2147483647) hx hb hown (hts _ q44) dX0_drop_2 ?_
  refine lv_iand hx hb dX0_drop_4 ?_
  refine pd_top (y := (nI (pd_pl x))) (pd_pl_and x) ?_
  refine lv_aload_n hx hb dX0_drop_5 rfl (lv_at hl 0 rfl) ?_
  refine va_get (D := pd_D G) (ci := 0) (v := .int (nI n)) (C := RX0) (T := TX0) (N := 3) hx hb hts in_X0 hown h.1 h.2.2.2.1 0 rfl rfl 1 (by decide) (hts _ q29) (fun _ h9 => h9) rfl dX0_drop_6 ?_
  refine lv_iconst (v := (nI 1)) hx hb dX0_drop_9 (by decide) ?_
  refine pd_add hx hb dX0_drop_10 ?_
  refine pd_rem hx hb (by omega) (by omega) (by omega) dX0_drop_11 ?_
  refine pd_put (ci := 0) (v := .int (nI ((pd_pl x) % (n + 1)))) (ty := .int) (C := RX0) (T := TX0) (N := 3) hx hb hts hown h in_X0 tyX0 tyX0_ok nmX0 0 rfl rfl 1 (by decide) (hts _ q29) (fun _ h9 => h9) rfl (by decide +kernel) rfl rfl (Nat.le_of_ble_eq_true rfl) dX0_drop_12 (fun H locs h => ?_)
  have h : pd_W G _ s H locs [(h0, .inr (0, [.ref v, .int (nI ((pd_pl x) % (n + 1))), .ref tl]))] := h
  exact pd_vret hx hb hr hlk h () [0] (by decide) rfl trivial (by first | omega | (dsimp only; omega)) (by first | omega | (dsimp only; omega)) dX0_drop_15
set_option maxHeartbeats 4000000 in
set_option maxRecDepth 100000 in
theorem met_dco (l : Launch) (G : pd_G) (h0 v tl n : Nat) (x : Int32) (sz : Nat) : Met l yX0_count (ws_ yX0_count cX0_count 2 (some .int)) ({ frames := 1, cells := 0, slots := 0, locals := 20 } : Room) (va_Pc [.ref h0, .int (x)] (pd_B G sz [(h0, .inr (0, [.ref v, .int (nI n), .ref tl]))])) (va_Qi (fun (r : Int32) (u : Unit) => r = nI (2 ^ (pd_lo x + 1))) (fun (u : Unit) t9 => pd_F G (va_A [(h0, .inr (0, [.ref v, .int (nI n), .ref tl]))] sz) ([(h0, .inr (0, [.ref v, .int (nI n), .ref tl]))]) t9) (va_A [(h0, .inr (0, [.ref v, .int (nI n), .ref tl]))] sz)) 0 0 (va_A [(h0, .inr (0, [.ref v, .int (nI n), .ref tl]))] sz) := by
  refine pd_start (by decide) (Nat.le_of_ble_eq_true rfl) ?_
  intro p e s m below meth co ls H locs ⟨hx, hb, hml, hown, hts⟩ hr hlk hnm hsz h hl
  have hown : s.vm.findClass RX0 = some m.cls := hown
  have hl : lv_has ls 2 [(0, .ref h0), (1, .int (x))] := hl
  refine lv_iload_n hx hb dX0_count_0 rfl (lv_at hl 1 rfl) ?_
  refine lv_bipush (v := (nI 7)) hx hb dX0_count_1 (by decide) ?_
  refine lv_iand hx hb dX0_count_3 ?_
  refine pd_top (y := (nI (pd_lo x))) (pd_lo_and x) ?_
  refine pd_goi (wc := []) (wr := [(h0, .inr (0, [.ref v, .int (nI n), .ref tl]))]) h (va_runS (As := [.int (nI (pd_lo x))]) (rest := []) ⟨hx, hb, hml, hown, hts⟩ (met_gco l G (pd_lo x) H.size (pd_lo_lt x)) (va_cwS 1 hts (lw_S q393 q133 q7 q134) rfl rfl rfl (by decide +kernel) ⟨Nat.le_of_ble_eq_true rfl, Nat.le_of_ble_eq_true rfl⟩) ⟨pd_blind, pd_pre h [] (by decide) rfl⟩ rfl rfl hl.1 rfl (lv_room (Nat.le_of_ble_eq_true rfl)) dX0_count_4 ⟨(by first | omega | (dsimp only; omega)), (by first | omega | (dsimp only; omega))⟩) [] [0] rfl rfl (by decide) (by decide) (fun r1 u H locs hp h => ?_)
  have h : pd_W G _ s H locs [(h0, .inr (0, [.ref v, .int (nI n), .ref tl]))] := h
  obtain rfl : r1 = (nI (2 ^ (pd_lo x + 1))) := hp
  exact pd_iret hx hb hr hlk h () [0] (by decide) rfl rfl (by first | omega | (dsimp only; omega)) (by first | omega | (dsimp only; omega)) dX0_count_7
set_option maxHeartbeats 4000000 in
set_option maxRecDepth 100000 in
theorem met_dma (l : Launch) (G : pd_G) (h0 v tl n : Nat) (w : Nat → Nat) (x : Int32) (sz : Nat) (hn : n ≤ 64) (hn0 : 0 < n) (hw : ∀ j, w j < 929) : Met l yX0_make (ws_ yX0_make cX0_make 2 (some .int)) ({ frames := 9, cells := 9, slots := (2 ^ (pd_lo x + 1)) * 6 + 250, locals := 208 } : Room) (va_Pc [.ref h0, .int (x)] (pd_B G sz [(h0, .inr (0, [.ref v, .int (nI n), .ref tl])), (v, .inl (pd_cC G, 64, .inl (fun j => nI (w j))))])) (va_Qi (fun (r : Int32) (u : Nat × Nat × Nat × Nat × (Nat → Nat)) => r = nI (2 ^ (pd_lo x + 1)) ∧ pd_st u.2.2.1 u.2.2.2.1 u.2.2.2.2 (2 ^ (pd_lo x + 1)) (fun q => pd_out (2 ^ (pd_lo x + 1)) w n q)) (fun (u : Nat × Nat × Nat × Nat × (Nat → Nat)) t9 => pd_F G (va_A [(h0, .inr (0, [.ref v, .int (nI n), .ref tl])), (v, .inl (pd_cC G, 64, .inl (fun j => nI (w j))))] sz) ([(h0, .inr (0, [.ref v, .int (nI n), .ref u.1])), (v, .inl (pd_cC G, 64, .inl (fun j => nI (w j)))), (u.1, .inr (2, [.ref u.2.1, .int (nI u.2.2.1), .int (0), .int (0)])), (u.2.1, .inl (pd_cB G, u.2.2.2.1, .inl (fun j => sb_b (u.2.2.2.2 j))))]) t9) (va_A [(h0, .inr (0, [.ref v, .int (nI n), .ref tl])), (v, .inl (pd_cC G, 64, .inl (fun j => nI (w j))))] sz)) 9 ((2 ^ (pd_lo x + 1)) * 6 + 250) (va_A [(h0, .inr (0, [.ref v, .int (nI n), .ref tl])), (v, .inl (pd_cC G, 64, .inl (fun j => nI (w j))))] sz) := by
  refine pd_start (by decide) (Nat.le_of_ble_eq_true rfl) ?_
  intro p e s m below meth co ls H locs ⟨hx, hb, hml, hown, hts⟩ hr hlk hnm hsz h hl
  have hown : s.vm.findClass RX0 = some m.cls := hown
  have hl : lv_has ls 2 [(0, .ref h0), (1, .int (x))] := hl
  have hK8 := pd_pow8 (pd_lo_lt x)
  refine lv_aload_n hx hb dX0_make_0 rfl (lv_at hl 0 rfl) ?_
  refine pd_new (ci := 2) (fs := [.null, .int (0), .int (0), .int (0)]) (C := RJ0) (T := TJ0) (N := 4) hx hb hts hown h in_J0 tyJ0 tyJ0_ok (hts _ q53) (hts _ q54) (hts _ q4) rfl (fun j hj => by rcases (show j = 0 ∨ j = 1 ∨ j = 2 ∨ j = 3 by omega) with rfl | rfl | rfl | rfl <;> rfl) (by first | omega | (dsimp only; omega)) (by first | omega | (dsimp only; omega)) dX0_make_1 (fun qn H h => ?_)
  have h : pd_W G _ s H locs [(h0, .inr (0, [.ref v, .int (nI n), .ref tl])), (v, .inl (pd_cC G, 64, .inl (fun j => nI (w j)))), (qn, .inr (2, [.null, .int (0), .int (0), .int (0)]))] := h
  refine lv_dup hx hb dX0_make_4 rfl ?_
  refine lv_aload_n hx hb dX0_make_5 rfl (lv_at hl 0 rfl) ?_
  refine va_get (D := pd_D G) (ci := 0) (v := .ref v) (C := RX0) (T := TX0) (N := 3) hx hb hts in_X0 hown h.1 h.2.2.2.1 0 rfl rfl 0 (by decide) (hts _ q28) (fun _ h9 => h9) rfl dX0_make_6 ?_
  refine lv_iconst (v := (nI 0)) hx hb dX0_make_9 (by decide) ?_
  refine lv_aload_n hx hb dX0_make_10 rfl (lv_at hl 0 rfl) ?_
  refine va_get (D := pd_D G) (ci := 0) (v := .int (nI n)) (C := RX0) (T := TX0) (N := 3) hx hb hts in_X0 hown h.1 h.2.2.2.1 0 rfl rfl 1 (by decide) (hts _ q29) (fun _ h9 => h9) rfl dX0_make_11 ?_
  refine pd_gov (wc := [(qn, .inr (2, [.null, .int (0), .int (0), .int (0)])), (v, .inl (pd_cC G, 64, .inl (fun j => nI (w j))))]) (wr := [(h0, .inr (0, [.ref v, .int (nI n), .ref tl]))]) h (va_runI (As := [.ref v, .int (nI 0), .int (nI n)]) (rest := [.ref qn, .ref h0]) ⟨hx, hb, hml, hown, hts⟩ (met_si1 l G qn v 64 n w H.size (by omega) hn (by omega) hn0 (fun j => Nat.lt_trans (hw j) (by decide))) (cwI 3 hts (lw_meth q57) rfl rfl rfl (hts _ q4) (hts _ q55) (hts _ q56) rfl (by decide +kernel) ⟨Nat.le_of_ble_eq_true rfl, Nat.le_of_ble_eq_true rfl⟩) ⟨pd_blind, pd_pre h [2, 1] (by decide) rfl⟩ rfl rfl hl.1 rfl (lv_room (Nat.le_of_ble_eq_true rfl)) dX0_make_14 ⟨(by first | omega | (dsimp only; omega)), (by first | omega | (dsimp only; omega))⟩) [2, 1] [0] rfl rfl (by decide) (by decide) (fun us H locs hst h => ?_)
  have h : pd_W G _ s H locs [(h0, .inr (0, [.ref v, .int (nI n), .ref tl])), (qn, .inr (2, [.ref us.1, .int (nI (us.2.1)), .int (0), .int (0)])), (v, .inl (pd_cC G, 64, .inl (fun j => nI (w j)))), (us.1, .inl (pd_cB G, us.2.2.1, .inl (fun j => sb_b (us.2.2.2 j))))] := h
  obtain ⟨sv, scd, snb, sf⟩ := us
  have h : pd_W G _ s H locs [(h0, .inr (0, [.ref v, .int (nI n), .ref tl])), (qn, .inr (2, [.ref sv, .int (nI scd), .int (0), .int (0)])), (v, .inl (pd_cC G, 64, .inl (fun j => nI (w j)))), (sv, .inl (pd_cB G, snb, .inl (fun j => sb_b (sf j))))] := h
  refine lv_iload_n hx hb dX0_make_17 rfl (lv_at hl 1 rfl) ?_
  refine lv_bipush (v := (nI 7)) hx hb dX0_make_18 (by decide) ?_
  refine lv_iand hx hb dX0_make_20 ?_
  refine pd_top (y := (nI (pd_lo x))) (pd_lo_and x) ?_
  refine pd_gor (wc := [(qn, .inr (2, [.ref sv, .int (nI scd), .int (0), .int (0)])), (sv, .inl (pd_cB G, snb, .inl (fun j => sb_b (sf j))))]) (wr := [(h0, .inr (0, [.ref v, .int (nI n), .ref tl])), (v, .inl (pd_cC G, 64, .inl (fun j => nI (w j))))]) h (va_runS (As := [.ref qn, .int (nI (pd_lo x))]) (rest := [.ref h0]) ⟨hx, hb, hml, hown, hts⟩ (met_gen l G qn sv scd snb n (pd_lo x) sf w H.size (pd_lo_lt x) hn hst hw) (va_cwS 2 hts (lw_S q129 q130 q7 q131) rfl rfl rfl (by decide +kernel) ⟨Nat.le_of_ble_eq_true rfl, Nat.le_of_ble_eq_true rfl⟩) ⟨pd_blind, pd_pre h [1, 3] (by decide) rfl⟩ rfl rfl hl.1 rfl (lv_room (Nat.le_of_ble_eq_true rfl)) dX0_make_21 ⟨(by first | omega | (dsimp only; omega)), (by first | omega | (dsimp only; omega))⟩) [1, 3] [0, 2] rfl rfl (by decide) (by decide) (fun ug qo H locs hg h => ?_)
  have h : pd_W G _ s H locs [(h0, .inr (0, [.ref v, .int (nI n), .ref tl])), (v, .inl (pd_cC G, 64, .inl (fun j => nI (w j)))), (qo, .inr (2, [.ref ug.1, .int (nI (ug.2.1)), .int (0), .int (0)])), (ug.1, .inl (pd_cB G, ug.2.2.1, .inl (fun j => sb_b (ug.2.2.2 j))))] := h
  obtain ⟨gv, gcd, gnb, gf⟩ := ug
  have h : pd_W G _ s H locs [(h0, .inr (0, [.ref v, .int (nI n), .ref tl])), (v, .inl (pd_cC G, 64, .inl (fun j => nI (w j)))), (qo, .inr (2, [.ref gv, .int (nI gcd), .int (0), .int (0)])), (gv, .inl (pd_cB G, gnb, .inl (fun j => sb_b (gf j))))] := h
  have hst9 : pd_st gcd gnb gf (2 ^ (pd_lo x + 1)) (fun q => pd_out (2 ^ (pd_lo x + 1)) w n q) := hg
  refine pd_put (ci := 0) (v := .ref qo) (ty := .object "java/lang/String") (C := RX0) (T := TX0) (N := 3) hx hb hts hown h in_X0 tyX0 tyX0_ok nmX0 0 rfl rfl 2 (by decide) (hts _ q30) (fun _ h9 => h9) rfl (by decide +kernel) rfl rfl (Nat.le_of_ble_eq_true rfl) dX0_make_24 (fun H locs h => ?_)
  have h : pd_W G _ s H locs [(h0, .inr (0, [.ref v, .int (nI n), .ref qo])), (v, .inl (pd_cC G, 64, .inl (fun j => nI (w j)))), (qo, .inr (2, [.ref gv, .int (nI gcd), .int (0), .int (0)])), (gv, .inl (pd_cB G, gnb, .inl (fun j => sb_b (gf j))))] := h
  refine lv_aload_n hx hb dX0_make_27 rfl (lv_at hl 0 rfl) ?_
  refine va_get (D := pd_D G) (ci := 0) (v := .ref qo) (C := RX0) (T := TX0) (N := 3) hx hb hts in_X0 hown h.1 h.2.2.2.1 0 rfl rfl 2 (by decide) (hts _ q30) (fun _ h9 => h9) rfl dX0_make_28 ?_
  refine pd_goi (wc := [(qo, .inr (2, [.ref gv, .int (nI gcd), .int (0), .int (0)])), (gv, .inl (pd_cB G, gnb, .inl (fun j => sb_b (gf j))))]) (wr := [(h0, .inr (0, [.ref v, .int (nI n), .ref qo])), (v, .inl (pd_cC G, 64, .inl (fun j => nI (w j))))]) h (va_runV (As := []) (rest := []) ⟨hx, hb, hml, hown, hts⟩ (met_sle l G qo gv gcd gnb (2 ^ (pd_lo x + 1)) gf (fun q => pd_out (2 ^ (pd_lo x + 1)) w n q) H.size (by omega) hst9) (cwV 0 hts (lw_V q383 q207 q447 q4 q209) rfl rfl rfl (by decide +kernel) ⟨Nat.le_of_ble_eq_true rfl, Nat.le_of_ble_eq_true rfl⟩) ⟨pd_blind, pd_recv h 2 rfl rfl, pd_pre h [2, 3] (by decide) rfl⟩ rfl rfl hl.1 rfl (lv_room (Nat.le_of_ble_eq_true rfl)) dX0_make_31 ⟨(by first | omega | (dsimp only; omega)), (by first | omega | (dsimp only; omega))⟩) [2, 3] [0, 1] rfl rfl (by decide) (by decide) (fun r2 u H locs hp h => ?_)
  have h : pd_W G _ s H locs [(h0, .inr (0, [.ref v, .int (nI n), .ref qo])), (v, .inl (pd_cC G, 64, .inl (fun j => nI (w j)))), (qo, .inr (2, [.ref gv, .int (nI gcd), .int (0), .int (0)])), (gv, .inl (pd_cB G, gnb, .inl (fun j => sb_b (gf j))))] := h
  obtain rfl : r2 = (nI (2 ^ (pd_lo x + 1))) := hp
  exact pd_iret hx hb hr hlk h (qo, gv, gcd, gnb, gf) [0, 1, 2, 3] (by decide) rfl ⟨rfl, hst9⟩ (by first | omega | (dsimp only; omega)) (by first | omega | (dsimp only; omega)) dX0_make_34
set_option maxHeartbeats 4000000 in
set_option maxRecDepth 100000 in
theorem met_dm0 (l : Launch) (G : pd_G) (h0 v tl : Nat) (w : Nat → Nat) (x : Int32) (sz : Nat) : Met l yX0_make (ws_ yX0_make cX0_make 2 (some .int)) ({ frames := 9, cells := 9, slots := (2 ^ (pd_lo x + 1)) * 6 + 250, locals := 208 } : Room) (va_Pc [.ref h0, .int (x)] (pd_B G sz [(h0, .inr (0, [.ref v, .int (nI 0), .ref tl])), (v, .inl (pd_cC G, 64, .inl (fun j => nI (w j))))])) (va_Qi (fun (r : Int32) (u : Nat × Nat × Nat × Nat × (Nat → Nat)) => r = nI (2 ^ (pd_lo x + 1)) ∧ pd_st u.2.2.1 u.2.2.2.1 u.2.2.2.2 (2 ^ (pd_lo x + 1)) (fun q => pd_out (2 ^ (pd_lo x + 1)) w 0 q)) (fun (u : Nat × Nat × Nat × Nat × (Nat → Nat)) t9 => pd_F G (va_A [(h0, .inr (0, [.ref v, .int (nI 0), .ref tl])), (v, .inl (pd_cC G, 64, .inl (fun j => nI (w j))))] sz) ([(h0, .inr (0, [.ref v, .int (nI 0), .ref u.1])), (v, .inl (pd_cC G, 64, .inl (fun j => nI (w j)))), (u.1, .inr (2, [.ref u.2.1, .int (nI u.2.2.1), .int (0), .int (0)])), (u.2.1, .inl (pd_cB G, u.2.2.2.1, .inl (fun j => sb_b (u.2.2.2.2 j))))]) t9) (va_A [(h0, .inr (0, [.ref v, .int (nI 0), .ref tl])), (v, .inl (pd_cC G, 64, .inl (fun j => nI (w j))))] sz)) 9 ((2 ^ (pd_lo x + 1)) * 6 + 250) (va_A [(h0, .inr (0, [.ref v, .int (nI 0), .ref tl])), (v, .inl (pd_cC G, 64, .inl (fun j => nI (w j))))] sz) := by
  refine pd_start (by decide) (Nat.le_of_ble_eq_true rfl) ?_
  intro p e s m below meth co ls H locs ⟨hx, hb, hml, hown, hts⟩ hr hlk hnm hsz h hl
  have hown : s.vm.findClass RX0 = some m.cls := hown
  have hl : lv_has ls 2 [(0, .ref h0), (1, .int (x))] := hl
  have hK8 := pd_pow8 (pd_lo_lt x)
  refine lv_aload_n hx hb dX0_make_0 rfl (lv_at hl 0 rfl) ?_
  refine pd_new (ci := 2) (fs := [.null, .int (0), .int (0), .int (0)]) (C := RJ0) (T := TJ0) (N := 4) hx hb hts hown h in_J0 tyJ0 tyJ0_ok (hts _ q53) (hts _ q54) (hts _ q4) rfl (fun j hj => by rcases (show j = 0 ∨ j = 1 ∨ j = 2 ∨ j = 3 by omega) with rfl | rfl | rfl | rfl <;> rfl) (by first | omega | (dsimp only; omega)) (by first | omega | (dsimp only; omega)) dX0_make_1 (fun qn H h => ?_)
  have h : pd_W G _ s H locs [(h0, .inr (0, [.ref v, .int (nI 0), .ref tl])), (v, .inl (pd_cC G, 64, .inl (fun j => nI (w j)))), (qn, .inr (2, [.null, .int (0), .int (0), .int (0)]))] := h
  refine lv_dup hx hb dX0_make_4 rfl ?_
  refine lv_aload_n hx hb dX0_make_5 rfl (lv_at hl 0 rfl) ?_
  refine va_get (D := pd_D G) (ci := 0) (v := .ref v) (C := RX0) (T := TX0) (N := 3) hx hb hts in_X0 hown h.1 h.2.2.2.1 0 rfl rfl 0 (by decide) (hts _ q28) (fun _ h9 => h9) rfl dX0_make_6 ?_
  refine lv_iconst (v := (nI 0)) hx hb dX0_make_9 (by decide) ?_
  refine lv_aload_n hx hb dX0_make_10 rfl (lv_at hl 0 rfl) ?_
  refine va_get (D := pd_D G) (ci := 0) (v := .int (nI 0)) (C := RX0) (T := TX0) (N := 3) hx hb hts in_X0 hown h.1 h.2.2.2.1 0 rfl rfl 1 (by decide) (hts _ q29) (fun _ h9 => h9) rfl dX0_make_11 ?_
  refine pd_gov (wc := [(qn, .inr (2, [.null, .int (0), .int (0), .int (0)])), (v, .inl (pd_cC G, 64, .inl (fun j => nI (w j))))]) (wr := [(h0, .inr (0, [.ref v, .int (nI 0), .ref tl]))]) h (va_runI (As := [.ref v, .int (nI 0), .int (nI 0)]) (rest := [.ref qn, .ref h0]) ⟨hx, hb, hml, hown, hts⟩ (met_si10 l G qn v 64 w H.size (by omega)) (cwI 3 hts (lw_meth q57) rfl rfl rfl (hts _ q4) (hts _ q55) (hts _ q56) rfl (by decide +kernel) ⟨Nat.le_of_ble_eq_true rfl, Nat.le_of_ble_eq_true rfl⟩) ⟨pd_blind, pd_pre h [2, 1] (by decide) rfl⟩ rfl rfl hl.1 rfl (lv_room (Nat.le_of_ble_eq_true rfl)) dX0_make_14 ⟨(by first | omega | (dsimp only; omega)), (by first | omega | (dsimp only; omega))⟩) [2, 1] [0] rfl rfl (by decide) (by decide) (fun u H locs hp h => ?_)
  have h : pd_W G _ s H locs [(h0, .inr (0, [.ref v, .int (nI 0), .ref tl])), (qn, .inr (2, [.ref ((pd_vE G)), .int (nI 0), .int (0), .int (0)])), (v, .inl (pd_cC G, 64, .inl (fun j => nI (w j))))] := h
  refine lv_iload_n hx hb dX0_make_17 rfl (lv_at hl 1 rfl) ?_
  refine lv_bipush (v := (nI 7)) hx hb dX0_make_18 (by decide) ?_
  refine lv_iand hx hb dX0_make_20 ?_
  refine pd_top (y := (nI (pd_lo x))) (pd_lo_and x) ?_
  refine pd_gor (wc := [(qn, .inr (2, [.ref ((pd_vE G)), .int (nI 0), .int (0), .int (0)]))]) (wr := [(h0, .inr (0, [.ref v, .int (nI 0), .ref tl])), (v, .inl (pd_cC G, 64, .inl (fun j => nI (w j))))]) h (va_runS (As := [.ref qn, .int (nI (pd_lo x))]) (rest := [.ref h0]) ⟨hx, hb, hml, hown, hts⟩ (met_gen0 l G qn (pd_lo x) w H.size (pd_lo_lt x)) (va_cwS 2 hts (lw_S q129 q130 q7 q131) rfl rfl rfl (by decide +kernel) ⟨Nat.le_of_ble_eq_true rfl, Nat.le_of_ble_eq_true rfl⟩) ⟨pd_blind, pd_pre h [1] (by decide) rfl⟩ rfl rfl hl.1 rfl (lv_room (Nat.le_of_ble_eq_true rfl)) dX0_make_21 ⟨(by first | omega | (dsimp only; omega)), (by first | omega | (dsimp only; omega))⟩) [1] [0, 2] rfl rfl (by decide) (by decide) (fun ug qo H locs hg h => ?_)
  have h : pd_W G _ s H locs [(h0, .inr (0, [.ref v, .int (nI 0), .ref tl])), (v, .inl (pd_cC G, 64, .inl (fun j => nI (w j)))), (qo, .inr (2, [.ref ug.1, .int (nI (ug.2.1)), .int (0), .int (0)])), (ug.1, .inl (pd_cB G, ug.2.2.1, .inl (fun j => sb_b (ug.2.2.2 j))))] := h
  obtain ⟨gv, gcd, gnb, gf⟩ := ug
  have h : pd_W G _ s H locs [(h0, .inr (0, [.ref v, .int (nI 0), .ref tl])), (v, .inl (pd_cC G, 64, .inl (fun j => nI (w j)))), (qo, .inr (2, [.ref gv, .int (nI gcd), .int (0), .int (0)])), (gv, .inl (pd_cB G, gnb, .inl (fun j => sb_b (gf j))))] := h
  have hst9 : pd_st gcd gnb gf (2 ^ (pd_lo x + 1)) (fun q => pd_out (2 ^ (pd_lo x + 1)) w 0 q) := hg
  refine pd_put (ci := 0) (v := .ref qo) (ty := .object "java/lang/String") (C := RX0) (T := TX0) (N := 3) hx hb hts hown h in_X0 tyX0 tyX0_ok nmX0 0 rfl rfl 2 (by decide) (hts _ q30) (fun _ h9 => h9) rfl (by decide +kernel) rfl rfl (Nat.le_of_ble_eq_true rfl) dX0_make_24 (fun H locs h => ?_)
  have h : pd_W G _ s H locs [(h0, .inr (0, [.ref v, .int (nI 0), .ref qo])), (v, .inl (pd_cC G, 64, .inl (fun j => nI (w j)))), (qo, .inr (2, [.ref gv, .int (nI gcd), .int (0), .int (0)])), (gv, .inl (pd_cB G, gnb, .inl (fun j => sb_b (gf j))))] := h
  refine lv_aload_n hx hb dX0_make_27 rfl (lv_at hl 0 rfl) ?_
  refine va_get (D := pd_D G) (ci := 0) (v := .ref qo) (C := RX0) (T := TX0) (N := 3) hx hb hts in_X0 hown h.1 h.2.2.2.1 0 rfl rfl 2 (by decide) (hts _ q30) (fun _ h9 => h9) rfl dX0_make_28 ?_
  refine pd_goi (wc := [(qo, .inr (2, [.ref gv, .int (nI gcd), .int (0), .int (0)])), (gv, .inl (pd_cB G, gnb, .inl (fun j => sb_b (gf j))))]) (wr := [(h0, .inr (0, [.ref v, .int (nI 0), .ref qo])), (v, .inl (pd_cC G, 64, .inl (fun j => nI (w j))))]) h (va_runV (As := []) (rest := []) ⟨hx, hb, hml, hown, hts⟩ (met_sle l G qo gv gcd gnb (2 ^ (pd_lo x + 1)) gf (fun q => pd_out (2 ^ (pd_lo x + 1)) w 0 q) H.size (by omega) hst9) (cwV 0 hts (lw_V q383 q207 q447 q4 q209) rfl rfl rfl (by decide +kernel) ⟨Nat.le_of_ble_eq_true rfl, Nat.le_of_ble_eq_true rfl⟩) ⟨pd_blind, pd_recv h 2 rfl rfl, pd_pre h [2, 3] (by decide) rfl⟩ rfl rfl hl.1 rfl (lv_room (Nat.le_of_ble_eq_true rfl)) dX0_make_31 ⟨(by first | omega | (dsimp only; omega)), (by first | omega | (dsimp only; omega))⟩) [2, 3] [0, 1] rfl rfl (by decide) (by decide) (fun r2 u H locs hp h => ?_)
  have h : pd_W G _ s H locs [(h0, .inr (0, [.ref v, .int (nI 0), .ref qo])), (v, .inl (pd_cC G, 64, .inl (fun j => nI (w j)))), (qo, .inr (2, [.ref gv, .int (nI gcd), .int (0), .int (0)])), (gv, .inl (pd_cB G, gnb, .inl (fun j => sb_b (gf j))))] := h
  obtain rfl : r2 = (nI (2 ^ (pd_lo x + 1))) := hp
  exact pd_iret hx hb hr hlk h (qo, gv, gcd, gnb, gf) [0, 1, 2, 3] (by decide) rfl ⟨rfl, hst9⟩ (by first | omega | (dsimp only; omega)) (by first | omega | (dsimp only; omega)) dX0_make_34
set_option maxHeartbeats 4000000 in
set_option maxRecDepth 100000 in
theorem met_dt0 (l : Launch) (G : pd_G) (h0 v n : Nat) (x : Int32) (sz : Nat) : Met l yX0_told (ws_ yX0_told cX0_told 2 (some .int)) ({ frames := 2, cells := 0, slots := 0, locals := 40 } : Room) (va_Pc [.ref h0, .int (x)] (pd_B G sz [(h0, .inr (0, [.ref v, .int (nI n), .ref ((pd_qE G))]))])) (va_Qi (fun (r : Int32) (u : Unit) => r = -1) (fun (u : Unit) t9 => pd_F G (va_A [(h0, .inr (0, [.ref v, .int (nI n), .ref ((pd_qE G))]))] sz) ([(h0, .inr (0, [.ref v, .int (nI n), .ref ((pd_qE G))]))]) t9) (va_A [(h0, .inr (0, [.ref v, .int (nI n), .ref ((pd_qE G))]))] sz)) 0 0 (va_A [(h0, .inr (0, [.ref v, .int (nI n), .ref ((pd_qE G))]))] sz) := by
  refine pd_start (by decide) (Nat.le_of_ble_eq_true rfl) ?_
  intro p e s m below meth co ls H locs ⟨hx, hb, hml, hown, hts⟩ hr hlk hnm hsz h hl
  have hown : s.vm.findClass RX0 = some m.cls := hown
  have hl : lv_has ls 2 [(0, .ref h0), (1, .int (x))] := hl
  refine lv_aload_n hx hb dX0_told_0 rfl (lv_at hl 0 rfl) ?_
  refine va_get (D := pd_D G) (ci := 0) (v := .ref ((pd_qE G))) (C := RX0) (T := TX0) (N := 3) hx hb hts in_X0 hown h.1 h.2.2.2.1 0 rfl rfl 2 (by decide) (hts _ q30) (fun _ h9 => h9) rfl dX0_told_1 ?_
  refine pd_goi (wc := []) (wr := [(h0, .inr (0, [.ref v, .int (nI n), .ref ((pd_qE G))]))]) h (va_runV (As := []) (rest := []) ⟨hx, hb, hml, hown, hts⟩ (met_sle0 l G H.size) (cwV 0 hts (lw_V q383 q207 q447 q4 q209) rfl rfl rfl (by decide +kernel) ⟨Nat.le_of_ble_eq_true rfl, Nat.le_of_ble_eq_true rfl⟩) ⟨pd_blind, pd_recvE h, pd_pre h [] (by decide) rfl⟩ rfl rfl hl.1 rfl (lv_room (Nat.le_of_ble_eq_true rfl)) dX0_told_4 ⟨(by first | omega | (dsimp only; omega)), (by first | omega | (dsimp only; omega))⟩) [] [0] rfl rfl (by decide) (by decide) (fun r1 u H locs hp h => ?_)
  have h : pd_W G _ s H locs [(h0, .inr (0, [.ref v, .int (nI n), .ref ((pd_qE G))]))] := h
  obtain rfl : r1 = (nI 0) := hp
  refine pd_if_ne (tgt := 14) hx hb (by omega) dX0_told_7 (by decide) (fun c1 => absurd c1 (by omega)) (fun c1 => ?_)
  refine lv_iconst (v := (-1)) hx hb dX0_told_10 (by decide) ?_
  refine lv_goto (tgt := 33) hx hb dX0_told_11 (by decide) ?_
  exact pd_iret hx hb hr hlk h () [0] (by decide) rfl rfl (by first | omega | (dsimp only; omega)) (by first | omega | (dsimp only; omega)) dX0_told_33
set_option maxHeartbeats 4000000 in
set_option maxRecDepth 100000 in
theorem met_dt1 (l : Launch) (G : pd_G) (h0 v tl n tv cd nb L : Nat) (f t : Nat → Nat) (x : Int32) (sz : Nat) (hL : 0 < L) (hL2 : L < 65536) (hst : pd_st cd nb f L t) (ht : ∀ j, t j < 65536) : Met l yX0_told (ws_ yX0_told cX0_told 2 (some .int)) ({ frames := 5, cells := 0, slots := 0, locals := 109 } : Room) (va_Pc [.ref h0, .int (x)] (pd_B G sz [(h0, .inr (0, [.ref v, .int (nI n), .ref tl])), (tl, .inr (2, [.ref tv, .int (nI cd), .int (0), .int (0)])), (tv, .inl (pd_cB G, nb, .inl (fun j => sb_b (f j))))])) (va_Qi (fun (r : Int32) (u : Unit) => r = nI (t (pd_pl x % L))) (fun (u : Unit) t9 => pd_F G (va_A [(h0, .inr (0, [.ref v, .int (nI n), .ref tl])), (tl, .inr (2, [.ref tv, .int (nI cd), .int (0), .int (0)])), (tv, .inl (pd_cB G, nb, .inl (fun j => sb_b (f j))))] sz) ([(h0, .inr (0, [.ref v, .int (nI n), .ref tl])), (tl, .inr (2, [.ref tv, .int (nI cd), .int (0), .int (0)])), (tv, .inl (pd_cB G, nb, .inl (fun j => sb_b (f j))))]) t9) (va_A [(h0, .inr (0, [.ref v, .int (nI n), .ref tl])), (tl, .inr (2, [.ref tv, .int (nI cd), .int (0), .int (0)])), (tv, .inl (pd_cB G, nb, .inl (fun j => sb_b (f j))))] sz)) 0 0 (va_A [(h0, .inr (0, [.ref v, .int (nI n), .ref tl])), (tl, .inr (2, [.ref tv, .int (nI cd), .int (0), .int (0)])), (tv, .inl (pd_cB G, nb, .inl (fun j => sb_b (f j))))] sz) := by
  refine pd_start (by decide) (Nat.le_of_ble_eq_true rfl) ?_
  intro p e s m below meth co ls H locs ⟨hx, hb, hml, hown, hts⟩ hr hlk hnm hsz h hl
  have hown : s.vm.findClass RX0 = some m.cls := hown
  have hl : lv_has ls 2 [(0, .ref h0), (1, .int (x))] := hl
  have hpa := pd_pl_lt x
  have hml9 : pd_pl x % L < L := Nat.mod_lt _ hL
  refine lv_aload_n hx hb dX0_told_0 rfl (lv_at hl 0 rfl) ?_
  refine va_get (D := pd_D G) (ci := 0) (v := .ref tl) (C := RX0) (T := TX0) (N := 3) hx hb hts in_X0 hown h.1 h.2.2.2.1 0 rfl rfl 2 (by decide) (hts _ q30) (fun _ h9 => h9) rfl dX0_told_1 ?_
  refine pd_goi (wc := [(tl, .inr (2, [.ref tv, .int (nI cd), .int (0), .int (0)])), (tv, .inl (pd_cB G, nb, .inl (fun j => sb_b (f j))))]) (wr := [(h0, .inr (0, [.ref v, .int (nI n), .ref tl]))]) h (va_runV (As := []) (rest := []) ⟨hx, hb, hml, hown, hts⟩ (met_sle l G tl tv cd nb L f t H.size hL2 hst) (cwV 0 hts (lw_V q383 q207 q447 q4 q209) rfl rfl rfl (by decide +kernel) ⟨Nat.le_of_ble_eq_true rfl, Nat.le_of_ble_eq_true rfl⟩) ⟨pd_blind, pd_recv h 1 rfl rfl, pd_pre h [1, 2] (by decide) rfl⟩ rfl rfl hl.1 rfl (lv_room (Nat.le_of_ble_eq_true rfl)) dX0_told_4 ⟨(by first | omega | (dsimp only; omega)), (by first | omega | (dsimp only; omega))⟩) [1, 2] [0] rfl rfl (by decide) (by decide) (fun r1 u H locs hp h => ?_)
  have h : pd_W G _ s H locs [(h0, .inr (0, [.ref v, .int (nI n), .ref tl])), (tl, .inr (2, [.ref tv, .int (nI cd), .int (0), .int (0)])), (tv, .inl (pd_cB G, nb, .inl (fun j => sb_b (f j))))] := h
  obtain rfl : r1 = (nI L) := hp
  refine pd_if_ne (tgt := 14) hx hb (by omega) dX0_told_7 (by decide) (fun c1 => ?_) (fun c1 => absurd c1 (by omega))
  refine lv_aload_n hx hb dX0_told_14 rfl (lv_at hl 0 rfl) ?_
  refine va_get (D := pd_D G) (ci := 0) (v := .ref tl) (C := RX0) (T := TX0) (N := 3) hx hb hts in_X0 hown h.1 h.2.2.2.1 0 rfl rfl 2 (by decide) (hts _ q30) (fun _ h9 => h9) rfl dX0_told_15 ?_
  refine lv_iload_n hx hb dX0_told_18 rfl (lv_at hl 1 rfl) ?_
  refine lv_ldc (v := 2147483647) hx hb hown (hts _ q44) dX0_told_19 ?_
  refine lv_iand hx hb dX0_told_21 ?_
  refine pd_top (y := (nI (pd_pl x))) (pd_pl_and x) ?_
  refine lv_aload_n hx hb dX0_told_22 rfl (lv_at hl 0 rfl) ?_
  refine va_get (D := pd_D G) (ci := 0) (v := .ref tl) (C := RX0) (T := TX0) (N := 3) hx hb hts in_X0 hown h.1 h.2.2.2.1 0 rfl rfl 2 (by decide) (hts _ q30) (fun _ h9 => h9) rfl dX0_told_23 ?_
  refine pd_goi (wc := [(tl, .inr (2, [.ref tv, .int (nI cd), .int (0), .int (0)])), (tv, .inl (pd_cB G, nb, .inl (fun j => sb_b (f j))))]) (wr := [(h0, .inr (0, [.ref v, .int (nI n), .ref tl]))]) h (va_runV (As := []) (rest := [.int (nI (pd_pl x)), .ref tl]) ⟨hx, hb, hml, hown, hts⟩ (met_sle l G tl tv cd nb L f t H.size hL2 hst) (cwV 0 hts (lw_V q383 q207 q447 q4 q209) rfl rfl rfl (by decide +kernel) ⟨Nat.le_of_ble_eq_true rfl, Nat.le_of_ble_eq_true rfl⟩) ⟨pd_blind, pd_recv h 1 rfl rfl, pd_pre h [1, 2] (by decide) rfl⟩ rfl rfl hl.1 rfl (lv_room (Nat.le_of_ble_eq_true rfl)) dX0_told_26 ⟨(by first | omega | (dsimp only; omega)), (by first | omega | (dsimp only; omega))⟩) [1, 2] [0] rfl rfl (by decide) (by decide) (fun r3 u H locs hp h => ?_)
  have h : pd_W G _ s H locs [(h0, .inr (0, [.ref v, .int (nI n), .ref tl])), (tl, .inr (2, [.ref tv, .int (nI cd), .int (0), .int (0)])), (tv, .inl (pd_cB G, nb, .inl (fun j => sb_b (f j))))] := h
  obtain rfl : r3 = (nI L) := hp
  refine pd_rem hx hb (by omega) (by omega) (by omega) dX0_told_29 ?_
  refine pd_goi (wc := [(tl, .inr (2, [.ref tv, .int (nI cd), .int (0), .int (0)])), (tv, .inl (pd_cB G, nb, .inl (fun j => sb_b (f j))))]) (wr := [(h0, .inr (0, [.ref v, .int (nI n), .ref tl]))]) h (va_runV (As := [.int (nI ((pd_pl x) % L))]) (rest := []) ⟨hx, hb, hml, hown, hts⟩ (met_sca l G tl tv cd nb L (pd_pl x % L) f t H.size hL2 hst hml9) (cwV 1 hts (lw_V q388 q230 q448 q4 q232) rfl rfl rfl (by decide +kernel) ⟨Nat.le_of_ble_eq_true rfl, Nat.le_of_ble_eq_true rfl⟩) ⟨pd_blind, pd_recv h 1 rfl rfl, pd_pre h [1, 2] (by decide) rfl⟩ rfl rfl hl.1 rfl (lv_room (Nat.le_of_ble_eq_true rfl)) dX0_told_30 ⟨(by first | omega | (dsimp only; omega)), (by first | omega | (dsimp only; omega))⟩) [1, 2] [0] rfl rfl (by decide) (by decide) (fun r5 u H locs hp h => ?_)
  have h : pd_W G _ s H locs [(h0, .inr (0, [.ref v, .int (nI n), .ref tl])), (tl, .inr (2, [.ref tv, .int (nI cd), .int (0), .int (0)])), (tv, .inl (pd_cB G, nb, .inl (fun j => sb_b (f j))))] := h
  obtain rfl : r5 = (nI (t (pd_pl x % L))) := hp
  exact pd_iret hx hb hr hlk h () [0, 1, 2] (by decide) rfl rfl (by first | omega | (dsimp only; omega)) (by first | omega | (dsimp only; omega)) dX0_told_33
end
section
/-! THE TABLE: the rows that the Statement gives are the generators' rows (the kernel counts them) -/
def pd_frc {α : Type} (n : Nat) (k : Nat → α) : α := match n with
  | 0 => k 0
  | m + 1 => k (m + 1)
theorem pd_frc_eq {α : Type} (n : Nat) (k : Nat → α) : pd_frc n k = k n := by cases n <;> rfl
def pd_go (c : Nat) : Nat → List Nat → List Nat → List Nat
  | prev, [], acc => pd_frc (prev % 929) (fun v => v :: acc)
  | prev, x :: xs, acc => pd_frc ((prev + c * x) % 929) (fun v => pd_go c x xs (v :: acc))
def pd_stp (c : Nat) (l : List Nat) : List Nat := (pd_go c 0 l []).reverse
def pd_pol : Nat → Nat → List Nat → List Nat
  | 0, _, l => l
  | k + 1, r, l => pd_frc (r * 3 % 929) (fun r' => pd_pol k r' (pd_stp (929 - r') l))
def pd_zs (c : Nat) : Nat → List Nat → List Nat
  | prev, [] => [prev % 929]
  | prev, x :: xs => (prev + c * x) % 929 :: pd_zs c x xs
theorem pd_go_eq (c : Nat) : ∀ (xs : List Nat) (prev : Nat) (acc : List Nat), pd_go c prev xs acc = (pd_zs c prev xs).reverse ++ acc
  | [], prev, acc => by
    unfold pd_go pd_zs
    rw [pd_frc_eq]
    rfl
  | x :: xs, prev, acc => by
    unfold pd_go pd_zs
    rw [pd_frc_eq, pd_go_eq c xs x _, List.reverse_cons, List.append_assoc]
    rfl
theorem pd_stp_eq (c : Nat) (l : List Nat) : pd_stp c l = pd_zs c 0 l := by
  unfold pd_stp
  rw [pd_go_eq, List.append_nil, List.reverse_reverse]
theorem pd_zs_get (c : Nat) : ∀ (xs : List Nat) (prev i : Nat), (pd_zs c prev xs).getD i 0 = ((if i = 0 then prev else xs.getD (i - 1) 0) + c * xs.getD i 0) % 929
  | [], prev, 0 => by simp [pd_zs]
  | [], prev, i + 1 => by simp [pd_zs]
  | x :: xs, prev, 0 => by simp [pd_zs]
  | x :: xs, prev, i + 1 => by
    show (pd_zs c x xs).getD i 0 = _
    rw [pd_zs_get c xs x i]
    cases i with
    | zero => simp
    | succ i => simp
theorem pd_pol_get : ∀ (n k : Nat) (l : List Nat), (∀ i, l.getD i 0 = pd_pf k i) → ∀ i, (pd_pol n (pd_pw k) l).getD i 0 = pd_pf (k + n) i
  | 0, k, l, h, i => h i
  | n + 1, k, l, h, i => by
    unfold pd_pol
    rw [pd_frc_eq, show k + (n + 1) = (k + 1) + n by omega]
    refine pd_pol_get n (k + 1) _ (fun j => ?_) i
    show _ = ((if j = 0 then 0 else pd_pf k (j - 1)) + (929 - pd_pw (k + 1)) * pd_pf k j) % 929
    rw [pd_stp_eq, pd_zs_get, h (j - 1), h j]
    rfl
theorem pd_pol_1 (n i : Nat) : (pd_pol n 1 [1]).getD i 0 = pd_pf n i := by
  have h := pd_pol_get n 0 [1] (fun j => by cases j <;> rfl) i
  rw [Nat.zero_add] at h
  exact h
def pd_E : Term := .static "PDF417ErrorCorrection" "EC_COEFFICIENTS" "[[I"
def pd_cd (i j v : Nat) : Cond := .eq (.elem (.elem pd_E (.int (Int32.ofNat i))) (.int (Int32.ofNat j))) (.int (Int32.ofNat v))
def pd_ck (i : Nat) : Nat → Nat → List Nat → List Cond → Bool
  | 0, _, _, _ => true
  | n + 1, j, v :: vs, c :: cs => decide (c = pd_cd i j v) && pd_ck i n (j + 1) vs cs
  | _ + 1, _, _, _ => false
theorem pd_ck_ok (i : Nat) : ∀ (n j : Nat) (vs : List Nat) (cs : List Cond), pd_ck i n j vs cs = true → ∀ k, k < n → pd_cd i (j + k) (vs.getD k 0) ∈ cs
  | 0, _, _, _, _, k, hk => absurd hk (Nat.not_lt_zero k)
  | n + 1, j, [], cs, h, _, _ => by cases cs <;> simp [pd_ck] at h
  | n + 1, j, v :: vs, [], h, _, _ => by simp [pd_ck] at h
  | n + 1, j, v :: vs, c :: cs, h, k, hk => by
    unfold pd_ck at h
    rw [Bool.and_eq_true] at h
    cases k with
    | zero =>
      have e := of_decide_eq_true h.1
      rw [e]
      exact List.mem_cons_self
    | succ k =>
      have e := pd_ck_ok i n (j + 1) vs cs h.2 k (by omega)
      rw [show j + (k + 1) = j + 1 + k by omega]
      exact List.mem_cons_of_mem _ e
def pd_Fl : List Cond := flatC (Cond.and given_1 narrow_1)
theorem pd_tab0 : pd_ck 0 2 0 (pd_pol 2 1 [1]) (pd_Fl.drop 20) = true := by decide +kernel
theorem pd_tab1 : pd_ck 1 4 0 (pd_pol 4 1 [1]) (pd_Fl.drop 26) = true := by decide +kernel
theorem pd_tab2 : pd_ck 2 8 0 (pd_pol 8 1 [1]) (pd_Fl.drop 35) = true := by decide +kernel
theorem pd_tab3 : pd_ck 3 16 0 (pd_pol 16 1 [1]) (pd_Fl.drop 49) = true := by decide +kernel
theorem pd_tab4 : pd_ck 4 32 0 (pd_pol 32 1 [1]) (pd_Fl.drop 72) = true := by decide +kernel
theorem pd_tab5 : pd_ck 5 64 0 (pd_pol 64 1 [1]) (pd_Fl.drop 112) = true := by decide +kernel
theorem pd_tab6 : pd_ck 6 128 0 (pd_pol 128 1 [1]) (pd_Fl.drop 185) = true := by decide +kernel
theorem pd_tab7 : pd_ck 7 256 0 (pd_pol 256 1 [1]) (pd_Fl.drop 323) = true := by decide +kernel
theorem pd_lf {args : Array Value} {s : State} (h : (Cond.and given_1 narrow_1).before args s = true) {w : Cond} (k : Nat) (hk : pd_Fl[k]? = some w) : w.before args s = true := flat_of_before _ h w (List.mem_of_getElem? hk)
theorem pd_rowOf {args : Array Value} {s : State} (h : (Cond.and given_1 narrow_1).before args s = true) {i N b : Nat} (hc : pd_ck i N 0 (pd_pol N 1 [1]) (pd_Fl.drop b) = true) : ∀ j : Nat, j < N → (Term.elem (Term.elem pd_E (.int (Int32.ofNat i))) (.int (Int32.ofNat j))).eval args s none [] s = some (.int (nI (pd_pf N j))) := fun j hj => va_eqt (by
  have m := pd_ck_ok i N 0 _ _ hc j hj
  rw [Nat.zero_add, pd_pol_1] at m
  exact flat_of_before _ h _ (List.mem_of_mem_drop m))
end
section
/-! THE CLAIM OUT OF ONE WALK OF THE LAW'S BODY. Your part is whole_start (and what it stands on); all else here is the same for every law, but numbers. -/
def R_law : String := "PdfParityDeskLaw"
def lw_P (b : Addr) (xs : List Int32) (args : Array Value) (s : State) : Prop := args = #[.ref b] ∧ s.IntsAt b xs ∧ xs.length ≤ 288 ∧ (Jvm.Cond.and given_1 narrow_1).before args s = true
def lw_Q (_ : Array Value) (s : State) (o : Outcome) (t : State) : Prop := o = .returned (some (.int 1)) ∧ Framed s o t [] 1200096 5501386
def lw_Z (below : List Frame) (a : Array Value) (s : State) : State → Prop := fun t => ∃ o, t.status = .running ∧ Ended t below o ∧ lw_Q a s o t
/-- the law's own end, with 1 on the stack, nothing written that was there before, its room as the claim has it -/
theorem lw_ret {p : Program} {l : Launch} {e : Env} {s : State} {m : MethodId} {below : List Frame} {meth : Method} {c : Code} {b : Nat} (hx : p.tables.exec = Jvm.exec) (hb : c.code = code) (hr : meth.sig.returnType = ret) (hlocks : meth.locks = false) {pc : Nat} {H : Heap} {ls : Array Slot} (hdg : decode code pc = .ok (.ireturn, 1)) : W p l e room_1 s m #[Value.ref b] below meth c H [] 1200096 5501386 (lw_Z below #[Value.ref b] s) (F0 m pc ls [.int 1]) := by
  intro T hT X
  obtain ⟨fs, hret, hrun, hended, hW, hframe⟩ := X.leave (v := some (.int 1)) (hlocks := hlocks) (fun h => by rw [hr] at h; cases h)
  have hmeth' : T.vm.method? m = some meth := X.method'
  refine ⟨T.setFrames fs, ?_, .returned (some (.int 1)), hrun, hended, rfl, ⟨_, rfl⟩, hW, hframe⟩
  jvm_step X.here [X.here.top, hx, hb, hdg, hmeth', hr, ret, narrow_b1]
  (try refine ⟨rfl, ?_⟩); (try refine ⟨rfl, ?_⟩)
  first | (intro acts; rw [hret _ acts rfl rfl rfl]) | rw [hret _ _ rfl rfl rfl]
  exact Steps.refl _
/-- what holds at the law's entry: the machine, the code, the tables' words (any of lw_tbl by 'hts w (by decide +kernel)'), the script of L ints xs at the cell b, what the Statement gives of the start (any of its parts by flat_of_before) -/
def lw_At (p : Program) (s : State) (m : MethodId) (meth : Method) (c : Code) (b L : Nat) (xs : Nat → Int32) : Prop :=
  p.tables.exec = Jvm.exec ∧ c.code = code ∧ meth.sig.returnType = ret ∧ c.maxLocals = 4 ∧ s.vm.findClass R_law = some m.cls ∧ (∀ w ∈ lw_tbl, w.before #[Value.ref b] s = true) ∧ va_X b L xs s s.heap ∧ b < s.heap.size ∧ meth.locks = false ∧ (Jvm.Cond.and given_1 narrow_1).before #[Value.ref b] s = true
/-! the first state of the walk -/
set_option maxRecDepth 100000
abbrev pd_A (s : State) : Nat → Prop := fun q => s.heap.size ≤ q
theorem pd_arrC {ty : FieldType} {args : Array Value} {s : State} (h : (Cond.arrayClass ty).before args s = true) : ∃ c : ClassId, s.vm.findClass ("[" ++ ty.toString) = some c ∧ ArrOfT s c ty := by
  obtain ⟨c, k, comp, h1, h2, h3⟩ := Cond.arrayClass_spec h
  exact ⟨c, h1, fun n z => ⟨fun k h => (by cases h), k, h2, comp, h3⟩⟩
theorem pd_rows {args : Array Value} {s : State} (h : (Cond.and given_1 narrow_1).before args s = true) : ∃ tR : Nat → Nat, ∀ i : Nat, i < 9 → (Term.elem pd_E (.int (Int32.ofNat i))).eval args s none [] s = some (.ref (tR i)) ∧ (i < 8 → va_T .int (tR i) (2 ^ (i + 1)) (fun j => .int (nI (pd_coef i j))) (pd_A s) s s.heap) := by
  have hA : ∀ a : Nat, a < s.heap.size → ¬ pd_A s a := fun a h1 h2 => absurd h2 (Nat.not_le.mpr h1)
  have h0 : ∀ i : Nat, ∃ t : Nat, i < 9 → (Term.elem pd_E (.int (Int32.ofNat i))).eval args s none [] s = some (.ref t) ∧ (i < 8 → va_T .int t (2 ^ (i + 1)) (fun j => .int (nI (pd_coef i j))) (pd_A s) s s.heap) := by
    intro i
    by_cases hi : i < 9
    · rcases (show i = 0 ∨ i = 1 ∨ i = 2 ∨ i = 3 ∨ i = 4 ∨ i = 5 ∨ i = 6 ∨ i = 7 ∨ i = 8 by omega) with rfl | rfl | rfl | rfl | rfl | rfl | rfl | rfl | rfl
      · obtain ⟨t, h1, h2⟩ := va_Tof (tm := Term.elem pd_E (.int (Int32.ofNat 0))) (ty := .int) (N := 2) (f := fun j => .int (nI (pd_coef 0 j))) (A := pd_A s) (by decide) (pd_lf h 17 (by decide +kernel)) (va_eqt (pd_lf h 19 (by decide +kernel))) (fun j hj => pd_rowOf h pd_tab0 j hj) hA
        exact ⟨t, fun _ => ⟨h1, fun _ => h2⟩⟩
      · obtain ⟨t, h1, h2⟩ := va_Tof (tm := Term.elem pd_E (.int (Int32.ofNat 1))) (ty := .int) (N := 4) (f := fun j => .int (nI (pd_coef 1 j))) (A := pd_A s) (by decide) (pd_lf h 23 (by decide +kernel)) (va_eqt (pd_lf h 25 (by decide +kernel))) (fun j hj => pd_rowOf h pd_tab1 j hj) hA
        exact ⟨t, fun _ => ⟨h1, fun _ => h2⟩⟩
      · obtain ⟨t, h1, h2⟩ := va_Tof (tm := Term.elem pd_E (.int (Int32.ofNat 2))) (ty := .int) (N := 8) (f := fun j => .int (nI (pd_coef 2 j))) (A := pd_A s) (by decide) (pd_lf h 32 (by decide +kernel)) (va_eqt (pd_lf h 34 (by decide +kernel))) (fun j hj => pd_rowOf h pd_tab2 j hj) hA
        exact ⟨t, fun _ => ⟨h1, fun _ => h2⟩⟩
      · obtain ⟨t, h1, h2⟩ := va_Tof (tm := Term.elem pd_E (.int (Int32.ofNat 3))) (ty := .int) (N := 16) (f := fun j => .int (nI (pd_coef 3 j))) (A := pd_A s) (by decide) (pd_lf h 46 (by decide +kernel)) (va_eqt (pd_lf h 48 (by decide +kernel))) (fun j hj => pd_rowOf h pd_tab3 j hj) hA
        exact ⟨t, fun _ => ⟨h1, fun _ => h2⟩⟩
      · obtain ⟨t, h1, h2⟩ := va_Tof (tm := Term.elem pd_E (.int (Int32.ofNat 4))) (ty := .int) (N := 32) (f := fun j => .int (nI (pd_coef 4 j))) (A := pd_A s) (by decide) (pd_lf h 69 (by decide +kernel)) (va_eqt (pd_lf h 71 (by decide +kernel))) (fun j hj => pd_rowOf h pd_tab4 j hj) hA
        exact ⟨t, fun _ => ⟨h1, fun _ => h2⟩⟩
      · obtain ⟨t, h1, h2⟩ := va_Tof (tm := Term.elem pd_E (.int (Int32.ofNat 5))) (ty := .int) (N := 64) (f := fun j => .int (nI (pd_coef 5 j))) (A := pd_A s) (by decide) (pd_lf h 109 (by decide +kernel)) (va_eqt (pd_lf h 111 (by decide +kernel))) (fun j hj => pd_rowOf h pd_tab5 j hj) hA
        exact ⟨t, fun _ => ⟨h1, fun _ => h2⟩⟩
      · obtain ⟨t, h1, h2⟩ := va_Tof (tm := Term.elem pd_E (.int (Int32.ofNat 6))) (ty := .int) (N := 128) (f := fun j => .int (nI (pd_coef 6 j))) (A := pd_A s) (by decide) (pd_lf h 182 (by decide +kernel)) (va_eqt (pd_lf h 184 (by decide +kernel))) (fun j hj => pd_rowOf h pd_tab6 j hj) hA
        exact ⟨t, fun _ => ⟨h1, fun _ => h2⟩⟩
      · obtain ⟨t, h1, h2⟩ := va_Tof (tm := Term.elem pd_E (.int (Int32.ofNat 7))) (ty := .int) (N := 256) (f := fun j => .int (nI (pd_coef 7 j))) (A := pd_A s) (by decide) (pd_lf h 320 (by decide +kernel)) (va_eqt (pd_lf h 322 (by decide +kernel))) (fun j hj => pd_rowOf h pd_tab7 j hj) hA
        exact ⟨t, fun _ => ⟨h1, fun _ => h2⟩⟩
      · obtain ⟨t, cell, h1, -, -⟩ := Term.length_spec (va_eqt (t := Term.length (Term.elem pd_E (.int (Int32.ofNat 8)))) (z := 512) (pd_lf h 589 (by decide +kernel)))
        exact ⟨t, fun _ => ⟨h1, fun z => absurd z (by decide)⟩⟩
    · exact ⟨0, fun z => absurd z hi⟩
  exact ⟨fun i => Classical.choose (h0 i), fun i hi => Classical.choose_spec (h0 i) hi⟩
set_option maxHeartbeats 4000000 in
theorem pd_first {s : State} {b : Nat} (hts0 : ∀ w ∈ lw_tbl, w.before #[Value.ref b] s = true) (hg : (Cond.and given_1 narrow_1).before #[Value.ref b] s = true) : ∃ G : pd_G, pd_W G (pd_A s) s s.heap [] [] := by
  have hA : ∀ a : Nat, a < s.heap.size → ¬ pd_A s a := fun a h1 h2 => absurd h2 (Nat.not_le.mpr h1)
  obtain ⟨c0, i0, k0⟩ := u_known (C := RX0) (T := TX0) (N := 3) (n := 3) hts0 (fun w h => lw_all_tbl (in_X0 w h)) (hts0 _ (lw_all_tbl q20))
  obtain ⟨c1, i1, k1⟩ := u_known (C := RX1) (T := TX1) (N := 3) (n := 3) hts0 (fun w h => lw_all_tbl (in_X1 w h)) (hts0 _ (lw_all_tbl q395))
  obtain ⟨c2, i2, k2⟩ := u_known (C := RJ0) (T := TJ0) (N := 4) (n := 4) hts0 (fun w h => lw_all_tbl (in_J0 w h)) (hts0 _ (lw_all_tbl q54))
  obtain ⟨c3, i3, k3⟩ := u_known (C := RJ10) (T := TJ10) (N := 4) (n := 4) hts0 (fun w h => lw_all_tbl (in_J10 w h)) (hts0 _ (lw_all_tbl q269))
  obtain ⟨cI, eI, aI⟩ := pd_arrC (hts0 _ (lw_all_tbl q410))
  obtain ⟨cC, eC, aC⟩ := pd_arrC (hts0 _ (lw_all_tbl q38))
  obtain ⟨cB, eB, aB⟩ := pd_arrC (hts0 _ (lw_all_tbl q39))
  obtain ⟨tR, hR⟩ := pd_rows hg
  obtain ⟨tE, hE, hTE⟩ := va_Tof (tm := pd_E) (ty := .array .int) (N := 9) (f := fun i => .ref (tR i)) (A := pd_A s) (by decide) (pd_lf hg 13 (by decide +kernel)) (va_eqt (pd_lf hg 15 (by decide +kernel))) (fun j hj => (hR j hj).1) hA
  obtain ⟨adK, adV, hS, hK⟩ := vk_Sof (s := s) (args := #[Value.ref b]) (N := 1) (tm := fun _ => Term.string "java/lang/String" 7) (len := [0]) (byt := [[]]) (A := pd_A s) (fun i hi => by obtain rfl : i = 0 := (by omega); decide) (fun i hi => pd_lf hg 1114 (by decide +kernel)) (fun i hi => pd_lf hg 1115 (by decide +kernel)) (fun i hi => pd_lf hg 1116 (by decide +kernel)) (fun i hi => by obtain rfl : i = 0 := (by omega); exact pd_lf hg 1117 (by decide +kernel)) (fun i hi j hj => by obtain rfl : i = 0 := (by omega); exact absurd hj (Nat.not_lt_zero j)) (fun i j hi hj hij => absurd (show i = j by omega) hij) hA
  have hq := hK 0 (by decide)
  have hq13 : (Term.string "PdfParityDesk" 13).eval #[Value.ref b] s none [] s = some (.ref (adK 0)) := Cond.eq_refs (pd_lf hg 1118 (by decide +kernel)) hq rfl
  refine ⟨((fun k => if k = 0 then c0 else if k = 1 then c1 else if k = 2 then c2 else c3, fun k => if k = 0 then i0 else if k = 1 then i1 else if k = 2 then i2 else i3), (cI, cC, cB), (tE, tR), (adK 0, adV 0)), ⟨?_, ?_⟩, ?_, fun q h => h, ?_, ?_, va_S.rf⟩
  · intro k q hq
    match k, hq with
    | 0, hq => cases hq; exact k0
    | 1, hq => cases hq; exact k1
    | 2, hq => cases hq; exact k2
    | 3, hq => cases hq; exact k3
    | k + 4, hq => simp [vwCl] at hq
  · intro k q hq
    match k, hq with
    | 0, hq => cases hq; exact ⟨aI, eI⟩
    | 1, hq => cases hq; exact ⟨aC, eC⟩
    | 2, hq => cases hq; exact ⟨aB, eB⟩
    | k + 3, hq => simp [pd_tys] at hq
  · refine ⟨?_, ?_, ?_, ?_, ?_, ?_, ?_, ?_, ?_, ?_, ?_, ?_, ?_, ?_⟩
    · exact va_Zof (hts0 _ q75) (hts0 _ (lw_all_tbl q4)) (va_eqi (pd_lf hg 6 (by decide +kernel))) hA
    · exact va_Zof (hts0 _ q96) (hts0 _ (lw_all_tbl q6)) (va_eqi (pd_lf hg 7 (by decide +kernel))) hA
    · exact va_Zof (hts0 _ q101) (hts0 _ (lw_all_tbl q6)) (va_eqi (pd_lf hg 8 (by decide +kernel))) hA
    · exact va_Zof (hts0 _ q103) (hts0 _ (lw_all_tbl q6)) (va_eqi (pd_lf hg 9 (by decide +kernel))) hA
    · exact va_Zqof (hts0 _ q65) (hts0 _ (lw_all_tbl q5)) (pd_lf hg 5 (by decide +kernel)) hA
    · exact va_Zref (hts0 _ q267) (hts0 _ (lw_all_tbl q7)) hE hA
    · exact hTE
    · exact fun i hi => (hR i (by omega)).2 hi
    · exact vk_R.of (hts0 _ q73) hq
    · exact vk_R.of (hts0 _ q27) hq13
    · exact ⟨fun i hi => by obtain rfl : i = 0 := (by omega); exact hS.1 0 (by decide), fun i j hi hj _ => by omega⟩
    · exact va_Fw.of (hts0 _ q203) (hts0 _ q202) (hts0 _ q208) (hts0 _ q206) (hts0 _ q204)
    · exact va_Fw.of (hts0 _ q227) (hts0 _ q226) (hts0 _ q231) (hts0 _ q229) (hts0 _ q204)
    · exact va_Nw.of rfl (hts0 _ q325)
  · intro k q hq
    simp at hq
  · exact ⟨fun i j p q hi _ _ => by simp at hi, fun k q hq => by simp at hq⟩
end
section
/-! THE LAW: its loop; nothing told yet (the constant ""), something told (a made String) -/
set_option maxRecDepth 100000
section PDL
variable {p : Program} {l : Launch} {e : Env} {R : Room} {s : State} {m : MethodId} {args : Array Value} {below : List Frame} {meth : Method} {c : Code} {H : Heap} {locs : List Loc} {cells slots : Nat} {Q : State → Prop}
variable {cc : ByteArray} {pc : Nat} {ls : Array Slot} {rest : List Value} {G : pd_G} {ws : va_W}
theorem pd_sld (hx : p.tables.exec = Jvm.exec) (hb : c.code = cc) (h : pd_W G (pd_A s) s H locs ws) {b L : Nat} {xs : Nat → Int32} (hX : va_X b L xs s s.heap) (hbl : b < s.heap.size) {i : Nat} (hi : i < L) (hL : L < 2147483648) (hdg : decode cc pc = .ok (.iaload, 1)) (k : W p l e R s m args below meth c H locs cells slots Q (F0 m (pc + 1) ls (.int (xs i) :: rest))) : W p l e R s m args below meth c H locs cells slots Q (F0 m pc ls (.int (nI i) :: .ref b :: rest)) := by
  refine va_sld hx hb hX hbl (Nat.not_le.mpr hbl) h.2.2.2.2.2 (vp_in_nI hi hL) hdg ?_
  rw [nI_clamp (Nat.lt_trans hi hL)]
  exact k
theorem pd_sln (hx : p.tables.exec = Jvm.exec) (hb : c.code = cc) (h : pd_W G (pd_A s) s H locs ws) {b L : Nat} {xs : Nat → Int32} (hX : va_X b L xs s s.heap) (hbl : b < s.heap.size) (hdg : decode cc pc = .ok (.arraylength, 1)) (k : W p l e R s m args below meth c H locs cells slots Q (F0 m (pc + 1) ls (.int (nI L) :: rest))) : W p l e R s m args below meth c H locs cells slots Q (F0 m pc ls (.ref b :: rest)) := va_slen hx hb hX hbl (Nat.not_le.mpr hbl) h.2.2.2.2.2 hdg k
theorem pd_head6 (hx : p.tables.exec = Jvm.exec) (hb : c.code = cc) {i L tgt : Nat} {off : Int} (hi : i < 1073741824) (hL : L < 1073741824) (hdg : decode cc pc = .ok (.if_icmp .gt off, 3)) (ht : (pc : Int) + off = (tgt : Int)) (kt : L < i + 6 → W p l e R s m args below meth c H locs cells slots Q (F0 m tgt ls rest)) (kf : i + 6 ≤ L → W p l e R s m args below meth c H locs cells slots Q (F0 m (pc + 3) ls rest)) : W p l e R s m args below meth c H locs cells slots Q (F0 m pc ls (.int (nI L - nI 6) :: .int (nI i) :: rest)) := by
  have e : nI L - nI 6 < nI i ↔ L < i + 6 := by
    rw [Int32.lt_iff_toInt_lt, pk_sub_toInt hL (by decide), nI_toInt (by omega)]
    omega
  exact lv_icmp_gt (tgt := tgt) hx hb hdg ht (fun q => kt (e.mp q)) (fun q => kf (Nat.le_of_not_lt fun z => q (e.mpr z)))
end PDL
theorem pd_up2 {w : Nat → Nat} {n x y : Nat} (hw : ∀ j, w j < 929) : ∀ j, va_up (va_up w n (x % 929)) (n + 1) (y % 929) j < 929 := by
  intro j
  by_cases h1 : j = n + 1
  · subst h1
    rw [va_up_self]
    exact Nat.mod_lt _ (by decide)
  · rw [va_up_ne _ _ h1]
    by_cases h2 : j = n
    · subst h2
      rw [va_up_self]
      exact Nat.mod_lt _ (by decide)
    · rw [va_up_ne _ _ h2]
      exact hw j
set_option maxHeartbeats 8000000 in
set_option maxRecDepth 100000 in
theorem pd_law2 {p : Program} {e : Env} {s : State} {m : MethodId} {below : List Frame} {meth : Method} {co : Code} (l : Launch) (G : pd_G) {b L : Nat} {xs : Nat → Int32} (hL : L ≤ 288) (hx : p.tables.exec = Jvm.exec) (hb : co.code = code) (hr : meth.sig.returnType = ret) (hml : co.maxLocals = 4) (hown : s.vm.findClass R_law = some m.cls) (hts : ∀ w ∈ lw_all, w.before #[Value.ref b] s = true) (hX : va_X b L xs s s.heap) (hbl : b < s.heap.size) (hlk : meth.locks = false) : ∀ (d : Nat) (i : Nat) (n : Nat) (oX : Nat) (a1 : Nat) (oM : Nat) (a2 : Nat) (tl : Nat) (st : Nat) (sv : Nat) (cd : Nat) (nb : Nat) (K : Nat) (w : Nat → Nat) (tm : Nat → Nat) (f : Nat → Nat) (t : Nat → Nat) (H : Heap) (locs : List Loc) (ls : Array Slot), L + 1 ≤ i + d → i ≤ 300 → n ≤ 64 → (∀ j, w j < 929) → (0 < K ∧ K < 65536) → pd_st cd nb f K t → (∀ j, j < K → tm j = t j) → (∀ j, t j < 65536) → pd_W G (pd_A s) s H locs [(oX, .inr (0, [.ref a1, .int (nI n), .ref st])), (a1, .inl (pd_cC G, 64, .inl (fun j => nI (w j)))), (oM, .inr (1, [.ref a2, .int (nI n), .ref tl])), (a2, .inl (pd_cI G, 64, .inl (fun j => nI (w j)))), (tl, .inl (pd_cI G, K, .inl (fun j => nI (tm j)))), (st, .inr (2, [.ref sv, .int (nI cd), .int (0), .int (0)])), (sv, .inl (pd_cB G, nb, .inl (fun j => sb_b (f j))))] → lv_has ls 4 [(0, .ref b), (1, .ref oX), (2, .ref oM), (3, .int (nI i))] → W p l e room_1 s m #[Value.ref b] below meth co H locs (5 + 13 * i) (134 + 2875 * i) (lw_Z below #[Value.ref b] s) (F0 m 18 ls []) := by
  intro d
  induction d with
  | zero =>
    intro i n oX a1 oM a2 tl st sv cd nb K w tm f t H locs ls hd hi hn hw hK hst htm ht h hl
    refine lv_iload_n hx hb dL_law_18 rfl (lv_at hl 3 rfl) ?_
    refine lv_aload_n hx hb dL_law_19 rfl (lv_at hl 0 rfl) ?_
    refine pd_sln hx hb h hX hbl dL_law_20 ?_
    refine lv_bipush (v := (nI 6)) hx hb dL_law_21 (by decide) ?_
    refine lv_isub hx hb dL_law_23 ?_
    refine pd_head6 (tgt := 197) hx hb (by omega) (by omega) dL_law_24 (by decide) (fun c1 => ?_) (fun c1 => absurd c1 (by omega))
    refine lv_iconst (v := 1) hx hb dL_law_197 (by decide) ?_
    exact va_forget (fun q hq => h.2.2.2.2.2.2.2 q hq) (W.widen (k := 1200096) (n := 5501386) (by omega) (by omega) (lw_ret hx hb hr hlk dL_law_198))
  | succ d ih =>
    intro i n oX a1 oM a2 tl st sv cd nb K w tm f t H locs ls hd hi hn hw hK hst htm ht h hl
    refine lv_iload_n hx hb dL_law_18 rfl (lv_at hl 3 rfl) ?_
    refine lv_aload_n hx hb dL_law_19 rfl (lv_at hl 0 rfl) ?_
    refine pd_sln hx hb h hX hbl dL_law_20 ?_
    refine lv_bipush (v := (nI 6)) hx hb dL_law_21 (by decide) ?_
    refine lv_isub hx hb dL_law_23 ?_
    refine pd_head6 (tgt := 197) hx hb (by omega) (by omega) dL_law_24 (by decide) (fun c1 => ?_) (fun c1 => ?_)
    · refine lv_iconst (v := 1) hx hb dL_law_197 (by decide) ?_
      exact va_forget (fun q hq => h.2.2.2.2.2.2.2 q hq) (W.widen (k := 1200096) (n := 5501386) (by omega) (by omega) (lw_ret hx hb hr hlk dL_law_198))
    · refine lv_aload_n hx hb dL_law_27 rfl (lv_at hl 0 rfl) ?_
      refine lv_iload_n hx hb dL_law_28 rfl (lv_at hl 3 rfl) ?_
      refine pd_sld hx hb h hX hbl (i := i) (by omega) (by omega) dL_law_29 ?_
      refine lv_bipush (v := (nI 7)) hx hb dL_law_30 (by decide) ?_
      refine lv_iand hx hb dL_law_32 ?_
      refine pd_top (y := (nI (pd_lo (xs i)))) (pd_lo_and (xs i)) ?_
      have hlo := pd_lo_lt (xs i)
      rcases (show pd_lo (xs i) = 0 ∨ pd_lo (xs i) = 1 ∨ pd_lo (xs i) = 2 ∨ pd_lo (xs i) = 3 ∨ pd_lo (xs i) = 4 ∨ 4 < pd_lo (xs i) by omega) with hk | hk | hk | hk | hk | hk
      · refine pd_top (y := nI 0) (by rw [hk]) ?_
        refine lv_tableIn (off := 35) (tgt := 68) hx hb dL_law_33 (by decide) (by decide) (by first | rfl | decide) (by decide) ?_
        refine lv_aload_n hx hb dL_law_68 rfl (lv_at hl 1 rfl) ?_
        refine lv_aload_n hx hb dL_law_69 rfl (lv_at hl 0 rfl) ?_
        refine lv_iload_n hx hb dL_law_70 rfl (lv_at hl 3 rfl) ?_
        refine lv_iconst (v := (nI 1)) hx hb dL_law_71 (by decide) ?_
        refine pd_add hx hb dL_law_72 ?_
        refine pd_sld hx hb h hX hbl (i := i + 1) (by omega) (by omega) dL_law_73 ?_
        refine lv_aload_n hx hb dL_law_74 rfl (lv_at hl 0 rfl) ?_
        refine lv_iload_n hx hb dL_law_75 rfl (lv_at hl 3 rfl) ?_
        refine lv_iconst (v := (nI 2)) hx hb dL_law_76 (by decide) ?_
        refine pd_add hx hb dL_law_77 ?_
        refine pd_sld hx hb h hX hbl (i := i + 2) (by omega) (by omega) dL_law_78 ?_
        by_cases hn62 : n ≤ 62
        · refine pd_goi (wc := [(oX, .inr (0, [.ref a1, .int (nI n), .ref st])), (a1, .inl (pd_cC G, 64, .inl (fun j => nI (w j))))]) (wr := [(oM, .inr (1, [.ref a2, .int (nI n), .ref tl])), (a2, .inl (pd_cI G, 64, .inl (fun j => nI (w j)))), (tl, .inl (pd_cI G, K, .inl (fun j => nI (tm j)))), (st, .inr (2, [.ref sv, .int (nI cd), .int (0), .int (0)])), (sv, .inl (pd_cB G, nb, .inl (fun j => sb_b (f j))))]) h (va_runV (As := [.int (xs (i + 1)), .int (xs (i + 2))]) (rest := []) ⟨hx, hb, hml, hown, hts⟩ (met_dpy l G oX a1 st n w (xs (i + 1)) (xs (i + 2)) H.size hn62) (cwV 2 hts (lw_V q40 q41 q42 q2 q43) rfl rfl rfl (by decide +kernel) ⟨Nat.le_of_ble_eq_true rfl, Nat.le_of_ble_eq_true rfl⟩) ⟨pd_blind, pd_recv h 0 rfl rfl, pd_pre h [0, 1] (by decide) rfl⟩ rfl rfl hl.1 rfl (lv_room (Nat.le_of_ble_eq_true rfl)) dL_law_79 ⟨(by show _ ≤ 1200096; omega), (by show _ ≤ 5501386; omega)⟩) [0, 1] [2, 3, 4, 5, 6] rfl rfl (by decide) (by decide) (fun r1 u H locs hp h => ?_)
          have h : pd_W G _ s H locs [(oM, .inr (1, [.ref a2, .int (nI n), .ref tl])), (a2, .inl (pd_cI G, 64, .inl (fun j => nI (w j)))), (tl, .inl (pd_cI G, K, .inl (fun j => nI (tm j)))), (st, .inr (2, [.ref sv, .int (nI cd), .int (0), .int (0)])), (sv, .inl (pd_cB G, nb, .inl (fun j => sb_b (f j)))), (oX, .inr (0, [.ref a1, .int (nI ((n + 2))), .ref st])), (a1, .inl (pd_cC G, 64, .inl (fun j => nI ((va_up (va_up w n (pd_pl (xs (i + 1)) % 929)) (n + 1) (pd_pl (xs (i + 2)) % 929)) j))))] := h
          obtain rfl : r1 = (nI 1) := hp
          refine lv_aload_n hx hb dL_law_82 rfl (lv_at hl 2 rfl) ?_
          refine lv_aload_n hx hb dL_law_83 rfl (lv_at hl 0 rfl) ?_
          refine lv_iload_n hx hb dL_law_84 rfl (lv_at hl 3 rfl) ?_
          refine lv_iconst (v := (nI 1)) hx hb dL_law_85 (by decide) ?_
          refine pd_add hx hb dL_law_86 ?_
          refine pd_sld hx hb h hX hbl (i := i + 1) (by omega) (by omega) dL_law_87 ?_
          refine lv_aload_n hx hb dL_law_88 rfl (lv_at hl 0 rfl) ?_
          refine lv_iload_n hx hb dL_law_89 rfl (lv_at hl 3 rfl) ?_
          refine lv_iconst (v := (nI 2)) hx hb dL_law_90 (by decide) ?_
          refine pd_add hx hb dL_law_91 ?_
          refine pd_sld hx hb h hX hbl (i := i + 2) (by omega) (by omega) dL_law_92 ?_
          refine pd_goi (wc := [(oM, .inr (1, [.ref a2, .int (nI n), .ref tl])), (a2, .inl (pd_cI G, 64, .inl (fun j => nI (w j))))]) (wr := [(tl, .inl (pd_cI G, K, .inl (fun j => nI (tm j)))), (st, .inr (2, [.ref sv, .int (nI cd), .int (0), .int (0)])), (sv, .inl (pd_cB G, nb, .inl (fun j => sb_b (f j)))), (oX, .inr (0, [.ref a1, .int (nI ((n + 2))), .ref st])), (a1, .inl (pd_cC G, 64, .inl (fun j => nI ((va_up (va_up w n (pd_pl (xs (i + 1)) % 929)) (n + 1) (pd_pl (xs (i + 2)) % 929)) j))))]) h (va_runV (As := [.int (xs (i + 1)), .int (xs (i + 2))]) (rest := [.int (nI 1)]) ⟨hx, hb, hml, hown, hts⟩ (met_mpy l G oM a2 tl n w (xs (i + 1)) (xs (i + 2)) H.size hn62) (cwV 2 hts (lw_V q411 q412 q413 q3 q414) rfl rfl rfl (by decide +kernel) ⟨Nat.le_of_ble_eq_true rfl, Nat.le_of_ble_eq_true rfl⟩) ⟨pd_blind, pd_recv h 0 rfl rfl, pd_pre h [0, 1] (by decide) rfl⟩ rfl rfl hl.1 rfl (lv_room (Nat.le_of_ble_eq_true rfl)) dL_law_93 ⟨(by show _ ≤ 1200096; omega), (by show _ ≤ 5501386; omega)⟩) [0, 1] [2, 3, 4, 5, 6] rfl rfl (by decide) (by decide) (fun r3 u H locs hp h => ?_)
          have h : pd_W G _ s H locs [(tl, .inl (pd_cI G, K, .inl (fun j => nI (tm j)))), (st, .inr (2, [.ref sv, .int (nI cd), .int (0), .int (0)])), (sv, .inl (pd_cB G, nb, .inl (fun j => sb_b (f j)))), (oX, .inr (0, [.ref a1, .int (nI ((n + 2))), .ref st])), (a1, .inl (pd_cC G, 64, .inl (fun j => nI ((va_up (va_up w n (pd_pl (xs (i + 1)) % 929)) (n + 1) (pd_pl (xs (i + 2)) % 929)) j)))), (oM, .inr (1, [.ref a2, .int (nI ((n + 2))), .ref tl])), (a2, .inl (pd_cI G, 64, .inl (fun j => nI ((va_up (va_up w n (pd_pl (xs (i + 1)) % 929)) (n + 1) (pd_pl (xs (i + 2)) % 929)) j))))] := h
          obtain rfl : r3 = (nI 1) := hp
          refine pd_icmp_eq (tgt := 191) hx hb (by omega) (by omega) dL_law_96 (by decide) (fun c1 => ?_) (fun c1 => absurd c1 (by omega))
          refine lv_iinc (v := (nI (i + 6))) (lv' := [(3, .int (nI (i + 6))), (0, .ref b), (1, .ref oX), (2, .ref oM)]) hx hb dL_law_191 hl (k := 3) rfl (by rw [show Int32.ofInt 6 = nI 6 from rfl, nI_add]) (by decide) rfl (fun ls hl => ?_)
          refine lv_goto (tgt := 18) hx hb dL_law_194 (by decide) ?_
          refine W.widen (k := 5 + 13 * (i + 6)) (n := 134 + 2875 * (i + 6)) (by omega) (by omega) ?_
          exact ih (i + 6) (n + 2) oX a1 oM a2 tl st sv cd nb K (va_up (va_up w n (pd_pl (xs (i + 1)) % 929)) (n + 1) (pd_pl (xs (i + 2)) % 929)) tm f t H _ ls (by omega) (by omega) (by omega) (pd_up2 hw) hK hst htm ht (h.sub [3, 4, 5, 6, 0, 1, 2] (by decide) rfl) (lv_sub hl [1, 2, 3, 0] rfl)
        · refine pd_goi (wc := [(oX, .inr (0, [.ref a1, .int (nI n), .ref st])), (a1, .inl (pd_cC G, 64, .inl (fun j => nI (w j))))]) (wr := [(oM, .inr (1, [.ref a2, .int (nI n), .ref tl])), (a2, .inl (pd_cI G, 64, .inl (fun j => nI (w j)))), (tl, .inl (pd_cI G, K, .inl (fun j => nI (tm j)))), (st, .inr (2, [.ref sv, .int (nI cd), .int (0), .int (0)])), (sv, .inl (pd_cB G, nb, .inl (fun j => sb_b (f j))))]) h (va_runV (As := [.int (xs (i + 1)), .int (xs (i + 2))]) (rest := []) ⟨hx, hb, hml, hown, hts⟩ (met_dpn l G oX a1 st n w (xs (i + 1)) (xs (i + 2)) H.size (by omega) hn) (cwV 2 hts (lw_V q40 q41 q42 q2 q43) rfl rfl rfl (by decide +kernel) ⟨Nat.le_of_ble_eq_true rfl, Nat.le_of_ble_eq_true rfl⟩) ⟨pd_blind, pd_recv h 0 rfl rfl, pd_pre h [0, 1] (by decide) rfl⟩ rfl rfl hl.1 rfl (lv_room (Nat.le_of_ble_eq_true rfl)) dL_law_79 ⟨(by show _ ≤ 1200096; omega), (by show _ ≤ 5501386; omega)⟩) [0, 1] [2, 3, 4, 5, 6] rfl rfl (by decide) (by decide) (fun r1 u H locs hp h => ?_)
          have h : pd_W G _ s H locs [(oM, .inr (1, [.ref a2, .int (nI n), .ref tl])), (a2, .inl (pd_cI G, 64, .inl (fun j => nI (w j)))), (tl, .inl (pd_cI G, K, .inl (fun j => nI (tm j)))), (st, .inr (2, [.ref sv, .int (nI cd), .int (0), .int (0)])), (sv, .inl (pd_cB G, nb, .inl (fun j => sb_b (f j)))), (oX, .inr (0, [.ref a1, .int (nI n), .ref st])), (a1, .inl (pd_cC G, 64, .inl (fun j => nI (w j))))] := h
          obtain rfl : r1 = (nI 0) := hp
          refine lv_aload_n hx hb dL_law_82 rfl (lv_at hl 2 rfl) ?_
          refine lv_aload_n hx hb dL_law_83 rfl (lv_at hl 0 rfl) ?_
          refine lv_iload_n hx hb dL_law_84 rfl (lv_at hl 3 rfl) ?_
          refine lv_iconst (v := (nI 1)) hx hb dL_law_85 (by decide) ?_
          refine pd_add hx hb dL_law_86 ?_
          refine pd_sld hx hb h hX hbl (i := i + 1) (by omega) (by omega) dL_law_87 ?_
          refine lv_aload_n hx hb dL_law_88 rfl (lv_at hl 0 rfl) ?_
          refine lv_iload_n hx hb dL_law_89 rfl (lv_at hl 3 rfl) ?_
          refine lv_iconst (v := (nI 2)) hx hb dL_law_90 (by decide) ?_
          refine pd_add hx hb dL_law_91 ?_
          refine pd_sld hx hb h hX hbl (i := i + 2) (by omega) (by omega) dL_law_92 ?_
          refine pd_goi (wc := [(oM, .inr (1, [.ref a2, .int (nI n), .ref tl])), (a2, .inl (pd_cI G, 64, .inl (fun j => nI (w j))))]) (wr := [(tl, .inl (pd_cI G, K, .inl (fun j => nI (tm j)))), (st, .inr (2, [.ref sv, .int (nI cd), .int (0), .int (0)])), (sv, .inl (pd_cB G, nb, .inl (fun j => sb_b (f j)))), (oX, .inr (0, [.ref a1, .int (nI n), .ref st])), (a1, .inl (pd_cC G, 64, .inl (fun j => nI (w j))))]) h (va_runV (As := [.int (xs (i + 1)), .int (xs (i + 2))]) (rest := [.int (nI 0)]) ⟨hx, hb, hml, hown, hts⟩ (met_mpn l G oM a2 tl n w (xs (i + 1)) (xs (i + 2)) H.size (by omega) hn) (cwV 2 hts (lw_V q411 q412 q413 q3 q414) rfl rfl rfl (by decide +kernel) ⟨Nat.le_of_ble_eq_true rfl, Nat.le_of_ble_eq_true rfl⟩) ⟨pd_blind, pd_recv h 0 rfl rfl, pd_pre h [0, 1] (by decide) rfl⟩ rfl rfl hl.1 rfl (lv_room (Nat.le_of_ble_eq_true rfl)) dL_law_93 ⟨(by show _ ≤ 1200096; omega), (by show _ ≤ 5501386; omega)⟩) [0, 1] [2, 3, 4, 5, 6] rfl rfl (by decide) (by decide) (fun r3 u H locs hp h => ?_)
          have h : pd_W G _ s H locs [(tl, .inl (pd_cI G, K, .inl (fun j => nI (tm j)))), (st, .inr (2, [.ref sv, .int (nI cd), .int (0), .int (0)])), (sv, .inl (pd_cB G, nb, .inl (fun j => sb_b (f j)))), (oX, .inr (0, [.ref a1, .int (nI n), .ref st])), (a1, .inl (pd_cC G, 64, .inl (fun j => nI (w j)))), (oM, .inr (1, [.ref a2, .int (nI n), .ref tl])), (a2, .inl (pd_cI G, 64, .inl (fun j => nI (w j))))] := h
          obtain rfl : r3 = (nI 0) := hp
          refine pd_icmp_eq (tgt := 191) hx hb (by omega) (by omega) dL_law_96 (by decide) (fun c1 => ?_) (fun c1 => absurd c1 (by omega))
          refine lv_iinc (v := (nI (i + 6))) (lv' := [(3, .int (nI (i + 6))), (0, .ref b), (1, .ref oX), (2, .ref oM)]) hx hb dL_law_191 hl (k := 3) rfl (by rw [show Int32.ofInt 6 = nI 6 from rfl, nI_add]) (by decide) rfl (fun ls hl => ?_)
          refine lv_goto (tgt := 18) hx hb dL_law_194 (by decide) ?_
          refine W.widen (k := 5 + 13 * (i + 6)) (n := 134 + 2875 * (i + 6)) (by omega) (by omega) ?_
          exact ih (i + 6) n oX a1 oM a2 tl st sv cd nb K w tm f t H _ ls (by omega) (by omega) hn hw hK hst htm ht (h.sub [3, 4, 5, 6, 0, 1, 2] (by decide) rfl) (lv_sub hl [1, 2, 3, 0] rfl)
      · refine pd_top (y := nI 1) (by rw [hk]) ?_
        refine lv_tableIn (off := 68) (tgt := 101) hx hb dL_law_33 (by decide) (by decide) (by first | rfl | decide) (by decide) ?_
        refine lv_aload_n hx hb dL_law_101 rfl (lv_at hl 1 rfl) ?_
        refine lv_aload_n hx hb dL_law_102 rfl (lv_at hl 0 rfl) ?_
        refine lv_iload_n hx hb dL_law_103 rfl (lv_at hl 3 rfl) ?_
        refine lv_iconst (v := (nI 1)) hx hb dL_law_104 (by decide) ?_
        refine pd_add hx hb dL_law_105 ?_
        refine pd_sld hx hb h hX hbl (i := i + 1) (by omega) (by omega) dL_law_106 ?_
        have hml9 : pd_pl (xs (i + 1)) % (n + 1) < n + 1 := Nat.mod_lt _ (Nat.succ_pos n)
        refine pd_gov (wc := [(oX, .inr (0, [.ref a1, .int (nI n), .ref st]))]) (wr := [(a1, .inl (pd_cC G, 64, .inl (fun j => nI (w j)))), (oM, .inr (1, [.ref a2, .int (nI n), .ref tl])), (a2, .inl (pd_cI G, 64, .inl (fun j => nI (w j)))), (tl, .inl (pd_cI G, K, .inl (fun j => nI (tm j)))), (st, .inr (2, [.ref sv, .int (nI cd), .int (0), .int (0)])), (sv, .inl (pd_cB G, nb, .inl (fun j => sb_b (f j))))]) h (va_runV (As := [.int (xs (i + 1))]) (rest := []) ⟨hx, hb, hml, hown, hts⟩ (met_ddr l G oX a1 st n (xs (i + 1)) H.size hn) (cwV 1 hts (lw_V q45 q46 q47 q2 q48) rfl rfl rfl (by decide +kernel) ⟨Nat.le_of_ble_eq_true rfl, Nat.le_of_ble_eq_true rfl⟩) ⟨pd_blind, pd_recv h 0 rfl rfl, pd_pre h [0] (by decide) rfl⟩ rfl rfl hl.1 rfl (lv_room (Nat.le_of_ble_eq_true rfl)) dL_law_107 ⟨(by show _ ≤ 1200096; omega), (by show _ ≤ 5501386; omega)⟩) [0] [1, 2, 3, 4, 5, 6] rfl rfl (by decide) (by decide) (fun u H locs hp h => ?_)
        have h : pd_W G _ s H locs [(a1, .inl (pd_cC G, 64, .inl (fun j => nI (w j)))), (oM, .inr (1, [.ref a2, .int (nI n), .ref tl])), (a2, .inl (pd_cI G, 64, .inl (fun j => nI (w j)))), (tl, .inl (pd_cI G, K, .inl (fun j => nI (tm j)))), (st, .inr (2, [.ref sv, .int (nI cd), .int (0), .int (0)])), (sv, .inl (pd_cB G, nb, .inl (fun j => sb_b (f j)))), (oX, .inr (0, [.ref a1, .int (nI ((pd_pl (xs (i + 1)) % (n + 1)))), .ref st]))] := h
        refine lv_aload_n hx hb dL_law_110 rfl (lv_at hl 2 rfl) ?_
        refine lv_aload_n hx hb dL_law_111 rfl (lv_at hl 0 rfl) ?_
        refine lv_iload_n hx hb dL_law_112 rfl (lv_at hl 3 rfl) ?_
        refine lv_iconst (v := (nI 1)) hx hb dL_law_113 (by decide) ?_
        refine pd_add hx hb dL_law_114 ?_
        refine pd_sld hx hb h hX hbl (i := i + 1) (by omega) (by omega) dL_law_115 ?_
        refine pd_gov (wc := [(oM, .inr (1, [.ref a2, .int (nI n), .ref tl]))]) (wr := [(a1, .inl (pd_cC G, 64, .inl (fun j => nI (w j)))), (a2, .inl (pd_cI G, 64, .inl (fun j => nI (w j)))), (tl, .inl (pd_cI G, K, .inl (fun j => nI (tm j)))), (st, .inr (2, [.ref sv, .int (nI cd), .int (0), .int (0)])), (sv, .inl (pd_cB G, nb, .inl (fun j => sb_b (f j)))), (oX, .inr (0, [.ref a1, .int (nI ((pd_pl (xs (i + 1)) % (n + 1)))), .ref st]))]) h (va_runV (As := [.int (xs (i + 1))]) (rest := []) ⟨hx, hb, hml, hown, hts⟩ (met_mdr l G oM a2 tl n (xs (i + 1)) H.size hn) (cwV 1 hts (lw_V q419 q420 q421 q3 q422) rfl rfl rfl (by decide +kernel) ⟨Nat.le_of_ble_eq_true rfl, Nat.le_of_ble_eq_true rfl⟩) ⟨pd_blind, pd_recv h 1 rfl rfl, pd_pre h [1] (by decide) rfl⟩ rfl rfl hl.1 rfl (lv_room (Nat.le_of_ble_eq_true rfl)) dL_law_116 ⟨(by show _ ≤ 1200096; omega), (by show _ ≤ 5501386; omega)⟩) [1] [0, 2, 3, 4, 5, 6] rfl rfl (by decide) (by decide) (fun u H locs hp h => ?_)
        have h : pd_W G _ s H locs [(a1, .inl (pd_cC G, 64, .inl (fun j => nI (w j)))), (a2, .inl (pd_cI G, 64, .inl (fun j => nI (w j)))), (tl, .inl (pd_cI G, K, .inl (fun j => nI (tm j)))), (st, .inr (2, [.ref sv, .int (nI cd), .int (0), .int (0)])), (sv, .inl (pd_cB G, nb, .inl (fun j => sb_b (f j)))), (oX, .inr (0, [.ref a1, .int (nI ((pd_pl (xs (i + 1)) % (n + 1)))), .ref st])), (oM, .inr (1, [.ref a2, .int (nI ((pd_pl (xs (i + 1)) % (n + 1)))), .ref tl]))] := h
        refine lv_goto (tgt := 191) hx hb dL_law_119 (by decide) ?_
        refine lv_iinc (v := (nI (i + 6))) (lv' := [(3, .int (nI (i + 6))), (0, .ref b), (1, .ref oX), (2, .ref oM)]) hx hb dL_law_191 hl (k := 3) rfl (by rw [show Int32.ofInt 6 = nI 6 from rfl, nI_add]) (by decide) rfl (fun ls hl => ?_)
        refine lv_goto (tgt := 18) hx hb dL_law_194 (by decide) ?_
        refine W.widen (k := 5 + 13 * (i + 6)) (n := 134 + 2875 * (i + 6)) (by omega) (by omega) ?_
        exact ih (i + 6) (pd_pl (xs (i + 1)) % (n + 1)) oX a1 oM a2 tl st sv cd nb K w tm f t H _ ls (by omega) (by omega) (by omega) hw hK hst htm ht (h.sub [5, 0, 6, 1, 2, 3, 4] (by decide) rfl) (lv_sub hl [1, 2, 3, 0] rfl)
      · refine pd_top (y := nI 2) (by rw [hk]) ?_
        refine lv_tableIn (off := 89) (tgt := 122) hx hb dL_law_33 (by decide) (by decide) (by first | rfl | decide) (by decide) ?_
        refine lv_aload_n hx hb dL_law_122 rfl (lv_at hl 1 rfl) ?_
        refine lv_aload_n hx hb dL_law_123 rfl (lv_at hl 0 rfl) ?_
        refine lv_iload_n hx hb dL_law_124 rfl (lv_at hl 3 rfl) ?_
        refine lv_iconst (v := (nI 1)) hx hb dL_law_125 (by decide) ?_
        refine pd_add hx hb dL_law_126 ?_
        refine pd_sld hx hb h hX hbl (i := i + 1) (by omega) (by omega) dL_law_127 ?_
        have hK8 := pd_pow8 (pd_lo_lt (xs (i + 1)))
        have hK0 : 0 < 2 ^ (pd_lo (xs (i + 1)) + 1) := Nat.two_pow_pos _
        by_cases hn0 : 0 < n
        · refine pd_goi (wc := [(oX, .inr (0, [.ref a1, .int (nI n), .ref st])), (a1, .inl (pd_cC G, 64, .inl (fun j => nI (w j))))]) (wr := [(oM, .inr (1, [.ref a2, .int (nI n), .ref tl])), (a2, .inl (pd_cI G, 64, .inl (fun j => nI (w j)))), (tl, .inl (pd_cI G, K, .inl (fun j => nI (tm j)))), (st, .inr (2, [.ref sv, .int (nI cd), .int (0), .int (0)])), (sv, .inl (pd_cB G, nb, .inl (fun j => sb_b (f j))))]) h (va_runV (As := [.int (xs (i + 1))]) (rest := []) ⟨hx, hb, hml, hown, hts⟩ (met_dma l G oX a1 st n w (xs (i + 1)) H.size hn (by omega) hw) (cwV 1 hts (lw_V q49 q50 q51 q2 q52) rfl rfl rfl (by decide +kernel) ⟨Nat.le_of_ble_eq_true rfl, Nat.le_of_ble_eq_true rfl⟩) ⟨pd_blind, pd_recv h 0 rfl rfl, pd_pre h [0, 1] (by decide) rfl⟩ rfl rfl hl.1 rfl (lv_room (Nat.le_of_ble_eq_true rfl)) dL_law_128 ⟨(by show _ ≤ 1200096; omega), (by show _ ≤ 5501386; omega)⟩) [0, 1] [2, 3, 4, 5, 6] rfl rfl (by decide) (by decide) (fun r1 um H locs hum h => ?_)
          have h : pd_W G _ s H locs [(oM, .inr (1, [.ref a2, .int (nI n), .ref tl])), (a2, .inl (pd_cI G, 64, .inl (fun j => nI (w j)))), (tl, .inl (pd_cI G, K, .inl (fun j => nI (tm j)))), (st, .inr (2, [.ref sv, .int (nI cd), .int (0), .int (0)])), (sv, .inl (pd_cB G, nb, .inl (fun j => sb_b (f j)))), (oX, .inr (0, [.ref a1, .int (nI n), .ref um.1])), (a1, .inl (pd_cC G, 64, .inl (fun j => nI (w j)))), (um.1, .inr (2, [.ref um.2.1, .int (nI (um.2.2.1)), .int (0), .int (0)])), (um.2.1, .inl (pd_cB G, um.2.2.2.1, .inl (fun j => sb_b (um.2.2.2.2 j))))] := h
          obtain rfl : r1 = (nI (2 ^ (pd_lo (xs (i + 1)) + 1))) := hum.1
          obtain ⟨qs, gv, gcd, gnb, gf⟩ := um
          have hst9 : pd_st gcd gnb gf (2 ^ (pd_lo (xs (i + 1)) + 1)) (fun q => pd_out (2 ^ (pd_lo (xs (i + 1)) + 1)) w n q) := hum.2
          have h : pd_W G _ s H locs [(oM, .inr (1, [.ref a2, .int (nI n), .ref tl])), (a2, .inl (pd_cI G, 64, .inl (fun j => nI (w j)))), (tl, .inl (pd_cI G, K, .inl (fun j => nI (tm j)))), (st, .inr (2, [.ref sv, .int (nI cd), .int (0), .int (0)])), (sv, .inl (pd_cB G, nb, .inl (fun j => sb_b (f j)))), (oX, .inr (0, [.ref a1, .int (nI n), .ref qs])), (a1, .inl (pd_cC G, 64, .inl (fun j => nI (w j)))), (qs, .inr (2, [.ref gv, .int (nI gcd), .int (0), .int (0)])), (gv, .inl (pd_cB G, gnb, .inl (fun j => sb_b (gf j))))] := h
          refine lv_aload_n hx hb dL_law_131 rfl (lv_at hl 2 rfl) ?_
          refine lv_aload_n hx hb dL_law_132 rfl (lv_at hl 0 rfl) ?_
          refine lv_iload_n hx hb dL_law_133 rfl (lv_at hl 3 rfl) ?_
          refine lv_iconst (v := (nI 1)) hx hb dL_law_134 (by decide) ?_
          refine pd_add hx hb dL_law_135 ?_
          refine pd_sld hx hb h hX hbl (i := i + 1) (by omega) (by omega) dL_law_136 ?_
          refine pd_goi (wc := [(oM, .inr (1, [.ref a2, .int (nI n), .ref tl])), (a2, .inl (pd_cI G, 64, .inl (fun j => nI (w j))))]) (wr := [(tl, .inl (pd_cI G, K, .inl (fun j => nI (tm j)))), (st, .inr (2, [.ref sv, .int (nI cd), .int (0), .int (0)])), (sv, .inl (pd_cB G, nb, .inl (fun j => sb_b (f j)))), (oX, .inr (0, [.ref a1, .int (nI n), .ref qs])), (a1, .inl (pd_cC G, 64, .inl (fun j => nI (w j)))), (qs, .inr (2, [.ref gv, .int (nI gcd), .int (0), .int (0)])), (gv, .inl (pd_cB G, gnb, .inl (fun j => sb_b (gf j))))]) h (va_runV (As := [.int (xs (i + 1))]) (rest := [.int (nI (2 ^ (pd_lo (xs (i + 1)) + 1)))]) ⟨hx, hb, hml, hown, hts⟩ (met_mma l G oM a2 tl n w (xs (i + 1)) H.size hn hw) (cwV 1 hts (lw_V q427 q428 q429 q3 q430) rfl rfl rfl (by decide +kernel) ⟨Nat.le_of_ble_eq_true rfl, Nat.le_of_ble_eq_true rfl⟩) ⟨pd_blind, pd_recv h 0 rfl rfl, pd_pre h [0, 1] (by decide) rfl⟩ rfl rfl hl.1 rfl (lv_room (Nat.le_of_ble_eq_true rfl)) dL_law_137 ⟨(by show _ ≤ 1200096; omega), (by show _ ≤ 5501386; omega)⟩) [0, 1] [2, 3, 4, 5, 6, 7, 8] rfl rfl (by decide) (by decide) (fun r3 uk H locs huk h => ?_)
          have h : pd_W G _ s H locs [(tl, .inl (pd_cI G, K, .inl (fun j => nI (tm j)))), (st, .inr (2, [.ref sv, .int (nI cd), .int (0), .int (0)])), (sv, .inl (pd_cB G, nb, .inl (fun j => sb_b (f j)))), (oX, .inr (0, [.ref a1, .int (nI n), .ref qs])), (a1, .inl (pd_cC G, 64, .inl (fun j => nI (w j)))), (qs, .inr (2, [.ref gv, .int (nI gcd), .int (0), .int (0)])), (gv, .inl (pd_cB G, gnb, .inl (fun j => sb_b (gf j)))), (oM, .inr (1, [.ref a2, .int (nI n), .ref uk.1])), (a2, .inl (pd_cI G, 64, .inl (fun j => nI (w j)))), (uk.1, .inl (pd_cI G, 2 ^ (pd_lo (xs (i + 1)) + 1), .inl (fun j => nI (uk.2 j))))] := h
          obtain rfl : r3 = (nI (2 ^ (pd_lo (xs (i + 1)) + 1))) := huk.1
          obtain ⟨qk, fk⟩ := uk
          have htk : ∀ j, j < 2 ^ (pd_lo (xs (i + 1)) + 1) → fk j = pd_out (2 ^ (pd_lo (xs (i + 1)) + 1)) w n j := huk.2
          have h : pd_W G _ s H locs [(tl, .inl (pd_cI G, K, .inl (fun j => nI (tm j)))), (st, .inr (2, [.ref sv, .int (nI cd), .int (0), .int (0)])), (sv, .inl (pd_cB G, nb, .inl (fun j => sb_b (f j)))), (oX, .inr (0, [.ref a1, .int (nI n), .ref qs])), (a1, .inl (pd_cC G, 64, .inl (fun j => nI (w j)))), (qs, .inr (2, [.ref gv, .int (nI gcd), .int (0), .int (0)])), (gv, .inl (pd_cB G, gnb, .inl (fun j => sb_b (gf j)))), (oM, .inr (1, [.ref a2, .int (nI n), .ref qk])), (a2, .inl (pd_cI G, 64, .inl (fun j => nI (w j)))), (qk, .inl (pd_cI G, 2 ^ (pd_lo (xs (i + 1)) + 1), .inl (fun j => nI (fk j))))] := h
          refine pd_icmp_eq (tgt := 191) hx hb (by omega) (by omega) dL_law_140 (by decide) (fun c1 => ?_) (fun c1 => absurd c1 (by omega))
          refine lv_iinc (v := (nI (i + 6))) (lv' := [(3, .int (nI (i + 6))), (0, .ref b), (1, .ref oX), (2, .ref oM)]) hx hb dL_law_191 hl (k := 3) rfl (by rw [show Int32.ofInt 6 = nI 6 from rfl, nI_add]) (by decide) rfl (fun ls hl => ?_)
          refine lv_goto (tgt := 18) hx hb dL_law_194 (by decide) ?_
          refine W.widen (k := 5 + 13 * (i + 6)) (n := 134 + 2875 * (i + 6)) (by omega) (by omega) ?_
          exact ih (i + 6) n oX a1 oM a2 qk qs gv gcd gnb (2 ^ (pd_lo (xs (i + 1)) + 1)) w fk gf (fun q => pd_out (2 ^ (pd_lo (xs (i + 1)) + 1)) w n q) H _ ls (by omega) (by omega) hn hw ⟨hK0, by omega⟩ hst9 htk (fun j => Nat.lt_trans (pd_out_lt _ _ _ j) (by decide)) (h.sub [3, 4, 7, 8, 9, 5, 6] (by decide) rfl) (lv_sub hl [1, 2, 3, 0] rfl)
        · obtain rfl : n = 0 := by omega
          refine pd_goi (wc := [(oX, .inr (0, [.ref a1, .int (nI 0), .ref st])), (a1, .inl (pd_cC G, 64, .inl (fun j => nI (w j))))]) (wr := [(oM, .inr (1, [.ref a2, .int (nI 0), .ref tl])), (a2, .inl (pd_cI G, 64, .inl (fun j => nI (w j)))), (tl, .inl (pd_cI G, K, .inl (fun j => nI (tm j)))), (st, .inr (2, [.ref sv, .int (nI cd), .int (0), .int (0)])), (sv, .inl (pd_cB G, nb, .inl (fun j => sb_b (f j))))]) h (va_runV (As := [.int (xs (i + 1))]) (rest := []) ⟨hx, hb, hml, hown, hts⟩ (met_dm0 l G oX a1 st w (xs (i + 1)) H.size) (cwV 1 hts (lw_V q49 q50 q51 q2 q52) rfl rfl rfl (by decide +kernel) ⟨Nat.le_of_ble_eq_true rfl, Nat.le_of_ble_eq_true rfl⟩) ⟨pd_blind, pd_recv h 0 rfl rfl, pd_pre h [0, 1] (by decide) rfl⟩ rfl rfl hl.1 rfl (lv_room (Nat.le_of_ble_eq_true rfl)) dL_law_128 ⟨(by show _ ≤ 1200096; omega), (by show _ ≤ 5501386; omega)⟩) [0, 1] [2, 3, 4, 5, 6] rfl rfl (by decide) (by decide) (fun r1 um H locs hum h => ?_)
          have h : pd_W G _ s H locs [(oM, .inr (1, [.ref a2, .int (nI 0), .ref tl])), (a2, .inl (pd_cI G, 64, .inl (fun j => nI (w j)))), (tl, .inl (pd_cI G, K, .inl (fun j => nI (tm j)))), (st, .inr (2, [.ref sv, .int (nI cd), .int (0), .int (0)])), (sv, .inl (pd_cB G, nb, .inl (fun j => sb_b (f j)))), (oX, .inr (0, [.ref a1, .int (nI 0), .ref um.1])), (a1, .inl (pd_cC G, 64, .inl (fun j => nI (w j)))), (um.1, .inr (2, [.ref um.2.1, .int (nI (um.2.2.1)), .int (0), .int (0)])), (um.2.1, .inl (pd_cB G, um.2.2.2.1, .inl (fun j => sb_b (um.2.2.2.2 j))))] := h
          obtain rfl : r1 = (nI (2 ^ (pd_lo (xs (i + 1)) + 1))) := hum.1
          obtain ⟨qs, gv, gcd, gnb, gf⟩ := um
          have hst9 : pd_st gcd gnb gf (2 ^ (pd_lo (xs (i + 1)) + 1)) (fun q => pd_out (2 ^ (pd_lo (xs (i + 1)) + 1)) w 0 q) := hum.2
          have h : pd_W G _ s H locs [(oM, .inr (1, [.ref a2, .int (nI 0), .ref tl])), (a2, .inl (pd_cI G, 64, .inl (fun j => nI (w j)))), (tl, .inl (pd_cI G, K, .inl (fun j => nI (tm j)))), (st, .inr (2, [.ref sv, .int (nI cd), .int (0), .int (0)])), (sv, .inl (pd_cB G, nb, .inl (fun j => sb_b (f j)))), (oX, .inr (0, [.ref a1, .int (nI 0), .ref qs])), (a1, .inl (pd_cC G, 64, .inl (fun j => nI (w j)))), (qs, .inr (2, [.ref gv, .int (nI gcd), .int (0), .int (0)])), (gv, .inl (pd_cB G, gnb, .inl (fun j => sb_b (gf j))))] := h
          refine lv_aload_n hx hb dL_law_131 rfl (lv_at hl 2 rfl) ?_
          refine lv_aload_n hx hb dL_law_132 rfl (lv_at hl 0 rfl) ?_
          refine lv_iload_n hx hb dL_law_133 rfl (lv_at hl 3 rfl) ?_
          refine lv_iconst (v := (nI 1)) hx hb dL_law_134 (by decide) ?_
          refine pd_add hx hb dL_law_135 ?_
          refine pd_sld hx hb h hX hbl (i := i + 1) (by omega) (by omega) dL_law_136 ?_
          refine pd_goi (wc := [(oM, .inr (1, [.ref a2, .int (nI 0), .ref tl])), (a2, .inl (pd_cI G, 64, .inl (fun j => nI (w j))))]) (wr := [(tl, .inl (pd_cI G, K, .inl (fun j => nI (tm j)))), (st, .inr (2, [.ref sv, .int (nI cd), .int (0), .int (0)])), (sv, .inl (pd_cB G, nb, .inl (fun j => sb_b (f j)))), (oX, .inr (0, [.ref a1, .int (nI 0), .ref qs])), (a1, .inl (pd_cC G, 64, .inl (fun j => nI (w j)))), (qs, .inr (2, [.ref gv, .int (nI gcd), .int (0), .int (0)])), (gv, .inl (pd_cB G, gnb, .inl (fun j => sb_b (gf j))))]) h (va_runV (As := [.int (xs (i + 1))]) (rest := [.int (nI (2 ^ (pd_lo (xs (i + 1)) + 1)))]) ⟨hx, hb, hml, hown, hts⟩ (met_mma l G oM a2 tl 0 w (xs (i + 1)) H.size (by decide) hw) (cwV 1 hts (lw_V q427 q428 q429 q3 q430) rfl rfl rfl (by decide +kernel) ⟨Nat.le_of_ble_eq_true rfl, Nat.le_of_ble_eq_true rfl⟩) ⟨pd_blind, pd_recv h 0 rfl rfl, pd_pre h [0, 1] (by decide) rfl⟩ rfl rfl hl.1 rfl (lv_room (Nat.le_of_ble_eq_true rfl)) dL_law_137 ⟨(by show _ ≤ 1200096; omega), (by show _ ≤ 5501386; omega)⟩) [0, 1] [2, 3, 4, 5, 6, 7, 8] rfl rfl (by decide) (by decide) (fun r3 uk H locs huk h => ?_)
          have h : pd_W G _ s H locs [(tl, .inl (pd_cI G, K, .inl (fun j => nI (tm j)))), (st, .inr (2, [.ref sv, .int (nI cd), .int (0), .int (0)])), (sv, .inl (pd_cB G, nb, .inl (fun j => sb_b (f j)))), (oX, .inr (0, [.ref a1, .int (nI 0), .ref qs])), (a1, .inl (pd_cC G, 64, .inl (fun j => nI (w j)))), (qs, .inr (2, [.ref gv, .int (nI gcd), .int (0), .int (0)])), (gv, .inl (pd_cB G, gnb, .inl (fun j => sb_b (gf j)))), (oM, .inr (1, [.ref a2, .int (nI 0), .ref uk.1])), (a2, .inl (pd_cI G, 64, .inl (fun j => nI (w j)))), (uk.1, .inl (pd_cI G, 2 ^ (pd_lo (xs (i + 1)) + 1), .inl (fun j => nI (uk.2 j))))] := h
          obtain rfl : r3 = (nI (2 ^ (pd_lo (xs (i + 1)) + 1))) := huk.1
          obtain ⟨qk, fk⟩ := uk
          have htk : ∀ j, j < 2 ^ (pd_lo (xs (i + 1)) + 1) → fk j = pd_out (2 ^ (pd_lo (xs (i + 1)) + 1)) w 0 j := huk.2
          have h : pd_W G _ s H locs [(tl, .inl (pd_cI G, K, .inl (fun j => nI (tm j)))), (st, .inr (2, [.ref sv, .int (nI cd), .int (0), .int (0)])), (sv, .inl (pd_cB G, nb, .inl (fun j => sb_b (f j)))), (oX, .inr (0, [.ref a1, .int (nI 0), .ref qs])), (a1, .inl (pd_cC G, 64, .inl (fun j => nI (w j)))), (qs, .inr (2, [.ref gv, .int (nI gcd), .int (0), .int (0)])), (gv, .inl (pd_cB G, gnb, .inl (fun j => sb_b (gf j)))), (oM, .inr (1, [.ref a2, .int (nI 0), .ref qk])), (a2, .inl (pd_cI G, 64, .inl (fun j => nI (w j)))), (qk, .inl (pd_cI G, 2 ^ (pd_lo (xs (i + 1)) + 1), .inl (fun j => nI (fk j))))] := h
          refine pd_icmp_eq (tgt := 191) hx hb (by omega) (by omega) dL_law_140 (by decide) (fun c1 => ?_) (fun c1 => absurd c1 (by omega))
          refine lv_iinc (v := (nI (i + 6))) (lv' := [(3, .int (nI (i + 6))), (0, .ref b), (1, .ref oX), (2, .ref oM)]) hx hb dL_law_191 hl (k := 3) rfl (by rw [show Int32.ofInt 6 = nI 6 from rfl, nI_add]) (by decide) rfl (fun ls hl => ?_)
          refine lv_goto (tgt := 18) hx hb dL_law_194 (by decide) ?_
          refine W.widen (k := 5 + 13 * (i + 6)) (n := 134 + 2875 * (i + 6)) (by omega) (by omega) ?_
          exact ih (i + 6) 0 oX a1 oM a2 qk qs gv gcd gnb (2 ^ (pd_lo (xs (i + 1)) + 1)) w fk gf (fun q => pd_out (2 ^ (pd_lo (xs (i + 1)) + 1)) w 0 q) H _ ls (by omega) (by omega) (by decide) hw ⟨hK0, by omega⟩ hst9 htk (fun j => Nat.lt_trans (pd_out_lt _ _ _ j) (by decide)) (h.sub [3, 4, 7, 8, 9, 5, 6] (by decide) rfl) (lv_sub hl [1, 2, 3, 0] rfl)
      · refine pd_top (y := nI 3) (by rw [hk]) ?_
        refine lv_tableIn (off := 112) (tgt := 145) hx hb dL_law_33 (by decide) (by decide) (by first | rfl | decide) (by decide) ?_
        refine lv_aload_n hx hb dL_law_145 rfl (lv_at hl 1 rfl) ?_
        refine lv_aload_n hx hb dL_law_146 rfl (lv_at hl 0 rfl) ?_
        refine lv_iload_n hx hb dL_law_147 rfl (lv_at hl 3 rfl) ?_
        refine lv_iconst (v := (nI 1)) hx hb dL_law_148 (by decide) ?_
        refine pd_add hx hb dL_law_149 ?_
        refine pd_sld hx hb h hX hbl (i := i + 1) (by omega) (by omega) dL_law_150 ?_
        have hml9 : pd_pl (xs (i + 1)) % K < K := Nat.mod_lt _ hK.1
        have hte := htm _ hml9
        have htl := ht (pd_pl (xs (i + 1)) % K)
        refine pd_goi (wc := [(oX, .inr (0, [.ref a1, .int (nI n), .ref st])), (st, .inr (2, [.ref sv, .int (nI cd), .int (0), .int (0)])), (sv, .inl (pd_cB G, nb, .inl (fun j => sb_b (f j))))]) (wr := [(a1, .inl (pd_cC G, 64, .inl (fun j => nI (w j)))), (oM, .inr (1, [.ref a2, .int (nI n), .ref tl])), (a2, .inl (pd_cI G, 64, .inl (fun j => nI (w j)))), (tl, .inl (pd_cI G, K, .inl (fun j => nI (tm j))))]) h (va_runV (As := [.int (xs (i + 1))]) (rest := []) ⟨hx, hb, hml, hown, hts⟩ (met_dt1 l G oX a1 st n sv cd nb K f t (xs (i + 1)) H.size hK.1 hK.2 hst ht) (cwV 1 hts (lw_V q384 q385 q386 q2 q387) rfl rfl rfl (by decide +kernel) ⟨Nat.le_of_ble_eq_true rfl, Nat.le_of_ble_eq_true rfl⟩) ⟨pd_blind, pd_recv h 0 rfl rfl, pd_pre h [0, 5, 6] (by decide) rfl⟩ rfl rfl hl.1 rfl (lv_room (Nat.le_of_ble_eq_true rfl)) dL_law_151 ⟨(by show _ ≤ 1200096; omega), (by show _ ≤ 5501386; omega)⟩) [0, 5, 6] [1, 2, 3, 4] rfl rfl (by decide) (by decide) (fun r1 u H locs hp h => ?_)
        have h : pd_W G _ s H locs [(a1, .inl (pd_cC G, 64, .inl (fun j => nI (w j)))), (oM, .inr (1, [.ref a2, .int (nI n), .ref tl])), (a2, .inl (pd_cI G, 64, .inl (fun j => nI (w j)))), (tl, .inl (pd_cI G, K, .inl (fun j => nI (tm j)))), (oX, .inr (0, [.ref a1, .int (nI n), .ref st])), (st, .inr (2, [.ref sv, .int (nI cd), .int (0), .int (0)])), (sv, .inl (pd_cB G, nb, .inl (fun j => sb_b (f j))))] := h
        obtain rfl : r1 = (nI (t (pd_pl (xs (i + 1)) % K))) := hp
        refine lv_aload_n hx hb dL_law_154 rfl (lv_at hl 2 rfl) ?_
        refine lv_aload_n hx hb dL_law_155 rfl (lv_at hl 0 rfl) ?_
        refine lv_iload_n hx hb dL_law_156 rfl (lv_at hl 3 rfl) ?_
        refine lv_iconst (v := (nI 1)) hx hb dL_law_157 (by decide) ?_
        refine pd_add hx hb dL_law_158 ?_
        refine pd_sld hx hb h hX hbl (i := i + 1) (by omega) (by omega) dL_law_159 ?_
        refine pd_goi (wc := [(oM, .inr (1, [.ref a2, .int (nI n), .ref tl])), (tl, .inl (pd_cI G, K, .inl (fun j => nI (tm j))))]) (wr := [(a1, .inl (pd_cC G, 64, .inl (fun j => nI (w j)))), (a2, .inl (pd_cI G, 64, .inl (fun j => nI (w j)))), (oX, .inr (0, [.ref a1, .int (nI n), .ref st])), (st, .inr (2, [.ref sv, .int (nI cd), .int (0), .int (0)])), (sv, .inl (pd_cB G, nb, .inl (fun j => sb_b (f j))))]) h (va_runV (As := [.int (xs (i + 1))]) (rest := [.int (nI (t (pd_pl (xs (i + 1)) % K)))]) ⟨hx, hb, hml, hown, hts⟩ (met_mt1 l G oM a2 tl n K tm (xs (i + 1)) H.size hK.1 hK.2) (cwV 1 hts (lw_V q435 q436 q437 q3 q438) rfl rfl rfl (by decide +kernel) ⟨Nat.le_of_ble_eq_true rfl, Nat.le_of_ble_eq_true rfl⟩) ⟨pd_blind, pd_recv h 1 rfl rfl, pd_pre h [1, 3] (by decide) rfl⟩ rfl rfl hl.1 rfl (lv_room (Nat.le_of_ble_eq_true rfl)) dL_law_160 ⟨(by show _ ≤ 1200096; omega), (by show _ ≤ 5501386; omega)⟩) [1, 3] [0, 2, 4, 5, 6] rfl rfl (by decide) (by decide) (fun r3 u H locs hp h => ?_)
        have h : pd_W G _ s H locs [(a1, .inl (pd_cC G, 64, .inl (fun j => nI (w j)))), (a2, .inl (pd_cI G, 64, .inl (fun j => nI (w j)))), (oX, .inr (0, [.ref a1, .int (nI n), .ref st])), (st, .inr (2, [.ref sv, .int (nI cd), .int (0), .int (0)])), (sv, .inl (pd_cB G, nb, .inl (fun j => sb_b (f j)))), (oM, .inr (1, [.ref a2, .int (nI n), .ref tl])), (tl, .inl (pd_cI G, K, .inl (fun j => nI (tm j))))] := h
        obtain rfl : r3 = (nI (tm (pd_pl (xs (i + 1)) % K))) := hp
        refine pd_icmp_eq (tgt := 191) hx hb (by omega) (by omega) dL_law_163 (by decide) (fun c1 => ?_) (fun c1 => absurd c1 (by omega))
        refine lv_iinc (v := (nI (i + 6))) (lv' := [(3, .int (nI (i + 6))), (0, .ref b), (1, .ref oX), (2, .ref oM)]) hx hb dL_law_191 hl (k := 3) rfl (by rw [show Int32.ofInt 6 = nI 6 from rfl, nI_add]) (by decide) rfl (fun ls hl => ?_)
        refine lv_goto (tgt := 18) hx hb dL_law_194 (by decide) ?_
        refine W.widen (k := 5 + 13 * (i + 6)) (n := 134 + 2875 * (i + 6)) (by omega) (by omega) ?_
        exact ih (i + 6) n oX a1 oM a2 tl st sv cd nb K w tm f t H _ ls (by omega) (by omega) hn hw hK hst htm ht (h.sub [2, 0, 5, 1, 6, 3, 4] (by decide) rfl) (lv_sub hl [1, 2, 3, 0] rfl)
      · refine pd_top (y := nI 4) (by rw [hk]) ?_
        refine lv_tableIn (off := 135) (tgt := 168) hx hb dL_law_33 (by decide) (by decide) (by first | rfl | decide) (by decide) ?_
        refine lv_aload_n hx hb dL_law_168 rfl (lv_at hl 1 rfl) ?_
        refine lv_aload_n hx hb dL_law_169 rfl (lv_at hl 0 rfl) ?_
        refine lv_iload_n hx hb dL_law_170 rfl (lv_at hl 3 rfl) ?_
        refine lv_iconst (v := (nI 1)) hx hb dL_law_171 (by decide) ?_
        refine pd_add hx hb dL_law_172 ?_
        refine pd_sld hx hb h hX hbl (i := i + 1) (by omega) (by omega) dL_law_173 ?_
        have hK8 := pd_pow8 (pd_lo_lt (xs (i + 1)))
        refine pd_goi (wc := [(oX, .inr (0, [.ref a1, .int (nI n), .ref st]))]) (wr := [(a1, .inl (pd_cC G, 64, .inl (fun j => nI (w j)))), (oM, .inr (1, [.ref a2, .int (nI n), .ref tl])), (a2, .inl (pd_cI G, 64, .inl (fun j => nI (w j)))), (tl, .inl (pd_cI G, K, .inl (fun j => nI (tm j)))), (st, .inr (2, [.ref sv, .int (nI cd), .int (0), .int (0)])), (sv, .inl (pd_cB G, nb, .inl (fun j => sb_b (f j))))]) h (va_runV (As := [.int (xs (i + 1))]) (rest := []) ⟨hx, hb, hml, hown, hts⟩ (met_dco l G oX a1 st n (xs (i + 1)) H.size) (cwV 1 hts (lw_V q389 q390 q391 q2 q392) rfl rfl rfl (by decide +kernel) ⟨Nat.le_of_ble_eq_true rfl, Nat.le_of_ble_eq_true rfl⟩) ⟨pd_blind, pd_recv h 0 rfl rfl, pd_pre h [0] (by decide) rfl⟩ rfl rfl hl.1 rfl (lv_room (Nat.le_of_ble_eq_true rfl)) dL_law_174 ⟨(by show _ ≤ 1200096; omega), (by show _ ≤ 5501386; omega)⟩) [0] [1, 2, 3, 4, 5, 6] rfl rfl (by decide) (by decide) (fun r1 u H locs hp h => ?_)
        have h : pd_W G _ s H locs [(a1, .inl (pd_cC G, 64, .inl (fun j => nI (w j)))), (oM, .inr (1, [.ref a2, .int (nI n), .ref tl])), (a2, .inl (pd_cI G, 64, .inl (fun j => nI (w j)))), (tl, .inl (pd_cI G, K, .inl (fun j => nI (tm j)))), (st, .inr (2, [.ref sv, .int (nI cd), .int (0), .int (0)])), (sv, .inl (pd_cB G, nb, .inl (fun j => sb_b (f j)))), (oX, .inr (0, [.ref a1, .int (nI n), .ref st]))] := h
        obtain rfl : r1 = (nI (2 ^ (pd_lo (xs (i + 1)) + 1))) := hp
        refine lv_aload_n hx hb dL_law_177 rfl (lv_at hl 2 rfl) ?_
        refine lv_aload_n hx hb dL_law_178 rfl (lv_at hl 0 rfl) ?_
        refine lv_iload_n hx hb dL_law_179 rfl (lv_at hl 3 rfl) ?_
        refine lv_iconst (v := (nI 1)) hx hb dL_law_180 (by decide) ?_
        refine pd_add hx hb dL_law_181 ?_
        refine pd_sld hx hb h hX hbl (i := i + 1) (by omega) (by omega) dL_law_182 ?_
        refine pd_goi (wc := [(oM, .inr (1, [.ref a2, .int (nI n), .ref tl]))]) (wr := [(a1, .inl (pd_cC G, 64, .inl (fun j => nI (w j)))), (a2, .inl (pd_cI G, 64, .inl (fun j => nI (w j)))), (tl, .inl (pd_cI G, K, .inl (fun j => nI (tm j)))), (st, .inr (2, [.ref sv, .int (nI cd), .int (0), .int (0)])), (sv, .inl (pd_cB G, nb, .inl (fun j => sb_b (f j)))), (oX, .inr (0, [.ref a1, .int (nI n), .ref st]))]) h (va_runV (As := [.int (xs (i + 1))]) (rest := [.int (nI (2 ^ (pd_lo (xs (i + 1)) + 1)))]) ⟨hx, hb, hml, hown, hts⟩ (met_mco l G oM a2 tl n (xs (i + 1)) H.size) (cwV 1 hts (lw_V q423 q424 q425 q3 q426) rfl rfl rfl (by decide +kernel) ⟨Nat.le_of_ble_eq_true rfl, Nat.le_of_ble_eq_true rfl⟩) ⟨pd_blind, pd_recv h 1 rfl rfl, pd_pre h [1] (by decide) rfl⟩ rfl rfl hl.1 rfl (lv_room (Nat.le_of_ble_eq_true rfl)) dL_law_183 ⟨(by show _ ≤ 1200096; omega), (by show _ ≤ 5501386; omega)⟩) [1] [0, 2, 3, 4, 5, 6] rfl rfl (by decide) (by decide) (fun r3 u H locs hp h => ?_)
        have h : pd_W G _ s H locs [(a1, .inl (pd_cC G, 64, .inl (fun j => nI (w j)))), (a2, .inl (pd_cI G, 64, .inl (fun j => nI (w j)))), (tl, .inl (pd_cI G, K, .inl (fun j => nI (tm j)))), (st, .inr (2, [.ref sv, .int (nI cd), .int (0), .int (0)])), (sv, .inl (pd_cB G, nb, .inl (fun j => sb_b (f j)))), (oX, .inr (0, [.ref a1, .int (nI n), .ref st])), (oM, .inr (1, [.ref a2, .int (nI n), .ref tl]))] := h
        obtain rfl : r3 = (nI (2 ^ (pd_lo (xs (i + 1)) + 1))) := hp
        refine pd_icmp_eq (tgt := 191) hx hb (by omega) (by omega) dL_law_186 (by decide) (fun c1 => ?_) (fun c1 => absurd c1 (by omega))
        refine lv_iinc (v := (nI (i + 6))) (lv' := [(3, .int (nI (i + 6))), (0, .ref b), (1, .ref oX), (2, .ref oM)]) hx hb dL_law_191 hl (k := 3) rfl (by rw [show Int32.ofInt 6 = nI 6 from rfl, nI_add]) (by decide) rfl (fun ls hl => ?_)
        refine lv_goto (tgt := 18) hx hb dL_law_194 (by decide) ?_
        refine W.widen (k := 5 + 13 * (i + 6)) (n := 134 + 2875 * (i + 6)) (by omega) (by omega) ?_
        exact ih (i + 6) n oX a1 oM a2 tl st sv cd nb K w tm f t H _ ls (by omega) (by omega) hn hw hK hst htm ht (h.sub [5, 0, 6, 1, 2, 3, 4] (by decide) rfl) (lv_sub hl [1, 2, 3, 0] rfl)
      · refine lv_tableOut (tgt := 191) hx hb dL_law_33 (Or.inr (by rw [nI_toInt (by omega)]; omega)) (by decide) ?_
        refine lv_iinc (v := (nI (i + 6))) (lv' := [(3, .int (nI (i + 6))), (0, .ref b), (1, .ref oX), (2, .ref oM)]) hx hb dL_law_191 hl (k := 3) rfl (by rw [show Int32.ofInt 6 = nI 6 from rfl, nI_add]) (by decide) rfl (fun ls hl => ?_)
        refine lv_goto (tgt := 18) hx hb dL_law_194 (by decide) ?_
        refine W.widen (k := 5 + 13 * (i + 6)) (n := 134 + 2875 * (i + 6)) (by omega) (by omega) ?_
        exact ih (i + 6) n oX a1 oM a2 tl st sv cd nb K w tm f t H _ ls (by omega) (by omega) hn hw hK hst htm ht (h.sub [0, 1, 2, 3, 4, 5, 6] (by decide) rfl) (lv_sub hl [1, 2, 3, 0] rfl)
set_option maxHeartbeats 8000000 in
set_option maxRecDepth 100000 in
theorem pd_law1 {p : Program} {e : Env} {s : State} {m : MethodId} {below : List Frame} {meth : Method} {co : Code} (l : Launch) (G : pd_G) {b L : Nat} {xs : Nat → Int32} (hL : L ≤ 288) (hx : p.tables.exec = Jvm.exec) (hb : co.code = code) (hr : meth.sig.returnType = ret) (hml : co.maxLocals = 4) (hown : s.vm.findClass R_law = some m.cls) (hts : ∀ w ∈ lw_all, w.before #[Value.ref b] s = true) (hX : va_X b L xs s s.heap) (hbl : b < s.heap.size) (hlk : meth.locks = false) : ∀ (d : Nat) (i : Nat) (n : Nat) (oX : Nat) (a1 : Nat) (oM : Nat) (a2 : Nat) (tl : Nat) (w : Nat → Nat) (tm : Nat → Nat) (H : Heap) (locs : List Loc) (ls : Array Slot), L + 1 ≤ i + d → i ≤ 300 → n ≤ 64 → (∀ j, w j < 929) → pd_W G (pd_A s) s H locs [(oX, .inr (0, [.ref a1, .int (nI n), .ref ((pd_qE G))])), (a1, .inl (pd_cC G, 64, .inl (fun j => nI (w j)))), (oM, .inr (1, [.ref a2, .int (nI n), .ref tl])), (a2, .inl (pd_cI G, 64, .inl (fun j => nI (w j)))), (tl, .inl (pd_cI G, 0, .inl (fun j => nI (tm j))))] → lv_has ls 4 [(0, .ref b), (1, .ref oX), (2, .ref oM), (3, .int (nI i))] → W p l e room_1 s m #[Value.ref b] below meth co H locs (5 + 13 * i) (134 + 2875 * i) (lw_Z below #[Value.ref b] s) (F0 m 18 ls []) := by
  intro d
  induction d with
  | zero =>
    intro i n oX a1 oM a2 tl w tm H locs ls hd hi hn hw h hl
    refine lv_iload_n hx hb dL_law_18 rfl (lv_at hl 3 rfl) ?_
    refine lv_aload_n hx hb dL_law_19 rfl (lv_at hl 0 rfl) ?_
    refine pd_sln hx hb h hX hbl dL_law_20 ?_
    refine lv_bipush (v := (nI 6)) hx hb dL_law_21 (by decide) ?_
    refine lv_isub hx hb dL_law_23 ?_
    refine pd_head6 (tgt := 197) hx hb (by omega) (by omega) dL_law_24 (by decide) (fun c1 => ?_) (fun c1 => absurd c1 (by omega))
    refine lv_iconst (v := 1) hx hb dL_law_197 (by decide) ?_
    exact va_forget (fun q hq => h.2.2.2.2.2.2.2 q hq) (W.widen (k := 1200096) (n := 5501386) (by omega) (by omega) (lw_ret hx hb hr hlk dL_law_198))
  | succ d ih =>
    intro i n oX a1 oM a2 tl w tm H locs ls hd hi hn hw h hl
    refine lv_iload_n hx hb dL_law_18 rfl (lv_at hl 3 rfl) ?_
    refine lv_aload_n hx hb dL_law_19 rfl (lv_at hl 0 rfl) ?_
    refine pd_sln hx hb h hX hbl dL_law_20 ?_
    refine lv_bipush (v := (nI 6)) hx hb dL_law_21 (by decide) ?_
    refine lv_isub hx hb dL_law_23 ?_
    refine pd_head6 (tgt := 197) hx hb (by omega) (by omega) dL_law_24 (by decide) (fun c1 => ?_) (fun c1 => ?_)
    · refine lv_iconst (v := 1) hx hb dL_law_197 (by decide) ?_
      exact va_forget (fun q hq => h.2.2.2.2.2.2.2 q hq) (W.widen (k := 1200096) (n := 5501386) (by omega) (by omega) (lw_ret hx hb hr hlk dL_law_198))
    · refine lv_aload_n hx hb dL_law_27 rfl (lv_at hl 0 rfl) ?_
      refine lv_iload_n hx hb dL_law_28 rfl (lv_at hl 3 rfl) ?_
      refine pd_sld hx hb h hX hbl (i := i) (by omega) (by omega) dL_law_29 ?_
      refine lv_bipush (v := (nI 7)) hx hb dL_law_30 (by decide) ?_
      refine lv_iand hx hb dL_law_32 ?_
      refine pd_top (y := (nI (pd_lo (xs i)))) (pd_lo_and (xs i)) ?_
      have hlo := pd_lo_lt (xs i)
      rcases (show pd_lo (xs i) = 0 ∨ pd_lo (xs i) = 1 ∨ pd_lo (xs i) = 2 ∨ pd_lo (xs i) = 3 ∨ pd_lo (xs i) = 4 ∨ 4 < pd_lo (xs i) by omega) with hk | hk | hk | hk | hk | hk
      · refine pd_top (y := nI 0) (by rw [hk]) ?_
        refine lv_tableIn (off := 35) (tgt := 68) hx hb dL_law_33 (by decide) (by decide) (by first | rfl | decide) (by decide) ?_
        refine lv_aload_n hx hb dL_law_68 rfl (lv_at hl 1 rfl) ?_
        refine lv_aload_n hx hb dL_law_69 rfl (lv_at hl 0 rfl) ?_
        refine lv_iload_n hx hb dL_law_70 rfl (lv_at hl 3 rfl) ?_
        refine lv_iconst (v := (nI 1)) hx hb dL_law_71 (by decide) ?_
        refine pd_add hx hb dL_law_72 ?_
        refine pd_sld hx hb h hX hbl (i := i + 1) (by omega) (by omega) dL_law_73 ?_
        refine lv_aload_n hx hb dL_law_74 rfl (lv_at hl 0 rfl) ?_
        refine lv_iload_n hx hb dL_law_75 rfl (lv_at hl 3 rfl) ?_
        refine lv_iconst (v := (nI 2)) hx hb dL_law_76 (by decide) ?_
        refine pd_add hx hb dL_law_77 ?_
        refine pd_sld hx hb h hX hbl (i := i + 2) (by omega) (by omega) dL_law_78 ?_
        by_cases hn62 : n ≤ 62
        · refine pd_goi (wc := [(oX, .inr (0, [.ref a1, .int (nI n), .ref ((pd_qE G))])), (a1, .inl (pd_cC G, 64, .inl (fun j => nI (w j))))]) (wr := [(oM, .inr (1, [.ref a2, .int (nI n), .ref tl])), (a2, .inl (pd_cI G, 64, .inl (fun j => nI (w j)))), (tl, .inl (pd_cI G, 0, .inl (fun j => nI (tm j))))]) h (va_runV (As := [.int (xs (i + 1)), .int (xs (i + 2))]) (rest := []) ⟨hx, hb, hml, hown, hts⟩ (met_dpy l G oX a1 (pd_qE G) n w (xs (i + 1)) (xs (i + 2)) H.size hn62) (cwV 2 hts (lw_V q40 q41 q42 q2 q43) rfl rfl rfl (by decide +kernel) ⟨Nat.le_of_ble_eq_true rfl, Nat.le_of_ble_eq_true rfl⟩) ⟨pd_blind, pd_recv h 0 rfl rfl, pd_pre h [0, 1] (by decide) rfl⟩ rfl rfl hl.1 rfl (lv_room (Nat.le_of_ble_eq_true rfl)) dL_law_79 ⟨(by show _ ≤ 1200096; omega), (by show _ ≤ 5501386; omega)⟩) [0, 1] [2, 3, 4] rfl rfl (by decide) (by decide) (fun r1 u H locs hp h => ?_)
          have h : pd_W G _ s H locs [(oM, .inr (1, [.ref a2, .int (nI n), .ref tl])), (a2, .inl (pd_cI G, 64, .inl (fun j => nI (w j)))), (tl, .inl (pd_cI G, 0, .inl (fun j => nI (tm j)))), (oX, .inr (0, [.ref a1, .int (nI ((n + 2))), .ref ((pd_qE G))])), (a1, .inl (pd_cC G, 64, .inl (fun j => nI ((va_up (va_up w n (pd_pl (xs (i + 1)) % 929)) (n + 1) (pd_pl (xs (i + 2)) % 929)) j))))] := h
          obtain rfl : r1 = (nI 1) := hp
          refine lv_aload_n hx hb dL_law_82 rfl (lv_at hl 2 rfl) ?_
          refine lv_aload_n hx hb dL_law_83 rfl (lv_at hl 0 rfl) ?_
          refine lv_iload_n hx hb dL_law_84 rfl (lv_at hl 3 rfl) ?_
          refine lv_iconst (v := (nI 1)) hx hb dL_law_85 (by decide) ?_
          refine pd_add hx hb dL_law_86 ?_
          refine pd_sld hx hb h hX hbl (i := i + 1) (by omega) (by omega) dL_law_87 ?_
          refine lv_aload_n hx hb dL_law_88 rfl (lv_at hl 0 rfl) ?_
          refine lv_iload_n hx hb dL_law_89 rfl (lv_at hl 3 rfl) ?_
          refine lv_iconst (v := (nI 2)) hx hb dL_law_90 (by decide) ?_
          refine pd_add hx hb dL_law_91 ?_
          refine pd_sld hx hb h hX hbl (i := i + 2) (by omega) (by omega) dL_law_92 ?_
          refine pd_goi (wc := [(oM, .inr (1, [.ref a2, .int (nI n), .ref tl])), (a2, .inl (pd_cI G, 64, .inl (fun j => nI (w j))))]) (wr := [(tl, .inl (pd_cI G, 0, .inl (fun j => nI (tm j)))), (oX, .inr (0, [.ref a1, .int (nI ((n + 2))), .ref ((pd_qE G))])), (a1, .inl (pd_cC G, 64, .inl (fun j => nI ((va_up (va_up w n (pd_pl (xs (i + 1)) % 929)) (n + 1) (pd_pl (xs (i + 2)) % 929)) j))))]) h (va_runV (As := [.int (xs (i + 1)), .int (xs (i + 2))]) (rest := [.int (nI 1)]) ⟨hx, hb, hml, hown, hts⟩ (met_mpy l G oM a2 tl n w (xs (i + 1)) (xs (i + 2)) H.size hn62) (cwV 2 hts (lw_V q411 q412 q413 q3 q414) rfl rfl rfl (by decide +kernel) ⟨Nat.le_of_ble_eq_true rfl, Nat.le_of_ble_eq_true rfl⟩) ⟨pd_blind, pd_recv h 0 rfl rfl, pd_pre h [0, 1] (by decide) rfl⟩ rfl rfl hl.1 rfl (lv_room (Nat.le_of_ble_eq_true rfl)) dL_law_93 ⟨(by show _ ≤ 1200096; omega), (by show _ ≤ 5501386; omega)⟩) [0, 1] [2, 3, 4] rfl rfl (by decide) (by decide) (fun r3 u H locs hp h => ?_)
          have h : pd_W G _ s H locs [(tl, .inl (pd_cI G, 0, .inl (fun j => nI (tm j)))), (oX, .inr (0, [.ref a1, .int (nI ((n + 2))), .ref ((pd_qE G))])), (a1, .inl (pd_cC G, 64, .inl (fun j => nI ((va_up (va_up w n (pd_pl (xs (i + 1)) % 929)) (n + 1) (pd_pl (xs (i + 2)) % 929)) j)))), (oM, .inr (1, [.ref a2, .int (nI ((n + 2))), .ref tl])), (a2, .inl (pd_cI G, 64, .inl (fun j => nI ((va_up (va_up w n (pd_pl (xs (i + 1)) % 929)) (n + 1) (pd_pl (xs (i + 2)) % 929)) j))))] := h
          obtain rfl : r3 = (nI 1) := hp
          refine pd_icmp_eq (tgt := 191) hx hb (by omega) (by omega) dL_law_96 (by decide) (fun c1 => ?_) (fun c1 => absurd c1 (by omega))
          refine lv_iinc (v := (nI (i + 6))) (lv' := [(3, .int (nI (i + 6))), (0, .ref b), (1, .ref oX), (2, .ref oM)]) hx hb dL_law_191 hl (k := 3) rfl (by rw [show Int32.ofInt 6 = nI 6 from rfl, nI_add]) (by decide) rfl (fun ls hl => ?_)
          refine lv_goto (tgt := 18) hx hb dL_law_194 (by decide) ?_
          refine W.widen (k := 5 + 13 * (i + 6)) (n := 134 + 2875 * (i + 6)) (by omega) (by omega) ?_
          exact ih (i + 6) (n + 2) oX a1 oM a2 tl (va_up (va_up w n (pd_pl (xs (i + 1)) % 929)) (n + 1) (pd_pl (xs (i + 2)) % 929)) tm H _ ls (by omega) (by omega) (by omega) (pd_up2 hw) (h.sub [1, 2, 3, 4, 0] (by decide) rfl) (lv_sub hl [1, 2, 3, 0] rfl)
        · refine pd_goi (wc := [(oX, .inr (0, [.ref a1, .int (nI n), .ref ((pd_qE G))])), (a1, .inl (pd_cC G, 64, .inl (fun j => nI (w j))))]) (wr := [(oM, .inr (1, [.ref a2, .int (nI n), .ref tl])), (a2, .inl (pd_cI G, 64, .inl (fun j => nI (w j)))), (tl, .inl (pd_cI G, 0, .inl (fun j => nI (tm j))))]) h (va_runV (As := [.int (xs (i + 1)), .int (xs (i + 2))]) (rest := []) ⟨hx, hb, hml, hown, hts⟩ (met_dpn l G oX a1 (pd_qE G) n w (xs (i + 1)) (xs (i + 2)) H.size (by omega) hn) (cwV 2 hts (lw_V q40 q41 q42 q2 q43) rfl rfl rfl (by decide +kernel) ⟨Nat.le_of_ble_eq_true rfl, Nat.le_of_ble_eq_true rfl⟩) ⟨pd_blind, pd_recv h 0 rfl rfl, pd_pre h [0, 1] (by decide) rfl⟩ rfl rfl hl.1 rfl (lv_room (Nat.le_of_ble_eq_true rfl)) dL_law_79 ⟨(by show _ ≤ 1200096; omega), (by show _ ≤ 5501386; omega)⟩) [0, 1] [2, 3, 4] rfl rfl (by decide) (by decide) (fun r1 u H locs hp h => ?_)
          have h : pd_W G _ s H locs [(oM, .inr (1, [.ref a2, .int (nI n), .ref tl])), (a2, .inl (pd_cI G, 64, .inl (fun j => nI (w j)))), (tl, .inl (pd_cI G, 0, .inl (fun j => nI (tm j)))), (oX, .inr (0, [.ref a1, .int (nI n), .ref ((pd_qE G))])), (a1, .inl (pd_cC G, 64, .inl (fun j => nI (w j))))] := h
          obtain rfl : r1 = (nI 0) := hp
          refine lv_aload_n hx hb dL_law_82 rfl (lv_at hl 2 rfl) ?_
          refine lv_aload_n hx hb dL_law_83 rfl (lv_at hl 0 rfl) ?_
          refine lv_iload_n hx hb dL_law_84 rfl (lv_at hl 3 rfl) ?_
          refine lv_iconst (v := (nI 1)) hx hb dL_law_85 (by decide) ?_
          refine pd_add hx hb dL_law_86 ?_
          refine pd_sld hx hb h hX hbl (i := i + 1) (by omega) (by omega) dL_law_87 ?_
          refine lv_aload_n hx hb dL_law_88 rfl (lv_at hl 0 rfl) ?_
          refine lv_iload_n hx hb dL_law_89 rfl (lv_at hl 3 rfl) ?_
          refine lv_iconst (v := (nI 2)) hx hb dL_law_90 (by decide) ?_
          refine pd_add hx hb dL_law_91 ?_
          refine pd_sld hx hb h hX hbl (i := i + 2) (by omega) (by omega) dL_law_92 ?_
          refine pd_goi (wc := [(oM, .inr (1, [.ref a2, .int (nI n), .ref tl])), (a2, .inl (pd_cI G, 64, .inl (fun j => nI (w j))))]) (wr := [(tl, .inl (pd_cI G, 0, .inl (fun j => nI (tm j)))), (oX, .inr (0, [.ref a1, .int (nI n), .ref ((pd_qE G))])), (a1, .inl (pd_cC G, 64, .inl (fun j => nI (w j))))]) h (va_runV (As := [.int (xs (i + 1)), .int (xs (i + 2))]) (rest := [.int (nI 0)]) ⟨hx, hb, hml, hown, hts⟩ (met_mpn l G oM a2 tl n w (xs (i + 1)) (xs (i + 2)) H.size (by omega) hn) (cwV 2 hts (lw_V q411 q412 q413 q3 q414) rfl rfl rfl (by decide +kernel) ⟨Nat.le_of_ble_eq_true rfl, Nat.le_of_ble_eq_true rfl⟩) ⟨pd_blind, pd_recv h 0 rfl rfl, pd_pre h [0, 1] (by decide) rfl⟩ rfl rfl hl.1 rfl (lv_room (Nat.le_of_ble_eq_true rfl)) dL_law_93 ⟨(by show _ ≤ 1200096; omega), (by show _ ≤ 5501386; omega)⟩) [0, 1] [2, 3, 4] rfl rfl (by decide) (by decide) (fun r3 u H locs hp h => ?_)
          have h : pd_W G _ s H locs [(tl, .inl (pd_cI G, 0, .inl (fun j => nI (tm j)))), (oX, .inr (0, [.ref a1, .int (nI n), .ref ((pd_qE G))])), (a1, .inl (pd_cC G, 64, .inl (fun j => nI (w j)))), (oM, .inr (1, [.ref a2, .int (nI n), .ref tl])), (a2, .inl (pd_cI G, 64, .inl (fun j => nI (w j))))] := h
          obtain rfl : r3 = (nI 0) := hp
          refine pd_icmp_eq (tgt := 191) hx hb (by omega) (by omega) dL_law_96 (by decide) (fun c1 => ?_) (fun c1 => absurd c1 (by omega))
          refine lv_iinc (v := (nI (i + 6))) (lv' := [(3, .int (nI (i + 6))), (0, .ref b), (1, .ref oX), (2, .ref oM)]) hx hb dL_law_191 hl (k := 3) rfl (by rw [show Int32.ofInt 6 = nI 6 from rfl, nI_add]) (by decide) rfl (fun ls hl => ?_)
          refine lv_goto (tgt := 18) hx hb dL_law_194 (by decide) ?_
          refine W.widen (k := 5 + 13 * (i + 6)) (n := 134 + 2875 * (i + 6)) (by omega) (by omega) ?_
          exact ih (i + 6) n oX a1 oM a2 tl w tm H _ ls (by omega) (by omega) hn hw (h.sub [1, 2, 3, 4, 0] (by decide) rfl) (lv_sub hl [1, 2, 3, 0] rfl)
      · refine pd_top (y := nI 1) (by rw [hk]) ?_
        refine lv_tableIn (off := 68) (tgt := 101) hx hb dL_law_33 (by decide) (by decide) (by first | rfl | decide) (by decide) ?_
        refine lv_aload_n hx hb dL_law_101 rfl (lv_at hl 1 rfl) ?_
        refine lv_aload_n hx hb dL_law_102 rfl (lv_at hl 0 rfl) ?_
        refine lv_iload_n hx hb dL_law_103 rfl (lv_at hl 3 rfl) ?_
        refine lv_iconst (v := (nI 1)) hx hb dL_law_104 (by decide) ?_
        refine pd_add hx hb dL_law_105 ?_
        refine pd_sld hx hb h hX hbl (i := i + 1) (by omega) (by omega) dL_law_106 ?_
        have hml9 : pd_pl (xs (i + 1)) % (n + 1) < n + 1 := Nat.mod_lt _ (Nat.succ_pos n)
        refine pd_gov (wc := [(oX, .inr (0, [.ref a1, .int (nI n), .ref ((pd_qE G))]))]) (wr := [(a1, .inl (pd_cC G, 64, .inl (fun j => nI (w j)))), (oM, .inr (1, [.ref a2, .int (nI n), .ref tl])), (a2, .inl (pd_cI G, 64, .inl (fun j => nI (w j)))), (tl, .inl (pd_cI G, 0, .inl (fun j => nI (tm j))))]) h (va_runV (As := [.int (xs (i + 1))]) (rest := []) ⟨hx, hb, hml, hown, hts⟩ (met_ddr l G oX a1 (pd_qE G) n (xs (i + 1)) H.size hn) (cwV 1 hts (lw_V q45 q46 q47 q2 q48) rfl rfl rfl (by decide +kernel) ⟨Nat.le_of_ble_eq_true rfl, Nat.le_of_ble_eq_true rfl⟩) ⟨pd_blind, pd_recv h 0 rfl rfl, pd_pre h [0] (by decide) rfl⟩ rfl rfl hl.1 rfl (lv_room (Nat.le_of_ble_eq_true rfl)) dL_law_107 ⟨(by show _ ≤ 1200096; omega), (by show _ ≤ 5501386; omega)⟩) [0] [1, 2, 3, 4] rfl rfl (by decide) (by decide) (fun u H locs hp h => ?_)
        have h : pd_W G _ s H locs [(a1, .inl (pd_cC G, 64, .inl (fun j => nI (w j)))), (oM, .inr (1, [.ref a2, .int (nI n), .ref tl])), (a2, .inl (pd_cI G, 64, .inl (fun j => nI (w j)))), (tl, .inl (pd_cI G, 0, .inl (fun j => nI (tm j)))), (oX, .inr (0, [.ref a1, .int (nI ((pd_pl (xs (i + 1)) % (n + 1)))), .ref ((pd_qE G))]))] := h
        refine lv_aload_n hx hb dL_law_110 rfl (lv_at hl 2 rfl) ?_
        refine lv_aload_n hx hb dL_law_111 rfl (lv_at hl 0 rfl) ?_
        refine lv_iload_n hx hb dL_law_112 rfl (lv_at hl 3 rfl) ?_
        refine lv_iconst (v := (nI 1)) hx hb dL_law_113 (by decide) ?_
        refine pd_add hx hb dL_law_114 ?_
        refine pd_sld hx hb h hX hbl (i := i + 1) (by omega) (by omega) dL_law_115 ?_
        refine pd_gov (wc := [(oM, .inr (1, [.ref a2, .int (nI n), .ref tl]))]) (wr := [(a1, .inl (pd_cC G, 64, .inl (fun j => nI (w j)))), (a2, .inl (pd_cI G, 64, .inl (fun j => nI (w j)))), (tl, .inl (pd_cI G, 0, .inl (fun j => nI (tm j)))), (oX, .inr (0, [.ref a1, .int (nI ((pd_pl (xs (i + 1)) % (n + 1)))), .ref ((pd_qE G))]))]) h (va_runV (As := [.int (xs (i + 1))]) (rest := []) ⟨hx, hb, hml, hown, hts⟩ (met_mdr l G oM a2 tl n (xs (i + 1)) H.size hn) (cwV 1 hts (lw_V q419 q420 q421 q3 q422) rfl rfl rfl (by decide +kernel) ⟨Nat.le_of_ble_eq_true rfl, Nat.le_of_ble_eq_true rfl⟩) ⟨pd_blind, pd_recv h 1 rfl rfl, pd_pre h [1] (by decide) rfl⟩ rfl rfl hl.1 rfl (lv_room (Nat.le_of_ble_eq_true rfl)) dL_law_116 ⟨(by show _ ≤ 1200096; omega), (by show _ ≤ 5501386; omega)⟩) [1] [0, 2, 3, 4] rfl rfl (by decide) (by decide) (fun u H locs hp h => ?_)
        have h : pd_W G _ s H locs [(a1, .inl (pd_cC G, 64, .inl (fun j => nI (w j)))), (a2, .inl (pd_cI G, 64, .inl (fun j => nI (w j)))), (tl, .inl (pd_cI G, 0, .inl (fun j => nI (tm j)))), (oX, .inr (0, [.ref a1, .int (nI ((pd_pl (xs (i + 1)) % (n + 1)))), .ref ((pd_qE G))])), (oM, .inr (1, [.ref a2, .int (nI ((pd_pl (xs (i + 1)) % (n + 1)))), .ref tl]))] := h
        refine lv_goto (tgt := 191) hx hb dL_law_119 (by decide) ?_
        refine lv_iinc (v := (nI (i + 6))) (lv' := [(3, .int (nI (i + 6))), (0, .ref b), (1, .ref oX), (2, .ref oM)]) hx hb dL_law_191 hl (k := 3) rfl (by rw [show Int32.ofInt 6 = nI 6 from rfl, nI_add]) (by decide) rfl (fun ls hl => ?_)
        refine lv_goto (tgt := 18) hx hb dL_law_194 (by decide) ?_
        refine W.widen (k := 5 + 13 * (i + 6)) (n := 134 + 2875 * (i + 6)) (by omega) (by omega) ?_
        exact ih (i + 6) (pd_pl (xs (i + 1)) % (n + 1)) oX a1 oM a2 tl w tm H _ ls (by omega) (by omega) (by omega) hw (h.sub [3, 0, 4, 1, 2] (by decide) rfl) (lv_sub hl [1, 2, 3, 0] rfl)
      · refine pd_top (y := nI 2) (by rw [hk]) ?_
        refine lv_tableIn (off := 89) (tgt := 122) hx hb dL_law_33 (by decide) (by decide) (by first | rfl | decide) (by decide) ?_
        refine lv_aload_n hx hb dL_law_122 rfl (lv_at hl 1 rfl) ?_
        refine lv_aload_n hx hb dL_law_123 rfl (lv_at hl 0 rfl) ?_
        refine lv_iload_n hx hb dL_law_124 rfl (lv_at hl 3 rfl) ?_
        refine lv_iconst (v := (nI 1)) hx hb dL_law_125 (by decide) ?_
        refine pd_add hx hb dL_law_126 ?_
        refine pd_sld hx hb h hX hbl (i := i + 1) (by omega) (by omega) dL_law_127 ?_
        have hK8 := pd_pow8 (pd_lo_lt (xs (i + 1)))
        have hK0 : 0 < 2 ^ (pd_lo (xs (i + 1)) + 1) := Nat.two_pow_pos _
        by_cases hn0 : 0 < n
        · refine pd_goi (wc := [(oX, .inr (0, [.ref a1, .int (nI n), .ref ((pd_qE G))])), (a1, .inl (pd_cC G, 64, .inl (fun j => nI (w j))))]) (wr := [(oM, .inr (1, [.ref a2, .int (nI n), .ref tl])), (a2, .inl (pd_cI G, 64, .inl (fun j => nI (w j)))), (tl, .inl (pd_cI G, 0, .inl (fun j => nI (tm j))))]) h (va_runV (As := [.int (xs (i + 1))]) (rest := []) ⟨hx, hb, hml, hown, hts⟩ (met_dma l G oX a1 (pd_qE G) n w (xs (i + 1)) H.size hn (by omega) hw) (cwV 1 hts (lw_V q49 q50 q51 q2 q52) rfl rfl rfl (by decide +kernel) ⟨Nat.le_of_ble_eq_true rfl, Nat.le_of_ble_eq_true rfl⟩) ⟨pd_blind, pd_recv h 0 rfl rfl, pd_pre h [0, 1] (by decide) rfl⟩ rfl rfl hl.1 rfl (lv_room (Nat.le_of_ble_eq_true rfl)) dL_law_128 ⟨(by show _ ≤ 1200096; omega), (by show _ ≤ 5501386; omega)⟩) [0, 1] [2, 3, 4] rfl rfl (by decide) (by decide) (fun r1 um H locs hum h => ?_)
          have h : pd_W G _ s H locs [(oM, .inr (1, [.ref a2, .int (nI n), .ref tl])), (a2, .inl (pd_cI G, 64, .inl (fun j => nI (w j)))), (tl, .inl (pd_cI G, 0, .inl (fun j => nI (tm j)))), (oX, .inr (0, [.ref a1, .int (nI n), .ref um.1])), (a1, .inl (pd_cC G, 64, .inl (fun j => nI (w j)))), (um.1, .inr (2, [.ref um.2.1, .int (nI (um.2.2.1)), .int (0), .int (0)])), (um.2.1, .inl (pd_cB G, um.2.2.2.1, .inl (fun j => sb_b (um.2.2.2.2 j))))] := h
          obtain rfl : r1 = (nI (2 ^ (pd_lo (xs (i + 1)) + 1))) := hum.1
          obtain ⟨qs, gv, gcd, gnb, gf⟩ := um
          have hst9 : pd_st gcd gnb gf (2 ^ (pd_lo (xs (i + 1)) + 1)) (fun q => pd_out (2 ^ (pd_lo (xs (i + 1)) + 1)) w n q) := hum.2
          have h : pd_W G _ s H locs [(oM, .inr (1, [.ref a2, .int (nI n), .ref tl])), (a2, .inl (pd_cI G, 64, .inl (fun j => nI (w j)))), (tl, .inl (pd_cI G, 0, .inl (fun j => nI (tm j)))), (oX, .inr (0, [.ref a1, .int (nI n), .ref qs])), (a1, .inl (pd_cC G, 64, .inl (fun j => nI (w j)))), (qs, .inr (2, [.ref gv, .int (nI gcd), .int (0), .int (0)])), (gv, .inl (pd_cB G, gnb, .inl (fun j => sb_b (gf j))))] := h
          refine lv_aload_n hx hb dL_law_131 rfl (lv_at hl 2 rfl) ?_
          refine lv_aload_n hx hb dL_law_132 rfl (lv_at hl 0 rfl) ?_
          refine lv_iload_n hx hb dL_law_133 rfl (lv_at hl 3 rfl) ?_
          refine lv_iconst (v := (nI 1)) hx hb dL_law_134 (by decide) ?_
          refine pd_add hx hb dL_law_135 ?_
          refine pd_sld hx hb h hX hbl (i := i + 1) (by omega) (by omega) dL_law_136 ?_
          refine pd_goi (wc := [(oM, .inr (1, [.ref a2, .int (nI n), .ref tl])), (a2, .inl (pd_cI G, 64, .inl (fun j => nI (w j))))]) (wr := [(tl, .inl (pd_cI G, 0, .inl (fun j => nI (tm j)))), (oX, .inr (0, [.ref a1, .int (nI n), .ref qs])), (a1, .inl (pd_cC G, 64, .inl (fun j => nI (w j)))), (qs, .inr (2, [.ref gv, .int (nI gcd), .int (0), .int (0)])), (gv, .inl (pd_cB G, gnb, .inl (fun j => sb_b (gf j))))]) h (va_runV (As := [.int (xs (i + 1))]) (rest := [.int (nI (2 ^ (pd_lo (xs (i + 1)) + 1)))]) ⟨hx, hb, hml, hown, hts⟩ (met_mma l G oM a2 tl n w (xs (i + 1)) H.size hn hw) (cwV 1 hts (lw_V q427 q428 q429 q3 q430) rfl rfl rfl (by decide +kernel) ⟨Nat.le_of_ble_eq_true rfl, Nat.le_of_ble_eq_true rfl⟩) ⟨pd_blind, pd_recv h 0 rfl rfl, pd_pre h [0, 1] (by decide) rfl⟩ rfl rfl hl.1 rfl (lv_room (Nat.le_of_ble_eq_true rfl)) dL_law_137 ⟨(by show _ ≤ 1200096; omega), (by show _ ≤ 5501386; omega)⟩) [0, 1] [2, 3, 4, 5, 6] rfl rfl (by decide) (by decide) (fun r3 uk H locs huk h => ?_)
          have h : pd_W G _ s H locs [(tl, .inl (pd_cI G, 0, .inl (fun j => nI (tm j)))), (oX, .inr (0, [.ref a1, .int (nI n), .ref qs])), (a1, .inl (pd_cC G, 64, .inl (fun j => nI (w j)))), (qs, .inr (2, [.ref gv, .int (nI gcd), .int (0), .int (0)])), (gv, .inl (pd_cB G, gnb, .inl (fun j => sb_b (gf j)))), (oM, .inr (1, [.ref a2, .int (nI n), .ref uk.1])), (a2, .inl (pd_cI G, 64, .inl (fun j => nI (w j)))), (uk.1, .inl (pd_cI G, 2 ^ (pd_lo (xs (i + 1)) + 1), .inl (fun j => nI (uk.2 j))))] := h
          obtain rfl : r3 = (nI (2 ^ (pd_lo (xs (i + 1)) + 1))) := huk.1
          obtain ⟨qk, fk⟩ := uk
          have htk : ∀ j, j < 2 ^ (pd_lo (xs (i + 1)) + 1) → fk j = pd_out (2 ^ (pd_lo (xs (i + 1)) + 1)) w n j := huk.2
          have h : pd_W G _ s H locs [(tl, .inl (pd_cI G, 0, .inl (fun j => nI (tm j)))), (oX, .inr (0, [.ref a1, .int (nI n), .ref qs])), (a1, .inl (pd_cC G, 64, .inl (fun j => nI (w j)))), (qs, .inr (2, [.ref gv, .int (nI gcd), .int (0), .int (0)])), (gv, .inl (pd_cB G, gnb, .inl (fun j => sb_b (gf j)))), (oM, .inr (1, [.ref a2, .int (nI n), .ref qk])), (a2, .inl (pd_cI G, 64, .inl (fun j => nI (w j)))), (qk, .inl (pd_cI G, 2 ^ (pd_lo (xs (i + 1)) + 1), .inl (fun j => nI (fk j))))] := h
          refine pd_icmp_eq (tgt := 191) hx hb (by omega) (by omega) dL_law_140 (by decide) (fun c1 => ?_) (fun c1 => absurd c1 (by omega))
          refine lv_iinc (v := (nI (i + 6))) (lv' := [(3, .int (nI (i + 6))), (0, .ref b), (1, .ref oX), (2, .ref oM)]) hx hb dL_law_191 hl (k := 3) rfl (by rw [show Int32.ofInt 6 = nI 6 from rfl, nI_add]) (by decide) rfl (fun ls hl => ?_)
          refine lv_goto (tgt := 18) hx hb dL_law_194 (by decide) ?_
          refine W.widen (k := 5 + 13 * (i + 6)) (n := 134 + 2875 * (i + 6)) (by omega) (by omega) ?_
          exact pd_law2 l G hL hx hb hr hml hown hts hX hbl hlk d (i + 6) n oX a1 oM a2 qk qs gv gcd gnb (2 ^ (pd_lo (xs (i + 1)) + 1)) w fk gf (fun q => pd_out (2 ^ (pd_lo (xs (i + 1)) + 1)) w n q) H _ ls (by omega) (by omega) hn hw ⟨hK0, by omega⟩ hst9 htk (fun j => Nat.lt_trans (pd_out_lt _ _ _ j) (by decide)) (h.sub [1, 2, 5, 6, 7, 3, 4] (by decide) rfl) (lv_sub hl [1, 2, 3, 0] rfl)
        · obtain rfl : n = 0 := by omega
          refine pd_goi (wc := [(oX, .inr (0, [.ref a1, .int (nI 0), .ref ((pd_qE G))])), (a1, .inl (pd_cC G, 64, .inl (fun j => nI (w j))))]) (wr := [(oM, .inr (1, [.ref a2, .int (nI 0), .ref tl])), (a2, .inl (pd_cI G, 64, .inl (fun j => nI (w j)))), (tl, .inl (pd_cI G, 0, .inl (fun j => nI (tm j))))]) h (va_runV (As := [.int (xs (i + 1))]) (rest := []) ⟨hx, hb, hml, hown, hts⟩ (met_dm0 l G oX a1 (pd_qE G) w (xs (i + 1)) H.size) (cwV 1 hts (lw_V q49 q50 q51 q2 q52) rfl rfl rfl (by decide +kernel) ⟨Nat.le_of_ble_eq_true rfl, Nat.le_of_ble_eq_true rfl⟩) ⟨pd_blind, pd_recv h 0 rfl rfl, pd_pre h [0, 1] (by decide) rfl⟩ rfl rfl hl.1 rfl (lv_room (Nat.le_of_ble_eq_true rfl)) dL_law_128 ⟨(by show _ ≤ 1200096; omega), (by show _ ≤ 5501386; omega)⟩) [0, 1] [2, 3, 4] rfl rfl (by decide) (by decide) (fun r1 um H locs hum h => ?_)
          have h : pd_W G _ s H locs [(oM, .inr (1, [.ref a2, .int (nI 0), .ref tl])), (a2, .inl (pd_cI G, 64, .inl (fun j => nI (w j)))), (tl, .inl (pd_cI G, 0, .inl (fun j => nI (tm j)))), (oX, .inr (0, [.ref a1, .int (nI 0), .ref um.1])), (a1, .inl (pd_cC G, 64, .inl (fun j => nI (w j)))), (um.1, .inr (2, [.ref um.2.1, .int (nI (um.2.2.1)), .int (0), .int (0)])), (um.2.1, .inl (pd_cB G, um.2.2.2.1, .inl (fun j => sb_b (um.2.2.2.2 j))))] := h
          obtain rfl : r1 = (nI (2 ^ (pd_lo (xs (i + 1)) + 1))) := hum.1
          obtain ⟨qs, gv, gcd, gnb, gf⟩ := um
          have hst9 : pd_st gcd gnb gf (2 ^ (pd_lo (xs (i + 1)) + 1)) (fun q => pd_out (2 ^ (pd_lo (xs (i + 1)) + 1)) w 0 q) := hum.2
          have h : pd_W G _ s H locs [(oM, .inr (1, [.ref a2, .int (nI 0), .ref tl])), (a2, .inl (pd_cI G, 64, .inl (fun j => nI (w j)))), (tl, .inl (pd_cI G, 0, .inl (fun j => nI (tm j)))), (oX, .inr (0, [.ref a1, .int (nI 0), .ref qs])), (a1, .inl (pd_cC G, 64, .inl (fun j => nI (w j)))), (qs, .inr (2, [.ref gv, .int (nI gcd), .int (0), .int (0)])), (gv, .inl (pd_cB G, gnb, .inl (fun j => sb_b (gf j))))] := h
          refine lv_aload_n hx hb dL_law_131 rfl (lv_at hl 2 rfl) ?_
          refine lv_aload_n hx hb dL_law_132 rfl (lv_at hl 0 rfl) ?_
          refine lv_iload_n hx hb dL_law_133 rfl (lv_at hl 3 rfl) ?_
          refine lv_iconst (v := (nI 1)) hx hb dL_law_134 (by decide) ?_
          refine pd_add hx hb dL_law_135 ?_
          refine pd_sld hx hb h hX hbl (i := i + 1) (by omega) (by omega) dL_law_136 ?_
          refine pd_goi (wc := [(oM, .inr (1, [.ref a2, .int (nI 0), .ref tl])), (a2, .inl (pd_cI G, 64, .inl (fun j => nI (w j))))]) (wr := [(tl, .inl (pd_cI G, 0, .inl (fun j => nI (tm j)))), (oX, .inr (0, [.ref a1, .int (nI 0), .ref qs])), (a1, .inl (pd_cC G, 64, .inl (fun j => nI (w j)))), (qs, .inr (2, [.ref gv, .int (nI gcd), .int (0), .int (0)])), (gv, .inl (pd_cB G, gnb, .inl (fun j => sb_b (gf j))))]) h (va_runV (As := [.int (xs (i + 1))]) (rest := [.int (nI (2 ^ (pd_lo (xs (i + 1)) + 1)))]) ⟨hx, hb, hml, hown, hts⟩ (met_mma l G oM a2 tl 0 w (xs (i + 1)) H.size (by decide) hw) (cwV 1 hts (lw_V q427 q428 q429 q3 q430) rfl rfl rfl (by decide +kernel) ⟨Nat.le_of_ble_eq_true rfl, Nat.le_of_ble_eq_true rfl⟩) ⟨pd_blind, pd_recv h 0 rfl rfl, pd_pre h [0, 1] (by decide) rfl⟩ rfl rfl hl.1 rfl (lv_room (Nat.le_of_ble_eq_true rfl)) dL_law_137 ⟨(by show _ ≤ 1200096; omega), (by show _ ≤ 5501386; omega)⟩) [0, 1] [2, 3, 4, 5, 6] rfl rfl (by decide) (by decide) (fun r3 uk H locs huk h => ?_)
          have h : pd_W G _ s H locs [(tl, .inl (pd_cI G, 0, .inl (fun j => nI (tm j)))), (oX, .inr (0, [.ref a1, .int (nI 0), .ref qs])), (a1, .inl (pd_cC G, 64, .inl (fun j => nI (w j)))), (qs, .inr (2, [.ref gv, .int (nI gcd), .int (0), .int (0)])), (gv, .inl (pd_cB G, gnb, .inl (fun j => sb_b (gf j)))), (oM, .inr (1, [.ref a2, .int (nI 0), .ref uk.1])), (a2, .inl (pd_cI G, 64, .inl (fun j => nI (w j)))), (uk.1, .inl (pd_cI G, 2 ^ (pd_lo (xs (i + 1)) + 1), .inl (fun j => nI (uk.2 j))))] := h
          obtain rfl : r3 = (nI (2 ^ (pd_lo (xs (i + 1)) + 1))) := huk.1
          obtain ⟨qk, fk⟩ := uk
          have htk : ∀ j, j < 2 ^ (pd_lo (xs (i + 1)) + 1) → fk j = pd_out (2 ^ (pd_lo (xs (i + 1)) + 1)) w 0 j := huk.2
          have h : pd_W G _ s H locs [(tl, .inl (pd_cI G, 0, .inl (fun j => nI (tm j)))), (oX, .inr (0, [.ref a1, .int (nI 0), .ref qs])), (a1, .inl (pd_cC G, 64, .inl (fun j => nI (w j)))), (qs, .inr (2, [.ref gv, .int (nI gcd), .int (0), .int (0)])), (gv, .inl (pd_cB G, gnb, .inl (fun j => sb_b (gf j)))), (oM, .inr (1, [.ref a2, .int (nI 0), .ref qk])), (a2, .inl (pd_cI G, 64, .inl (fun j => nI (w j)))), (qk, .inl (pd_cI G, 2 ^ (pd_lo (xs (i + 1)) + 1), .inl (fun j => nI (fk j))))] := h
          refine pd_icmp_eq (tgt := 191) hx hb (by omega) (by omega) dL_law_140 (by decide) (fun c1 => ?_) (fun c1 => absurd c1 (by omega))
          refine lv_iinc (v := (nI (i + 6))) (lv' := [(3, .int (nI (i + 6))), (0, .ref b), (1, .ref oX), (2, .ref oM)]) hx hb dL_law_191 hl (k := 3) rfl (by rw [show Int32.ofInt 6 = nI 6 from rfl, nI_add]) (by decide) rfl (fun ls hl => ?_)
          refine lv_goto (tgt := 18) hx hb dL_law_194 (by decide) ?_
          refine W.widen (k := 5 + 13 * (i + 6)) (n := 134 + 2875 * (i + 6)) (by omega) (by omega) ?_
          exact pd_law2 l G hL hx hb hr hml hown hts hX hbl hlk d (i + 6) 0 oX a1 oM a2 qk qs gv gcd gnb (2 ^ (pd_lo (xs (i + 1)) + 1)) w fk gf (fun q => pd_out (2 ^ (pd_lo (xs (i + 1)) + 1)) w 0 q) H _ ls (by omega) (by omega) (by decide) hw ⟨hK0, by omega⟩ hst9 htk (fun j => Nat.lt_trans (pd_out_lt _ _ _ j) (by decide)) (h.sub [1, 2, 5, 6, 7, 3, 4] (by decide) rfl) (lv_sub hl [1, 2, 3, 0] rfl)
      · refine pd_top (y := nI 3) (by rw [hk]) ?_
        refine lv_tableIn (off := 112) (tgt := 145) hx hb dL_law_33 (by decide) (by decide) (by first | rfl | decide) (by decide) ?_
        refine lv_aload_n hx hb dL_law_145 rfl (lv_at hl 1 rfl) ?_
        refine lv_aload_n hx hb dL_law_146 rfl (lv_at hl 0 rfl) ?_
        refine lv_iload_n hx hb dL_law_147 rfl (lv_at hl 3 rfl) ?_
        refine lv_iconst (v := (nI 1)) hx hb dL_law_148 (by decide) ?_
        refine pd_add hx hb dL_law_149 ?_
        refine pd_sld hx hb h hX hbl (i := i + 1) (by omega) (by omega) dL_law_150 ?_
        refine pd_goi (wc := [(oX, .inr (0, [.ref a1, .int (nI n), .ref ((pd_qE G))]))]) (wr := [(a1, .inl (pd_cC G, 64, .inl (fun j => nI (w j)))), (oM, .inr (1, [.ref a2, .int (nI n), .ref tl])), (a2, .inl (pd_cI G, 64, .inl (fun j => nI (w j)))), (tl, .inl (pd_cI G, 0, .inl (fun j => nI (tm j))))]) h (va_runV (As := [.int (xs (i + 1))]) (rest := []) ⟨hx, hb, hml, hown, hts⟩ (met_dt0 l G oX a1 n (xs (i + 1)) H.size) (cwV 1 hts (lw_V q384 q385 q386 q2 q387) rfl rfl rfl (by decide +kernel) ⟨Nat.le_of_ble_eq_true rfl, Nat.le_of_ble_eq_true rfl⟩) ⟨pd_blind, pd_recv h 0 rfl rfl, pd_pre h [0] (by decide) rfl⟩ rfl rfl hl.1 rfl (lv_room (Nat.le_of_ble_eq_true rfl)) dL_law_151 ⟨(by show _ ≤ 1200096; omega), (by show _ ≤ 5501386; omega)⟩) [0] [1, 2, 3, 4] rfl rfl (by decide) (by decide) (fun r1 u H locs hp h => ?_)
        have h : pd_W G _ s H locs [(a1, .inl (pd_cC G, 64, .inl (fun j => nI (w j)))), (oM, .inr (1, [.ref a2, .int (nI n), .ref tl])), (a2, .inl (pd_cI G, 64, .inl (fun j => nI (w j)))), (tl, .inl (pd_cI G, 0, .inl (fun j => nI (tm j)))), (oX, .inr (0, [.ref a1, .int (nI n), .ref ((pd_qE G))]))] := h
        obtain rfl : r1 = (-1) := hp
        refine lv_aload_n hx hb dL_law_154 rfl (lv_at hl 2 rfl) ?_
        refine lv_aload_n hx hb dL_law_155 rfl (lv_at hl 0 rfl) ?_
        refine lv_iload_n hx hb dL_law_156 rfl (lv_at hl 3 rfl) ?_
        refine lv_iconst (v := (nI 1)) hx hb dL_law_157 (by decide) ?_
        refine pd_add hx hb dL_law_158 ?_
        refine pd_sld hx hb h hX hbl (i := i + 1) (by omega) (by omega) dL_law_159 ?_
        refine pd_goi (wc := [(oM, .inr (1, [.ref a2, .int (nI n), .ref tl])), (tl, .inl (pd_cI G, 0, .inl (fun j => nI (tm j))))]) (wr := [(a1, .inl (pd_cC G, 64, .inl (fun j => nI (w j)))), (a2, .inl (pd_cI G, 64, .inl (fun j => nI (w j)))), (oX, .inr (0, [.ref a1, .int (nI n), .ref ((pd_qE G))]))]) h (va_runV (As := [.int (xs (i + 1))]) (rest := [.int (-1)]) ⟨hx, hb, hml, hown, hts⟩ (met_mt0 l G oM a2 tl n tm (xs (i + 1)) H.size) (cwV 1 hts (lw_V q435 q436 q437 q3 q438) rfl rfl rfl (by decide +kernel) ⟨Nat.le_of_ble_eq_true rfl, Nat.le_of_ble_eq_true rfl⟩) ⟨pd_blind, pd_recv h 1 rfl rfl, pd_pre h [1, 3] (by decide) rfl⟩ rfl rfl hl.1 rfl (lv_room (Nat.le_of_ble_eq_true rfl)) dL_law_160 ⟨(by show _ ≤ 1200096; omega), (by show _ ≤ 5501386; omega)⟩) [1, 3] [0, 2, 4] rfl rfl (by decide) (by decide) (fun r3 u H locs hp h => ?_)
        have h : pd_W G _ s H locs [(a1, .inl (pd_cC G, 64, .inl (fun j => nI (w j)))), (a2, .inl (pd_cI G, 64, .inl (fun j => nI (w j)))), (oX, .inr (0, [.ref a1, .int (nI n), .ref ((pd_qE G))])), (oM, .inr (1, [.ref a2, .int (nI n), .ref tl])), (tl, .inl (pd_cI G, 0, .inl (fun j => nI (tm j))))] := h
        obtain rfl : r3 = (-1) := hp
        refine lv_icmp_eq (tgt := 191) hx hb dL_law_163 (by decide) (fun _ => ?_) (fun z => absurd rfl z)
        refine lv_iinc (v := (nI (i + 6))) (lv' := [(3, .int (nI (i + 6))), (0, .ref b), (1, .ref oX), (2, .ref oM)]) hx hb dL_law_191 hl (k := 3) rfl (by rw [show Int32.ofInt 6 = nI 6 from rfl, nI_add]) (by decide) rfl (fun ls hl => ?_)
        refine lv_goto (tgt := 18) hx hb dL_law_194 (by decide) ?_
        refine W.widen (k := 5 + 13 * (i + 6)) (n := 134 + 2875 * (i + 6)) (by omega) (by omega) ?_
        exact ih (i + 6) n oX a1 oM a2 tl w tm H _ ls (by omega) (by omega) hn hw (h.sub [2, 0, 3, 1, 4] (by decide) rfl) (lv_sub hl [1, 2, 3, 0] rfl)
      · refine pd_top (y := nI 4) (by rw [hk]) ?_
        refine lv_tableIn (off := 135) (tgt := 168) hx hb dL_law_33 (by decide) (by decide) (by first | rfl | decide) (by decide) ?_
        refine lv_aload_n hx hb dL_law_168 rfl (lv_at hl 1 rfl) ?_
        refine lv_aload_n hx hb dL_law_169 rfl (lv_at hl 0 rfl) ?_
        refine lv_iload_n hx hb dL_law_170 rfl (lv_at hl 3 rfl) ?_
        refine lv_iconst (v := (nI 1)) hx hb dL_law_171 (by decide) ?_
        refine pd_add hx hb dL_law_172 ?_
        refine pd_sld hx hb h hX hbl (i := i + 1) (by omega) (by omega) dL_law_173 ?_
        have hK8 := pd_pow8 (pd_lo_lt (xs (i + 1)))
        refine pd_goi (wc := [(oX, .inr (0, [.ref a1, .int (nI n), .ref ((pd_qE G))]))]) (wr := [(a1, .inl (pd_cC G, 64, .inl (fun j => nI (w j)))), (oM, .inr (1, [.ref a2, .int (nI n), .ref tl])), (a2, .inl (pd_cI G, 64, .inl (fun j => nI (w j)))), (tl, .inl (pd_cI G, 0, .inl (fun j => nI (tm j))))]) h (va_runV (As := [.int (xs (i + 1))]) (rest := []) ⟨hx, hb, hml, hown, hts⟩ (met_dco l G oX a1 (pd_qE G) n (xs (i + 1)) H.size) (cwV 1 hts (lw_V q389 q390 q391 q2 q392) rfl rfl rfl (by decide +kernel) ⟨Nat.le_of_ble_eq_true rfl, Nat.le_of_ble_eq_true rfl⟩) ⟨pd_blind, pd_recv h 0 rfl rfl, pd_pre h [0] (by decide) rfl⟩ rfl rfl hl.1 rfl (lv_room (Nat.le_of_ble_eq_true rfl)) dL_law_174 ⟨(by show _ ≤ 1200096; omega), (by show _ ≤ 5501386; omega)⟩) [0] [1, 2, 3, 4] rfl rfl (by decide) (by decide) (fun r1 u H locs hp h => ?_)
        have h : pd_W G _ s H locs [(a1, .inl (pd_cC G, 64, .inl (fun j => nI (w j)))), (oM, .inr (1, [.ref a2, .int (nI n), .ref tl])), (a2, .inl (pd_cI G, 64, .inl (fun j => nI (w j)))), (tl, .inl (pd_cI G, 0, .inl (fun j => nI (tm j)))), (oX, .inr (0, [.ref a1, .int (nI n), .ref ((pd_qE G))]))] := h
        obtain rfl : r1 = (nI (2 ^ (pd_lo (xs (i + 1)) + 1))) := hp
        refine lv_aload_n hx hb dL_law_177 rfl (lv_at hl 2 rfl) ?_
        refine lv_aload_n hx hb dL_law_178 rfl (lv_at hl 0 rfl) ?_
        refine lv_iload_n hx hb dL_law_179 rfl (lv_at hl 3 rfl) ?_
        refine lv_iconst (v := (nI 1)) hx hb dL_law_180 (by decide) ?_
        refine pd_add hx hb dL_law_181 ?_
        refine pd_sld hx hb h hX hbl (i := i + 1) (by omega) (by omega) dL_law_182 ?_
        refine pd_goi (wc := [(oM, .inr (1, [.ref a2, .int (nI n), .ref tl]))]) (wr := [(a1, .inl (pd_cC G, 64, .inl (fun j => nI (w j)))), (a2, .inl (pd_cI G, 64, .inl (fun j => nI (w j)))), (tl, .inl (pd_cI G, 0, .inl (fun j => nI (tm j)))), (oX, .inr (0, [.ref a1, .int (nI n), .ref ((pd_qE G))]))]) h (va_runV (As := [.int (xs (i + 1))]) (rest := [.int (nI (2 ^ (pd_lo (xs (i + 1)) + 1)))]) ⟨hx, hb, hml, hown, hts⟩ (met_mco l G oM a2 tl n (xs (i + 1)) H.size) (cwV 1 hts (lw_V q423 q424 q425 q3 q426) rfl rfl rfl (by decide +kernel) ⟨Nat.le_of_ble_eq_true rfl, Nat.le_of_ble_eq_true rfl⟩) ⟨pd_blind, pd_recv h 1 rfl rfl, pd_pre h [1] (by decide) rfl⟩ rfl rfl hl.1 rfl (lv_room (Nat.le_of_ble_eq_true rfl)) dL_law_183 ⟨(by show _ ≤ 1200096; omega), (by show _ ≤ 5501386; omega)⟩) [1] [0, 2, 3, 4] rfl rfl (by decide) (by decide) (fun r3 u H locs hp h => ?_)
        have h : pd_W G _ s H locs [(a1, .inl (pd_cC G, 64, .inl (fun j => nI (w j)))), (a2, .inl (pd_cI G, 64, .inl (fun j => nI (w j)))), (tl, .inl (pd_cI G, 0, .inl (fun j => nI (tm j)))), (oX, .inr (0, [.ref a1, .int (nI n), .ref ((pd_qE G))])), (oM, .inr (1, [.ref a2, .int (nI n), .ref tl]))] := h
        obtain rfl : r3 = (nI (2 ^ (pd_lo (xs (i + 1)) + 1))) := hp
        refine pd_icmp_eq (tgt := 191) hx hb (by omega) (by omega) dL_law_186 (by decide) (fun c1 => ?_) (fun c1 => absurd c1 (by omega))
        refine lv_iinc (v := (nI (i + 6))) (lv' := [(3, .int (nI (i + 6))), (0, .ref b), (1, .ref oX), (2, .ref oM)]) hx hb dL_law_191 hl (k := 3) rfl (by rw [show Int32.ofInt 6 = nI 6 from rfl, nI_add]) (by decide) rfl (fun ls hl => ?_)
        refine lv_goto (tgt := 18) hx hb dL_law_194 (by decide) ?_
        refine W.widen (k := 5 + 13 * (i + 6)) (n := 134 + 2875 * (i + 6)) (by omega) (by omega) ?_
        exact ih (i + 6) n oX a1 oM a2 tl w tm H _ ls (by omega) (by omega) hn hw (h.sub [3, 0, 4, 1, 2] (by decide) rfl) (lv_sub hl [1, 2, 3, 0] rfl)
      · refine lv_tableOut (tgt := 191) hx hb dL_law_33 (Or.inr (by rw [nI_toInt (by omega)]; omega)) (by decide) ?_
        refine lv_iinc (v := (nI (i + 6))) (lv' := [(3, .int (nI (i + 6))), (0, .ref b), (1, .ref oX), (2, .ref oM)]) hx hb dL_law_191 hl (k := 3) rfl (by rw [show Int32.ofInt 6 = nI 6 from rfl, nI_add]) (by decide) rfl (fun ls hl => ?_)
        refine lv_goto (tgt := 18) hx hb dL_law_194 (by decide) ?_
        refine W.widen (k := 5 + 13 * (i + 6)) (n := 134 + 2875 * (i + 6)) (by omega) (by omega) ?_
        exact ih (i + 6) n oX a1 oM a2 tl w tm H _ ls (by omega) (by omega) hn hw (h.sub [0, 1, 2, 3, 4] (by decide) rfl) (lv_sub hl [1, 2, 3, 0] rfl)
end
section
set_option maxRecDepth 100000
set_option maxHeartbeats 4000000 in
theorem whole_start {p : Program} {e : Env} {s : State} {m : MethodId} {below : List Frame} {meth : Method} {co : Code} (l : Launch) (hflags : l.flags = flags0) {b L : Nat} {xs : Nat → Int32} (hL : L ≤ 288) (C0 : lw_At p s m meth co b L xs) : W p l e room_1 s m #[Value.ref b] below meth co s.heap [] 0 0 (lw_Z below #[Value.ref b] s) (entryFrame m ([Value.ref b] : List Value).toArray 4) := by
  obtain ⟨hx, hb, hr, hml, hown, hts0, hX, hbl, hlk, hgv⟩ := C0
  have hts : ∀ w ∈ lw_all, w.before #[Value.ref b] s = true := fun w h => hts0 w (lw_all_tbl h)
  obtain ⟨G, h⟩ := pd_first hts0 hgv
  have hl := lv_entry ([Value.ref b]) (n := 4) (Nat.le_of_ble_eq_true rfl)
  rw [lg_entry_eq]
  generalize (lg_sl ([Value.ref b]) ++ List.replicate (4 - (lg_sl ([Value.ref b])).length) Slot.unset).toArray = ls at hl ⊢
  have hl : lv_has ls 4 [(0, .ref b)] := hl
  suffices hh : ∀ (H : Heap) (locs : List Loc), pd_W G (pd_A s) s H locs [] → W p l e room_1 s m #[Value.ref b] below meth co H locs 0 0 (lw_Z below #[Value.ref b] s) (F0 m 0 ls []) from hh _ _ h
  intro H locs h
  refine pd_new (ci := 0) (fs := [.null, .int (0), .null]) (C := RX0) (T := TX0) (N := 3) hx hb hts hown h in_X0 tyX0 tyX0_ok (hts _ q19) (hts _ q20) (hts _ q2) rfl (fun j hj => by rcases (show j = 0 ∨ j = 1 ∨ j = 2 by omega) with rfl | rfl | rfl <;> rfl) (Nat.le_of_ble_eq_true rfl) (Nat.le_of_ble_eq_true rfl) dL_law_0 (fun oX H h => ?_)
  have h : pd_W G _ s H locs [(oX, .inr (0, [.null, .int (0), .null]))] := h
  refine lv_dup hx hb dL_law_3 rfl ?_
  refine pd_gov (wc := [(oX, .inr (0, [.null, .int (nI 0), .null]))]) (wr := []) h (va_runI (As := []) (rest := [.ref oX]) ⟨hx, hb, hml, hown, hts⟩ (met_din l G oX H.size) (cwI 0 hts (lw_meth q23) rfl rfl rfl (hts _ q2) (hts _ q21) (hts _ q22) rfl (by decide +kernel) ⟨Nat.le_of_ble_eq_true rfl, Nat.le_of_ble_eq_true rfl⟩) ⟨pd_blind, pd_pre h [0] (by decide) rfl⟩ rfl rfl hl.1 rfl (lv_room (Nat.le_of_ble_eq_true rfl)) dL_law_4 ⟨(Nat.le_of_ble_eq_true rfl), (Nat.le_of_ble_eq_true rfl)⟩) [0] [] rfl rfl (by decide) (by decide) (fun a1 H locs hp h => ?_)
  have h : pd_W G _ s H locs [(oX, .inr (0, [.ref a1, .int (nI 0), .ref ((pd_qE G))])), (a1, .inl (pd_cC G, 64, .inl (fun j => nI (pd_z j))))] := h
  refine lv_astore_n (lv' := [(1, .ref oX), (0, .ref b)]) hx hb dL_law_7 rfl hl (by decide) rfl (fun ls hl => ?_)
  refine pd_new (ci := 1) (fs := [.null, .int (0), .null]) (C := RX1) (T := TX1) (N := 3) hx hb hts hown h in_X1 tyX1 tyX1_ok (hts _ q394) (hts _ q395) (hts _ q3) rfl (fun j hj => by rcases (show j = 0 ∨ j = 1 ∨ j = 2 by omega) with rfl | rfl | rfl <;> rfl) (Nat.le_of_ble_eq_true rfl) (Nat.le_of_ble_eq_true rfl) dL_law_8 (fun oM H h => ?_)
  have h : pd_W G _ s H locs [(oX, .inr (0, [.ref a1, .int (nI 0), .ref ((pd_qE G))])), (a1, .inl (pd_cC G, 64, .inl (fun j => nI (pd_z j)))), (oM, .inr (1, [.null, .int (0), .null]))] := h
  refine lv_dup hx hb dL_law_11 rfl ?_
  refine pd_gov (wc := [(oM, .inr (1, [.null, .int (nI 0), .null]))]) (wr := [(oX, .inr (0, [.ref a1, .int (nI 0), .ref ((pd_qE G))])), (a1, .inl (pd_cC G, 64, .inl (fun j => nI (pd_z j))))]) h (va_runI (As := []) (rest := [.ref oM]) ⟨hx, hb, hml, hown, hts⟩ (met_min l G oM H.size) (cwI 0 hts (lw_meth q398) rfl rfl rfl (hts _ q3) (hts _ q396) (hts _ q397) rfl (by decide +kernel) ⟨Nat.le_of_ble_eq_true rfl, Nat.le_of_ble_eq_true rfl⟩) ⟨pd_blind, pd_pre h [2] (by decide) rfl⟩ rfl rfl hl.1 rfl (lv_room (Nat.le_of_ble_eq_true rfl)) dL_law_12 ⟨(Nat.le_of_ble_eq_true rfl), (Nat.le_of_ble_eq_true rfl)⟩) [2] [0, 1] rfl rfl (by decide) (by decide) (fun u2 H locs hp h => ?_)
  have h : pd_W G _ s H locs [(oX, .inr (0, [.ref a1, .int (nI 0), .ref ((pd_qE G))])), (a1, .inl (pd_cC G, 64, .inl (fun j => nI (pd_z j)))), (oM, .inr (1, [.ref u2.1, .int (nI 0), .ref u2.2])), (u2.1, .inl (pd_cI G, 64, .inl (fun j => nI (pd_z j)))), (u2.2, .inl (pd_cI G, 0, .inl (fun j => nI (pd_z j))))] := h
  obtain ⟨a2, tl⟩ := u2
  have h : pd_W G _ s H locs [(oX, .inr (0, [.ref a1, .int (nI 0), .ref ((pd_qE G))])), (a1, .inl (pd_cC G, 64, .inl (fun j => nI (pd_z j)))), (oM, .inr (1, [.ref a2, .int (nI 0), .ref tl])), (a2, .inl (pd_cI G, 64, .inl (fun j => nI (pd_z j)))), (tl, .inl (pd_cI G, 0, .inl (fun j => nI (pd_z j))))] := h
  refine lv_astore_n (lv' := [(2, .ref oM), (1, .ref oX), (0, .ref b)]) hx hb dL_law_15 rfl hl (by decide) rfl (fun ls hl => ?_)
  refine lv_iconst (v := (nI 0)) hx hb dL_law_16 (by decide) ?_
  refine lv_istore_n (lv' := [(3, .int (nI 0)), (2, .ref oM), (1, .ref oX), (0, .ref b)]) hx hb dL_law_17 rfl hl (by decide) rfl (fun ls hl => ?_)
  refine W.widen (k := 5 + 13 * 0) (n := 134 + 2875 * 0) (Nat.le_of_ble_eq_true rfl) (Nat.le_of_ble_eq_true rfl) ?_
  exact pd_law1 l G hL hx hb hr hml hown hts hX hbl hlk (L + 1) 0 0 oX a1 oM a2 tl pd_z pd_z H _ ls (by omega) (by decide) (by decide) (fun j => show 0 < 929 by decide) (h.sub [0, 1, 2, 3, 4] (by decide) rfl) (lv_sub hl [3, 2, 1, 0] rfl)
set_option maxHeartbeats 4000000 in
theorem lw_walk (l : Launch) (hflags : l.flags = flags0) (b : Addr) (xs : List Int32) : MetFree l x (headSpec (Jvm.Cond.code x code maxLocals ret :: tables_1) room_1) (lw_P b xs) (fun _ _ _ _ _ => True) lw_Q := by
  refine MetFree.of_bodyS (code := code) (maxLocals := maxLocals) (ret := ret) (by decide) ?_ ?_
  · intro args s m h hn
    obtain ⟨meth, c, h1, h2, h3, h4, h5, h6, -, -⟩ := Cond.code_spec hn (atoms_spec (ws := Jvm.Cond.code x code maxLocals ret :: tables_1) h _ List.mem_cons_self)
    exact ⟨meth, c, h1, h2, h3, h4, h5, h6⟩
  · intro p e s m args below meth c s₁ B hml0 hP _
    obtain ⟨rfl, hx, hbd, hgv⟩ := hP
    obtain ⟨scr, harrAt, hlist, hof, hsmall⟩ := hx
    obtain ⟨hcb, hkn, -, -⟩ := State.arrayAt?_spec harrAt
    have hown : s.vm.findClass R_law = some m.cls := findClass_of_methodNamed B.named
    have hts0 : ∀ c ∈ (Jvm.Cond.code x code maxLocals ret :: tables_1), c.before #[Value.ref b] s = true := atoms_spec (ws := Jvm.Cond.code x code maxLocals ret :: tables_1) B.pre
    have hts : ∀ w ∈ lw_tbl, w.before #[Value.ref b] s = true := pd_hts (k2_hts_sels lw_privs (fun w hw => hts0 w (List.mem_cons_of_mem _ hw)) lw_privs_ok)
    have hml : c.maxLocals = 4 := B.maxLocals_eq (hts0 _ List.mem_cons_self)
    have X₀ : Stand p l e room_1 s m #[Value.ref b] below meth c s₁ [] 0 0 := Stand.of_body B
    have hh0 : s₁.heap = s.heap := by rw [B.state]; rfl
    have hsz : scr.slots.size = xs.length := by rw [← Array.length_toList, hlist, List.length_map]
    have hval : ∀ j : Nat, j < xs.length → scr.slots[j]? = some (.int (xs.getD j 0)) := fun j hj => by
      rw [← Array.getElem?_toList, hlist]
      simp [hj]
    have hbl : b < s.heap.size := (Array.getElem?_eq_some_iff.mp hcb).1
    have hX : va_X b xs.length (fun j => xs.getD j 0) s s.heap := ⟨scr, hcb, hof, hkn, hsz, hval⟩
    have K : W p l e room_1 s m #[Value.ref b] below meth c s₁.heap [] 0 0 (lw_Z below #[Value.ref b] s) (entryFrame m ([Value.ref b] : List Value).toArray 4) := by
      rw [hh0]
      exact whole_start l hflags hbd ⟨B.exec, B.bytes, B.returns, hml, hown, hts, hX, hbl, B.notSynchronized, hgv⟩
    obtain ⟨t, a1, o, b1, b2, b3⟩ := K s₁ rfl X₀
    exact ⟨t, o, a1, b1, b2, b3⟩
theorem lw_pre_spec {args : Array Value} {s : State} (h : (Jvm.Cond.and given_1 narrow_1).before args s = true) (hr : rest_1_c.before args s = true) : ∃ (b : Addr) (xs : List Int32), lw_P b xs args s := by
  have hs := flat_of_before _ h
  have hq := flat_of_before _ hr
  have hc : (Cond.count 1).before args s = true := hs _ (by decide +kernel)
  have harr : (Cond.arrayOf (.arg 0) .int).before args s = true := hs _ (by decide +kernel)
  have hle : (Cond.le (.length (.arg 0)) (.int 288)).before args s = true := hs _ (by decide +kernel)
  have hlen : (Cond.isInt (.length (.arg 0))).before args s = true := hq _ (by decide +kernel)
  have hall : (Cond.all (.arg 0) (.isInt (.elem (.arg 0) (.index 0)))).before args s = true := hq _ (by decide +kernel)
  obtain ⟨b, xs, hb, hx⟩ := State.ints_of_pre rfl harr hlen hall
  have hsm : xs.length < 2 ^ 31 := hx.choose_spec.2.2.2
  have hev : (Term.length (.arg 0)).eval args s none [] s = some (.int xs.length.toInt32) := hx.length_eval hb
  have hv := Cond.le_ints hev (show (Term.int 288).eval args s none [] s = some (.int 288) from rfl)
  have hd : xs.length.toInt32 ≤ 288 := by
    simpa [Cond.before, Cond.holds, hv] using hle
  have hN : xs.length ≤ 288 := (Int32.ofNat_le_ofNat hsm (by decide)).mp (show Int32.ofNat xs.length ≤ Int32.ofNat 288 from hd)
  exact ⟨b, xs, Cond.one_arg hc (show args[0]? = some (.ref b) from hb), hx, hN, h⟩
theorem lw_comes (l : Launch) (hflags : l.flags = flags0) : Comes l x (Jvm.Cond.code x code maxLocals ret :: tables_1) room_1 (fun tb e args s => Calls_1 tb e args s ∧ rest_1 tb e args s ∧ Pre_1 tb e args s)
    (fun _ _ args s o t => lw_Q args s o t) := by
  intro p e ha hc hk s m args below hf hfit hheap happ hpre
  obtain ⟨b, xs, hP⟩ := lw_pre_spec hpre.2.2 hpre.2.1
  obtain ⟨k, o, h1, h2, h3, hQ⟩ := lw_walk l hflags b xs p e ha hc hk s m args below hf ((Spec.applies_iff_loose hf).mp happ).1 hP trivial
  exact ⟨k, o, h1, h2, h3, hQ⟩
theorem lw_frame {s t : State} {o : Outcome} {args : Array Value} (h : Framed s o t [] 1200096 5501386) :
    Framed s o t (fieldLocs frame_1_writes args s ++ arrayLocs frame_1_arrays args s ++ staticLocs frame_1_statics s) 1200096 5501386 := h
theorem lw_limb (L : Cond) (hL : ∀ (args : Array Value) (s t : State), L.after args s (.returned (some (.int 1))) t = true) :
    ArmFor flags0 classFile x code maxLocals ret World_1 tables_1 room_1 Calls_1 rest_1 Pre_1
      (fun tb e a s o t => postC L tb e a s o t ∧ Framed s o t (fieldLocs frame_1_writes a s ++ arrayLocs frame_1_arrays a s ++ staticLocs frame_1_statics s) 1200096 5501386) := by
  intro l hflags _ _ p e ha hc hk s m args below hf hfit hheap happ hpre
  obtain ⟨k, o, h1, h2, h3, rfl, hF⟩ := lw_comes l hflags p e ha hc hk s m args below hf hfit hheap happ hpre
  exact ⟨k, _, h1, h2, h3, hL args s _, lw_frame hF⟩
theorem i_vc : Claimed_1_1 ∧ Claimed_1_2 := ⟨lw_limb limb_1_1 (fun args s t => by simp [limb_1_1, Cond.after, Cond.holds, Cond.value]), lw_limb limb_1_2 (fun args s t => Cond.after_iff.mpr (by
  first | (rw [show limb_1_2 = Cond.eq .result (.int 1) from rfl, Cond.eq_ints (x := 1) (y := 1) rfl rfl]; simp; done) | (simp [limb_1_2, Cond.value, Term.eval]; done)))⟩
end
