section
-- ===== PART A: goes FIRST, ahead of the names: the tables' words, and 'selects' of the private methods out of them =====
/-- a private method of a class that the tables say can be made, by its rows of tables_1 -/
def lw_okq (q : MethodName × Nat) : Prop := (q.1.cls ≠ "java/lang/invoke/MethodHandle" ∧ q.1.cls ≠ "java/lang/invoke/VarHandle") ∧ Cond.instantiable q.1.cls q.2 ∈ tables_1 ∧ Cond.privateMethod q.1 ∈ tables_1 ∧ Cond.instanceMethod q.1 ∈ tables_1
set_option maxRecDepth 100000
theorem lw_t1 {w : Cond} (h : w ∈ tables_1_1) : w ∈ tables_1 := List.mem_append_left _ h
theorem lw_t2 {w : Cond} (h : w ∈ tables_1_2) : w ∈ tables_1 := List.mem_append_right _ h
theorem lw_p0 : lw_okq (⟨"DefaultPlacement", "corner1", "(I)V"⟩, 4) := ⟨⟨by decide +kernel, by decide +kernel⟩, lw_t1 (List.mem_of_getElem? (i := 18) rfl), lw_t1 (List.mem_of_getElem? (i := 137) rfl), lw_t1 (List.mem_of_getElem? (i := 138) rfl)⟩
theorem lw_p1 : lw_okq (⟨"DefaultPlacement", "module", "(IIII)V"⟩, 4) := ⟨⟨by decide +kernel, by decide +kernel⟩, lw_t1 (List.mem_of_getElem? (i := 18) rfl), lw_t1 (List.mem_of_getElem? (i := 141) rfl), lw_t1 (List.mem_of_getElem? (i := 142) rfl)⟩
theorem lw_p2 : lw_okq (⟨"DefaultPlacement", "setBit", "(IIZ)V"⟩, 4) := ⟨⟨by decide +kernel, by decide +kernel⟩, lw_t1 (List.mem_of_getElem? (i := 18) rfl), lw_t1 (List.mem_of_getElem? (i := 175) rfl), lw_t1 (List.mem_of_getElem? (i := 176) rfl)⟩
theorem lw_p3 : lw_okq (⟨"DefaultPlacement", "corner2", "(I)V"⟩, 4) := ⟨⟨by decide +kernel, by decide +kernel⟩, lw_t1 (List.mem_of_getElem? (i := 18) rfl), lw_t1 (List.mem_of_getElem? (i := 179) rfl), lw_t1 (List.mem_of_getElem? (i := 180) rfl)⟩
theorem lw_p4 : lw_okq (⟨"DefaultPlacement", "corner3", "(I)V"⟩, 4) := ⟨⟨by decide +kernel, by decide +kernel⟩, lw_t1 (List.mem_of_getElem? (i := 18) rfl), lw_t1 (List.mem_of_getElem? (i := 183) rfl), lw_t1 (List.mem_of_getElem? (i := 184) rfl)⟩
theorem lw_p5 : lw_okq (⟨"DefaultPlacement", "corner4", "(I)V"⟩, 4) := ⟨⟨by decide +kernel, by decide +kernel⟩, lw_t1 (List.mem_of_getElem? (i := 18) rfl), lw_t1 (List.mem_of_getElem? (i := 187) rfl), lw_t1 (List.mem_of_getElem? (i := 188) rfl)⟩
theorem lw_p6 : lw_okq (⟨"DefaultPlacement", "noBit", "(II)Z"⟩, 4) := ⟨⟨by decide +kernel, by decide +kernel⟩, lw_t1 (List.mem_of_getElem? (i := 18) rfl), lw_t1 (List.mem_of_getElem? (i := 191) rfl), lw_t1 (List.mem_of_getElem? (i := 192) rfl)⟩
theorem lw_p7 : lw_okq (⟨"DefaultPlacement", "utah", "(III)V"⟩, 4) := ⟨⟨by decide +kernel, by decide +kernel⟩, lw_t1 (List.mem_of_getElem? (i := 18) rfl), lw_t1 (List.mem_of_getElem? (i := 195) rfl), lw_t1 (List.mem_of_getElem? (i := 196) rfl)⟩
theorem lw_p8 : lw_okq (⟨"PlacementDeskModel", "cornerOne", "(I)V"⟩, 4) := ⟨⟨by decide +kernel, by decide +kernel⟩, lw_t1 (List.mem_of_getElem? (i := 211) rfl), lw_t2 (List.mem_of_getElem? (i := 0) rfl), lw_t2 (List.mem_of_getElem? (i := 1) rfl)⟩
theorem lw_p9 : lw_okq (⟨"PlacementDeskModel", "module", "(IIII)V"⟩, 4) := ⟨⟨by decide +kernel, by decide +kernel⟩, lw_t1 (List.mem_of_getElem? (i := 211) rfl), lw_t2 (List.mem_of_getElem? (i := 4) rfl), lw_t2 (List.mem_of_getElem? (i := 5) rfl)⟩
theorem lw_p10 : lw_okq (⟨"PlacementDeskModel", "cornerTwo", "(I)V"⟩, 4) := ⟨⟨by decide +kernel, by decide +kernel⟩, lw_t1 (List.mem_of_getElem? (i := 211) rfl), lw_t2 (List.mem_of_getElem? (i := 8) rfl), lw_t2 (List.mem_of_getElem? (i := 9) rfl)⟩
theorem lw_p11 : lw_okq (⟨"PlacementDeskModel", "cornerThree", "(I)V"⟩, 4) := ⟨⟨by decide +kernel, by decide +kernel⟩, lw_t1 (List.mem_of_getElem? (i := 211) rfl), lw_t2 (List.mem_of_getElem? (i := 12) rfl), lw_t2 (List.mem_of_getElem? (i := 13) rfl)⟩
theorem lw_p12 : lw_okq (⟨"PlacementDeskModel", "cornerFour", "(I)V"⟩, 4) := ⟨⟨by decide +kernel, by decide +kernel⟩, lw_t1 (List.mem_of_getElem? (i := 211) rfl), lw_t2 (List.mem_of_getElem? (i := 16) rfl), lw_t2 (List.mem_of_getElem? (i := 17) rfl)⟩
theorem lw_p13 : lw_okq (⟨"PlacementDeskModel", "isFree", "(II)Z"⟩, 4) := ⟨⟨by decide +kernel, by decide +kernel⟩, lw_t1 (List.mem_of_getElem? (i := 211) rfl), lw_t2 (List.mem_of_getElem? (i := 20) rfl), lw_t2 (List.mem_of_getElem? (i := 21) rfl)⟩
theorem lw_p14 : lw_okq (⟨"PlacementDeskModel", "utah", "(III)V"⟩, 4) := ⟨⟨by decide +kernel, by decide +kernel⟩, lw_t1 (List.mem_of_getElem? (i := 211) rfl), lw_t2 (List.mem_of_getElem? (i := 24) rfl), lw_t2 (List.mem_of_getElem? (i := 25) rfl)⟩
def lw_privs_1 : List (MethodName × Nat) := [(⟨"DefaultPlacement", "corner1", "(I)V"⟩, 4), (⟨"DefaultPlacement", "module", "(IIII)V"⟩, 4), (⟨"DefaultPlacement", "setBit", "(IIZ)V"⟩, 4), (⟨"DefaultPlacement", "corner2", "(I)V"⟩, 4), (⟨"DefaultPlacement", "corner3", "(I)V"⟩, 4), (⟨"DefaultPlacement", "corner4", "(I)V"⟩, 4), (⟨"DefaultPlacement", "noBit", "(II)Z"⟩, 4), (⟨"DefaultPlacement", "utah", "(III)V"⟩, 4), (⟨"PlacementDeskModel", "cornerOne", "(I)V"⟩, 4), (⟨"PlacementDeskModel", "module", "(IIII)V"⟩, 4), (⟨"PlacementDeskModel", "cornerTwo", "(I)V"⟩, 4), (⟨"PlacementDeskModel", "cornerThree", "(I)V"⟩, 4), (⟨"PlacementDeskModel", "cornerFour", "(I)V"⟩, 4), (⟨"PlacementDeskModel", "isFree", "(II)Z"⟩, 4), (⟨"PlacementDeskModel", "utah", "(III)V"⟩, 4)]
theorem lw_r1 : ∀ q ∈ lw_privs_1, lw_okq q := List.forall_mem_cons.mpr ⟨lw_p0, List.forall_mem_cons.mpr ⟨lw_p1, List.forall_mem_cons.mpr ⟨lw_p2, List.forall_mem_cons.mpr ⟨lw_p3, List.forall_mem_cons.mpr ⟨lw_p4, List.forall_mem_cons.mpr ⟨lw_p5, List.forall_mem_cons.mpr ⟨lw_p6, List.forall_mem_cons.mpr ⟨lw_p7, List.forall_mem_cons.mpr ⟨lw_p8, List.forall_mem_cons.mpr ⟨lw_p9, List.forall_mem_cons.mpr ⟨lw_p10, List.forall_mem_cons.mpr ⟨lw_p11, List.forall_mem_cons.mpr ⟨lw_p12, List.forall_mem_cons.mpr ⟨lw_p13, List.forall_mem_cons.mpr ⟨lw_p14, fun _ h => absurd h List.not_mem_nil⟩⟩⟩⟩⟩⟩⟩⟩⟩⟩⟩⟩⟩⟩⟩
def lw_privs : List (MethodName × Nat) := lw_privs_1
def lw_tbl : List Cond := k2_sels lw_privs ++ tables_1
theorem lw_privs_ok : ∀ q ∈ lw_privs, lw_okq q := lw_r1
-- ===== ONE list of words for every method: the tables' words that hold all through a run =====
def lw_all : List Cond := lw_tbl.filter goodWord
/-- a word of the tables by its place: claim/WORDS.tsv -/
theorem lw_w {w : Cond} (i : Nat) (h : lw_tbl[i]? = some w) (g : goodWord w = true) : w ∈ lw_all := List.mem_filter.mpr ⟨List.mem_of_getElem? h, g⟩
theorem lw_all_tbl {w : Cond} (h : w ∈ lw_all) : w ∈ lw_tbl := (List.mem_filter.mp h).1
theorem lw_self : GoodIn lw_all lw_all := fun w h => ⟨h, good_of_word (List.mem_filter.mp h).2⟩
/-- a class's field words, by their places -/
theorem lw_in (ws : List Cond) (ps : List Nat) (hp : ws = ps.filterMap (fun i => lw_tbl[i]?)) (hg : ws.all goodWord = true) : ∀ w ∈ ws, w ∈ lw_all := by
  intro w h
  have h1 := List.all_eq_true.mp hg w h
  rw [hp] at h
  obtain ⟨i, -, hi⟩ := List.mem_filterMap.mp h
  exact lw_w i hi h1
/-- the words of a contract for the method y with code b, L locals, answer r -/
abbrev ws_ (y : MethodName) (b : ByteArray) (L : Nat) (r : Option FieldType) : List Cond := Cond.code y b L r :: lw_all
theorem lw_meth {y : MethodName} {b : ByteArray} {L : Nat} {r : Option FieldType} (h : Cond.code y b L r ∈ lw_all) : GoodIn lw_all (ws_ y b L r) := by
  intro w hw
  rcases List.mem_cons.mp hw with e | e
  · rw [e]
    exact lw_self _ h
  · exact lw_self _ e
theorem lw_app {a c : List Cond} (ha : ∀ w ∈ a, w ∈ lw_all) (hc : GoodIn lw_all c) : GoodIn lw_all (a ++ c) := by
  intro w hw
  rcases List.mem_append.mp hw with e | e
  · exact lw_self w (ha w e)
  · exact hc w e
/-- what a call through an object asks: cwV n hts (lw_V ..) -/
theorem lw_V {own : String} {idx : Nat} {C : String} {y : MethodName} {b : ByteArray} {L : Nat} {r : Option FieldType} (h1 : Cond.methodLink own idx y ∈ lw_all) (h2 : Cond.instanceMethod y ∈ lw_all) (h3 : Cond.selects C y y ∈ lw_all) (h4 : Cond.initialized C ∈ lw_all) (h5 : Cond.code y b L r ∈ lw_all) : GoodIn lw_all (wsV own idx C y (ws_ y b L r)) := by
  refine lw_app ?_ (lw_meth h5)
  intro w hw
  simp only [List.mem_cons, List.not_mem_nil, or_false] at hw
  rcases hw with e | e | e | e
  · rw [e]; exact h1
  · rw [e]; exact h2
  · rw [e]; exact h3
  · rw [e]; exact h4
/-- what a static call asks: va_cwS n hts (lw_S ..) -/
theorem lw_S {own : String} {idx : Nat} {y : MethodName} {b : ByteArray} {L : Nat} {r : Option FieldType} (h1 : Cond.methodLink own idx y ∈ lw_all) (h2 : Cond.static y ∈ lw_all) (h3 : Cond.initialized y.cls ∈ lw_all) (h4 : Cond.code y b L r ∈ lw_all) : GoodIn lw_all (va_wsS own idx y (ws_ y b L r)) := by
  refine lw_app ?_ (lw_meth h4)
  intro w hw
  simp only [List.mem_cons, List.not_mem_nil, or_false] at hw
  rcases hw with e | e | e
  · rw [e]; exact h1
  · rw [e]; exact h2
  · rw [e]; exact h3
/-- the words of a contract for a method WITH HANDLERS (hh: its table) -/
abbrev wsW_ (y : MethodName) (b : ByteArray) (L : Nat) (r : Option FieldType) (hh : List (Nat × Nat × Nat × Nat)) : List Cond := Cond.codeWith y b L r hh :: lw_all
theorem lw_methW {y : MethodName} {b : ByteArray} {L : Nat} {r : Option FieldType} {hh : List (Nat × Nat × Nat × Nat)} (h : Cond.codeWith y b L r hh ∈ lw_all) : GoodIn lw_all (wsW_ y b L r hh) := by
  intro w hw
  rcases List.mem_cons.mp hw with e | e
  · rw [e]
    exact lw_self _ h
  · exact lw_self _ e
/-- any list of words by their places (lw_in), good -/
theorem lw_good {ws : List Cond} (h : ∀ w ∈ ws, w ∈ lw_all) : GoodIn lw_all ws := fun w hw => lw_self w (h w hw)
/-- what a call of a method with handlers asks: vx_cwVW n hts (lw_VW ..), vx_cwSW n hts (lw_SW ..) -/
theorem lw_VW {own : String} {idx : Nat} {C : String} {y : MethodName} {b : ByteArray} {L : Nat} {r : Option FieldType} {hh : List (Nat × Nat × Nat × Nat)} (h1 : Cond.methodLink own idx y ∈ lw_all) (h2 : Cond.instanceMethod y ∈ lw_all) (h3 : Cond.selects C y y ∈ lw_all) (h4 : Cond.initialized C ∈ lw_all) (h5 : Cond.codeWith y b L r hh ∈ lw_all) : GoodIn lw_all (wsV own idx C y (wsW_ y b L r hh)) := by
  refine lw_app ?_ (lw_methW h5)
  intro w hw
  simp only [List.mem_cons, List.not_mem_nil, or_false] at hw
  rcases hw with e | e | e | e
  · rw [e]; exact h1
  · rw [e]; exact h2
  · rw [e]; exact h3
  · rw [e]; exact h4
theorem lw_SW {own : String} {idx : Nat} {y : MethodName} {b : ByteArray} {L : Nat} {r : Option FieldType} {hh : List (Nat × Nat × Nat × Nat)} (h1 : Cond.methodLink own idx y ∈ lw_all) (h2 : Cond.static y ∈ lw_all) (h3 : Cond.initialized y.cls ∈ lw_all) (h4 : Cond.codeWith y b L r hh ∈ lw_all) : GoodIn lw_all (va_wsS own idx y (wsW_ y b L r hh)) := by
  refine lw_app ?_ (lw_methW h4)
  intro w hw
  simp only [List.mem_cons, List.not_mem_nil, or_false] at hw
  rcases hw with e | e | e
  · rw [e]; exact h1
  · rw [e]; exact h2
  · rw [e]; exact h3
/-- a word by its place in its run of the tables -/
theorem lw_at {r : List Cond} (hr : ∀ w ∈ r, w ∈ lw_tbl) {w : Cond} (i : Nat) (h : r[i]? = some w) : w ∈ lw_tbl := hr w (List.mem_of_getElem? h)
theorem lw_g {w : Cond} (h : w ∈ lw_tbl) (g : goodWord w = true) : w ∈ lw_all := List.mem_filter.mpr ⟨h, g⟩
theorem lw_ms : ∀ w ∈ k2_sels lw_privs, w ∈ lw_tbl := fun w h => show w ∈ k2_sels lw_privs ++ tables_1 from List.mem_append_left _ h
theorem lw_m1 : ∀ w ∈ tables_1_1, w ∈ lw_tbl := fun w h => show w ∈ k2_sels lw_privs ++ tables_1 from List.mem_append_right (k2_sels lw_privs) (show w ∈ tables_1 from List.mem_append_left _ h)
theorem lw_m2 : ∀ w ∈ tables_1_2, w ∈ lw_tbl := fun w h => show w ∈ k2_sels lw_privs ++ tables_1 from List.mem_append_right (k2_sels lw_privs) (show w ∈ tables_1 from List.mem_append_right _ h)
theorem qs0 : (Cond.selects "DefaultPlacement" ⟨"DefaultPlacement", "corner1", "(I)V"⟩ ⟨"DefaultPlacement", "corner1", "(I)V"⟩) ∈ lw_all := lw_g (lw_at lw_ms 0 rfl) rfl
theorem qs1 : (Cond.selects "DefaultPlacement" ⟨"DefaultPlacement", "module", "(IIII)V"⟩ ⟨"DefaultPlacement", "module", "(IIII)V"⟩) ∈ lw_all := lw_g (lw_at lw_ms 1 rfl) rfl
theorem qs2 : (Cond.selects "DefaultPlacement" ⟨"DefaultPlacement", "setBit", "(IIZ)V"⟩ ⟨"DefaultPlacement", "setBit", "(IIZ)V"⟩) ∈ lw_all := lw_g (lw_at lw_ms 2 rfl) rfl
theorem qs3 : (Cond.selects "DefaultPlacement" ⟨"DefaultPlacement", "corner2", "(I)V"⟩ ⟨"DefaultPlacement", "corner2", "(I)V"⟩) ∈ lw_all := lw_g (lw_at lw_ms 3 rfl) rfl
theorem qs4 : (Cond.selects "DefaultPlacement" ⟨"DefaultPlacement", "corner3", "(I)V"⟩ ⟨"DefaultPlacement", "corner3", "(I)V"⟩) ∈ lw_all := lw_g (lw_at lw_ms 4 rfl) rfl
theorem qs5 : (Cond.selects "DefaultPlacement" ⟨"DefaultPlacement", "corner4", "(I)V"⟩ ⟨"DefaultPlacement", "corner4", "(I)V"⟩) ∈ lw_all := lw_g (lw_at lw_ms 5 rfl) rfl
theorem qs6 : (Cond.selects "DefaultPlacement" ⟨"DefaultPlacement", "noBit", "(II)Z"⟩ ⟨"DefaultPlacement", "noBit", "(II)Z"⟩) ∈ lw_all := lw_g (lw_at lw_ms 6 rfl) rfl
theorem qs7 : (Cond.selects "DefaultPlacement" ⟨"DefaultPlacement", "utah", "(III)V"⟩ ⟨"DefaultPlacement", "utah", "(III)V"⟩) ∈ lw_all := lw_g (lw_at lw_ms 7 rfl) rfl
theorem qs8 : (Cond.selects "PlacementDeskModel" ⟨"PlacementDeskModel", "cornerOne", "(I)V"⟩ ⟨"PlacementDeskModel", "cornerOne", "(I)V"⟩) ∈ lw_all := lw_g (lw_at lw_ms 8 rfl) rfl
theorem qs9 : (Cond.selects "PlacementDeskModel" ⟨"PlacementDeskModel", "module", "(IIII)V"⟩ ⟨"PlacementDeskModel", "module", "(IIII)V"⟩) ∈ lw_all := lw_g (lw_at lw_ms 9 rfl) rfl
theorem qs10 : (Cond.selects "PlacementDeskModel" ⟨"PlacementDeskModel", "cornerTwo", "(I)V"⟩ ⟨"PlacementDeskModel", "cornerTwo", "(I)V"⟩) ∈ lw_all := lw_g (lw_at lw_ms 10 rfl) rfl
theorem qs11 : (Cond.selects "PlacementDeskModel" ⟨"PlacementDeskModel", "cornerThree", "(I)V"⟩ ⟨"PlacementDeskModel", "cornerThree", "(I)V"⟩) ∈ lw_all := lw_g (lw_at lw_ms 11 rfl) rfl
theorem qs12 : (Cond.selects "PlacementDeskModel" ⟨"PlacementDeskModel", "cornerFour", "(I)V"⟩ ⟨"PlacementDeskModel", "cornerFour", "(I)V"⟩) ∈ lw_all := lw_g (lw_at lw_ms 12 rfl) rfl
theorem qs13 : (Cond.selects "PlacementDeskModel" ⟨"PlacementDeskModel", "isFree", "(II)Z"⟩ ⟨"PlacementDeskModel", "isFree", "(II)Z"⟩) ∈ lw_all := lw_g (lw_at lw_ms 13 rfl) rfl
theorem qs14 : (Cond.selects "PlacementDeskModel" ⟨"PlacementDeskModel", "utah", "(III)V"⟩ ⟨"PlacementDeskModel", "utah", "(III)V"⟩) ∈ lw_all := lw_g (lw_at lw_ms 14 rfl) rfl
-- ===== end of PART A; then your names; then what follows =====
/-! DECODE ROWS BY BYTES: one lemma an opcode; a method's code is cut into short pieces once, and a row reads its own piece alone. -/
set_option maxRecDepth 100000
/-- the code has just these bytes from pc on -/
def DkAt (code : ByteArray) (pc : Nat) (bs : List UInt8) : Prop := ∀ (j : Nat) (b : UInt8), bs[j]? = some b → code.data.toList[pc + j]? = some b
/-- the piece W has the bytes bs from its place j on -/
def dkIn (W : List UInt8) (j : Nat) (bs : List UInt8) : Bool := decide ((W.drop j).take bs.length = bs)
theorem dk_seg {l W T : List UInt8} {o o2 : Nat} (h : l.drop o = W ++ T) (n : Nat) (hn : W.length = n) (ho : o + n = o2) : l.drop o2 = T := by
  subst ho
  rw [← List.drop_drop, h, List.drop_left' hn]
theorem dk_at {code : ByteArray} {W T bs : List UInt8} {o pc : Nat} (h : code.data.toList.drop o = W ++ T) (j : Nat) (hp : o + j = pc) (hw : dkIn W j bs = true) : DkAt code pc bs := by
  subst hp
  intro i b e
  have h1 := of_decide_eq_true hw
  have h2 : i < bs.length := (List.getElem?_eq_some_iff.mp e).1
  have h3 : W[j + i]? = some b := by
    rw [← h1, List.getElem?_take, if_pos h2, List.getElem?_drop] at e
    exact e
  have h4 : j + i < W.length := (List.getElem?_eq_some_iff.mp h3).1
  have h5 : (code.data.toList.drop o)[j + i]? = some b := by
    rw [h, List.getElem?_append_left h4]
    exact h3
  rw [List.getElem?_drop, ← Nat.add_assoc] at h5
  exact h5
theorem dk_u1 {A : ByteArray} {p : Nat} {b : UInt8} (h : A.data.toList[p]? = some b) : (Reader.u1 : Reader DecodeError Nat) A p = .ok (b.toNat, p + 1) := by
  obtain ⟨h1, h2⟩ := List.getElem?_eq_some_iff.mp h
  have h3 : p < A.size := by simpa using h1
  have h4 : A[p]'h3 = b := h2
  have e : (Reader.u1 : Reader DecodeError Nat) A p = (if h : p < A.size then .ok (A[p].toNat, p + 1) else .error (HasTruncated.truncated p)) := by
    show (do if h : p < A.size then do set (p + 1); Pure.pure A[p].toNat else MonadExcept.throw (HasTruncated.truncated p) : Reader DecodeError Nat) A p = _
    by_cases hi : p < A.size
    · rw [dif_pos hi, dif_pos hi]; rfl
    · rw [dif_neg hi, dif_neg hi]; rfl
  rw [e, dif_pos h3, h4]
theorem dk_bind {α β : Type} {r : Reader DecodeError α} {f : α → Reader DecodeError β} {A : ByteArray} {p s : Nat} {a : α} (h : r A p = .ok (a, s)) : (r >>= f) A p = f a A s := by
  show (do let (a, s) ← r A p; f a A s : Except DecodeError (β × Nat)) = _
  rw [h]
  rfl
theorem dk_map {α β : Type} {r : Reader DecodeError α} {g : α → β} {A : ByteArray} {p s : Nat} {a : α} (h : r A p = .ok (a, s)) : (g <$> r) A p = .ok (g a, s) := by
  show (do let (a, s) ← r A p; .ok (g a, s) : Except DecodeError (β × Nat)) = _
  rw [h]
  rfl
theorem dk_u2 {A : ByteArray} {p : Nat} {a b : UInt8} (h : A.data.toList[p]? = some a) (h2 : A.data.toList[p + 1]? = some b) : (Reader.u2 : Reader DecodeError Nat) A p = .ok (a.toNat * 256 + b.toNat, p + 2) := by
  show (Reader.u1 >>= fun hi => Reader.u1 >>= fun lo => Pure.pure (hi * 256 + lo) : Reader DecodeError Nat) A p = _
  rw [dk_bind (dk_u1 h), dk_bind (dk_u1 h2)]
  rfl
theorem dk_of {code : ByteArray} {pc n : Nat} {i : Instr} (h : Decoder.instr pc code pc = .ok (i, pc + n)) : decode code pc = .ok (i, n) := by
  have e : decode code pc = (match Decoder.instr pc code pc with | .error x => .error x | .ok (j, s) => .ok (j, s - pc)) := by
    show (do let (j, s) ← Decoder.instr pc code pc; Pure.pure (j, s - pc) : Except DecodeError (Instr × Nat)) = _
    cases Decoder.instr pc code pc <;> rfl
  rw [e, h]
  show Except.ok (i, pc + n - pc) = _
  rw [Nat.add_sub_cancel_left]
theorem dk_1 {code : ByteArray} {pc : Nat} (h : DkAt code pc [1]) : decode code pc = .ok (.aconst_null, 1) := dk_of ((dk_bind (dk_u1 (h 0 _ rfl))).trans rfl)
theorem dk_2 {code : ByteArray} {pc : Nat} (h : DkAt code pc [2]) : decode code pc = .ok (.iconst (-1), 1) := dk_of ((dk_bind (dk_u1 (h 0 _ rfl))).trans rfl)
theorem dk_3 {code : ByteArray} {pc : Nat} (h : DkAt code pc [3]) : decode code pc = .ok (.iconst 0, 1) := dk_of ((dk_bind (dk_u1 (h 0 _ rfl))).trans rfl)
theorem dk_4 {code : ByteArray} {pc : Nat} (h : DkAt code pc [4]) : decode code pc = .ok (.iconst 1, 1) := dk_of ((dk_bind (dk_u1 (h 0 _ rfl))).trans rfl)
theorem dk_5 {code : ByteArray} {pc : Nat} (h : DkAt code pc [5]) : decode code pc = .ok (.iconst 2, 1) := dk_of ((dk_bind (dk_u1 (h 0 _ rfl))).trans rfl)
theorem dk_6 {code : ByteArray} {pc : Nat} (h : DkAt code pc [6]) : decode code pc = .ok (.iconst 3, 1) := dk_of ((dk_bind (dk_u1 (h 0 _ rfl))).trans rfl)
theorem dk_7 {code : ByteArray} {pc : Nat} (h : DkAt code pc [7]) : decode code pc = .ok (.iconst 4, 1) := dk_of ((dk_bind (dk_u1 (h 0 _ rfl))).trans rfl)
theorem dk_8 {code : ByteArray} {pc : Nat} (h : DkAt code pc [8]) : decode code pc = .ok (.iconst 5, 1) := dk_of ((dk_bind (dk_u1 (h 0 _ rfl))).trans rfl)
theorem dk_16 {code : ByteArray} {pc : Nat} (a : UInt8) (h : DkAt code pc [16, a]) : decode code pc = .ok (.bipush (Reader.signed 8 a.toNat), 2) := dk_of ((dk_bind (dk_u1 (h 0 _ rfl))).trans ((dk_bind (dk_map (dk_u1 (h 1 _ rfl)))).trans rfl))
theorem dk_17 {code : ByteArray} {pc : Nat} (a b : UInt8) (h : DkAt code pc [17, a, b]) : decode code pc = .ok (.sipush (Reader.signed 16 (a.toNat * 256 + b.toNat)), 3) := dk_of ((dk_bind (dk_u1 (h 0 _ rfl))).trans ((dk_bind (dk_map (dk_u2 (h 1 _ rfl) (h 2 _ rfl)))).trans rfl))
theorem dk_18 {code : ByteArray} {pc : Nat} (a : UInt8) (h : DkAt code pc [18, a]) : decode code pc = .ok (.ldc a.toNat, 2) := dk_of ((dk_bind (dk_u1 (h 0 _ rfl))).trans ((dk_bind (dk_u1 (h 1 _ rfl))).trans rfl))
theorem dk_21 {code : ByteArray} {pc : Nat} (a : UInt8) (h : DkAt code pc [21, a]) : decode code pc = .ok (.iload a.toNat, 2) := dk_of ((dk_bind (dk_u1 (h 0 _ rfl))).trans ((dk_bind (dk_u1 (h 1 _ rfl))).trans rfl))
theorem dk_25 {code : ByteArray} {pc : Nat} (a : UInt8) (h : DkAt code pc [25, a]) : decode code pc = .ok (.aload a.toNat, 2) := dk_of ((dk_bind (dk_u1 (h 0 _ rfl))).trans ((dk_bind (dk_u1 (h 1 _ rfl))).trans rfl))
theorem dk_26 {code : ByteArray} {pc : Nat} (h : DkAt code pc [26]) : decode code pc = .ok (.iload_n 0, 1) := dk_of ((dk_bind (dk_u1 (h 0 _ rfl))).trans rfl)
theorem dk_27 {code : ByteArray} {pc : Nat} (h : DkAt code pc [27]) : decode code pc = .ok (.iload_n 1, 1) := dk_of ((dk_bind (dk_u1 (h 0 _ rfl))).trans rfl)
theorem dk_28 {code : ByteArray} {pc : Nat} (h : DkAt code pc [28]) : decode code pc = .ok (.iload_n 2, 1) := dk_of ((dk_bind (dk_u1 (h 0 _ rfl))).trans rfl)
theorem dk_29 {code : ByteArray} {pc : Nat} (h : DkAt code pc [29]) : decode code pc = .ok (.iload_n 3, 1) := dk_of ((dk_bind (dk_u1 (h 0 _ rfl))).trans rfl)
theorem dk_42 {code : ByteArray} {pc : Nat} (h : DkAt code pc [42]) : decode code pc = .ok (.aload_n 0, 1) := dk_of ((dk_bind (dk_u1 (h 0 _ rfl))).trans rfl)
theorem dk_43 {code : ByteArray} {pc : Nat} (h : DkAt code pc [43]) : decode code pc = .ok (.aload_n 1, 1) := dk_of ((dk_bind (dk_u1 (h 0 _ rfl))).trans rfl)
theorem dk_44 {code : ByteArray} {pc : Nat} (h : DkAt code pc [44]) : decode code pc = .ok (.aload_n 2, 1) := dk_of ((dk_bind (dk_u1 (h 0 _ rfl))).trans rfl)
theorem dk_45 {code : ByteArray} {pc : Nat} (h : DkAt code pc [45]) : decode code pc = .ok (.aload_n 3, 1) := dk_of ((dk_bind (dk_u1 (h 0 _ rfl))).trans rfl)
theorem dk_46 {code : ByteArray} {pc : Nat} (h : DkAt code pc [46]) : decode code pc = .ok (.iaload, 1) := dk_of ((dk_bind (dk_u1 (h 0 _ rfl))).trans rfl)
theorem dk_51 {code : ByteArray} {pc : Nat} (h : DkAt code pc [51]) : decode code pc = .ok (.baload, 1) := dk_of ((dk_bind (dk_u1 (h 0 _ rfl))).trans rfl)
theorem dk_52 {code : ByteArray} {pc : Nat} (h : DkAt code pc [52]) : decode code pc = .ok (.caload, 1) := dk_of ((dk_bind (dk_u1 (h 0 _ rfl))).trans rfl)
theorem dk_54 {code : ByteArray} {pc : Nat} (a : UInt8) (h : DkAt code pc [54, a]) : decode code pc = .ok (.istore a.toNat, 2) := dk_of ((dk_bind (dk_u1 (h 0 _ rfl))).trans ((dk_bind (dk_u1 (h 1 _ rfl))).trans rfl))
theorem dk_58 {code : ByteArray} {pc : Nat} (a : UInt8) (h : DkAt code pc [58, a]) : decode code pc = .ok (.astore a.toNat, 2) := dk_of ((dk_bind (dk_u1 (h 0 _ rfl))).trans ((dk_bind (dk_u1 (h 1 _ rfl))).trans rfl))
theorem dk_60 {code : ByteArray} {pc : Nat} (h : DkAt code pc [60]) : decode code pc = .ok (.istore_n 1, 1) := dk_of ((dk_bind (dk_u1 (h 0 _ rfl))).trans rfl)
theorem dk_61 {code : ByteArray} {pc : Nat} (h : DkAt code pc [61]) : decode code pc = .ok (.istore_n 2, 1) := dk_of ((dk_bind (dk_u1 (h 0 _ rfl))).trans rfl)
theorem dk_62 {code : ByteArray} {pc : Nat} (h : DkAt code pc [62]) : decode code pc = .ok (.istore_n 3, 1) := dk_of ((dk_bind (dk_u1 (h 0 _ rfl))).trans rfl)
theorem dk_76 {code : ByteArray} {pc : Nat} (h : DkAt code pc [76]) : decode code pc = .ok (.astore_n 1, 1) := dk_of ((dk_bind (dk_u1 (h 0 _ rfl))).trans rfl)
theorem dk_77 {code : ByteArray} {pc : Nat} (h : DkAt code pc [77]) : decode code pc = .ok (.astore_n 2, 1) := dk_of ((dk_bind (dk_u1 (h 0 _ rfl))).trans rfl)
theorem dk_78 {code : ByteArray} {pc : Nat} (h : DkAt code pc [78]) : decode code pc = .ok (.astore_n 3, 1) := dk_of ((dk_bind (dk_u1 (h 0 _ rfl))).trans rfl)
theorem dk_79 {code : ByteArray} {pc : Nat} (h : DkAt code pc [79]) : decode code pc = .ok (.iastore, 1) := dk_of ((dk_bind (dk_u1 (h 0 _ rfl))).trans rfl)
theorem dk_84 {code : ByteArray} {pc : Nat} (h : DkAt code pc [84]) : decode code pc = .ok (.bastore, 1) := dk_of ((dk_bind (dk_u1 (h 0 _ rfl))).trans rfl)
theorem dk_85 {code : ByteArray} {pc : Nat} (h : DkAt code pc [85]) : decode code pc = .ok (.castore, 1) := dk_of ((dk_bind (dk_u1 (h 0 _ rfl))).trans rfl)
theorem dk_87 {code : ByteArray} {pc : Nat} (h : DkAt code pc [87]) : decode code pc = .ok (.pop, 1) := dk_of ((dk_bind (dk_u1 (h 0 _ rfl))).trans rfl)
theorem dk_89 {code : ByteArray} {pc : Nat} (h : DkAt code pc [89]) : decode code pc = .ok (.dup, 1) := dk_of ((dk_bind (dk_u1 (h 0 _ rfl))).trans rfl)
theorem dk_96 {code : ByteArray} {pc : Nat} (h : DkAt code pc [96]) : decode code pc = .ok (.iadd, 1) := dk_of ((dk_bind (dk_u1 (h 0 _ rfl))).trans rfl)
theorem dk_100 {code : ByteArray} {pc : Nat} (h : DkAt code pc [100]) : decode code pc = .ok (.isub, 1) := dk_of ((dk_bind (dk_u1 (h 0 _ rfl))).trans rfl)
theorem dk_104 {code : ByteArray} {pc : Nat} (h : DkAt code pc [104]) : decode code pc = .ok (.imul, 1) := dk_of ((dk_bind (dk_u1 (h 0 _ rfl))).trans rfl)
theorem dk_112 {code : ByteArray} {pc : Nat} (h : DkAt code pc [112]) : decode code pc = .ok (.irem, 1) := dk_of ((dk_bind (dk_u1 (h 0 _ rfl))).trans rfl)
theorem dk_120 {code : ByteArray} {pc : Nat} (h : DkAt code pc [120]) : decode code pc = .ok (.ishl, 1) := dk_of ((dk_bind (dk_u1 (h 0 _ rfl))).trans rfl)
theorem dk_122 {code : ByteArray} {pc : Nat} (h : DkAt code pc [122]) : decode code pc = .ok (.ishr, 1) := dk_of ((dk_bind (dk_u1 (h 0 _ rfl))).trans rfl)
theorem dk_124 {code : ByteArray} {pc : Nat} (h : DkAt code pc [124]) : decode code pc = .ok (.iushr, 1) := dk_of ((dk_bind (dk_u1 (h 0 _ rfl))).trans rfl)
theorem dk_126 {code : ByteArray} {pc : Nat} (h : DkAt code pc [126]) : decode code pc = .ok (.iand, 1) := dk_of ((dk_bind (dk_u1 (h 0 _ rfl))).trans rfl)
theorem dk_128 {code : ByteArray} {pc : Nat} (h : DkAt code pc [128]) : decode code pc = .ok (.ior, 1) := dk_of ((dk_bind (dk_u1 (h 0 _ rfl))).trans rfl)
theorem dk_132 {code : ByteArray} {pc : Nat} (a b : UInt8) (h : DkAt code pc [132, a, b]) : decode code pc = .ok (.iinc a.toNat (Reader.signed 8 b.toNat), 3) := dk_of ((dk_bind (dk_u1 (h 0 _ rfl))).trans ((dk_bind (dk_u1 (h 1 _ rfl))).trans ((dk_bind (dk_map (dk_u1 (h 2 _ rfl)))).trans rfl)))
theorem dk_145 {code : ByteArray} {pc : Nat} (h : DkAt code pc [145]) : decode code pc = .ok (.i2b, 1) := dk_of ((dk_bind (dk_u1 (h 0 _ rfl))).trans rfl)
theorem dk_146 {code : ByteArray} {pc : Nat} (h : DkAt code pc [146]) : decode code pc = .ok (.i2c, 1) := dk_of ((dk_bind (dk_u1 (h 0 _ rfl))).trans rfl)
theorem dk_153 {code : ByteArray} {pc : Nat} (a b : UInt8) (h : DkAt code pc [153, a, b]) : decode code pc = .ok (.ifCond .eq (Reader.signed 16 (a.toNat * 256 + b.toNat)), 3) := dk_of ((dk_bind (dk_u1 (h 0 _ rfl))).trans ((dk_bind (dk_map (dk_u2 (h 1 _ rfl) (h 2 _ rfl)))).trans rfl))
theorem dk_154 {code : ByteArray} {pc : Nat} (a b : UInt8) (h : DkAt code pc [154, a, b]) : decode code pc = .ok (.ifCond .ne (Reader.signed 16 (a.toNat * 256 + b.toNat)), 3) := dk_of ((dk_bind (dk_u1 (h 0 _ rfl))).trans ((dk_bind (dk_map (dk_u2 (h 1 _ rfl) (h 2 _ rfl)))).trans rfl))
theorem dk_155 {code : ByteArray} {pc : Nat} (a b : UInt8) (h : DkAt code pc [155, a, b]) : decode code pc = .ok (.ifCond .lt (Reader.signed 16 (a.toNat * 256 + b.toNat)), 3) := dk_of ((dk_bind (dk_u1 (h 0 _ rfl))).trans ((dk_bind (dk_map (dk_u2 (h 1 _ rfl) (h 2 _ rfl)))).trans rfl))
theorem dk_156 {code : ByteArray} {pc : Nat} (a b : UInt8) (h : DkAt code pc [156, a, b]) : decode code pc = .ok (.ifCond .ge (Reader.signed 16 (a.toNat * 256 + b.toNat)), 3) := dk_of ((dk_bind (dk_u1 (h 0 _ rfl))).trans ((dk_bind (dk_map (dk_u2 (h 1 _ rfl) (h 2 _ rfl)))).trans rfl))
theorem dk_159 {code : ByteArray} {pc : Nat} (a b : UInt8) (h : DkAt code pc [159, a, b]) : decode code pc = .ok (.if_icmp .eq (Reader.signed 16 (a.toNat * 256 + b.toNat)), 3) := dk_of ((dk_bind (dk_u1 (h 0 _ rfl))).trans ((dk_bind (dk_map (dk_u2 (h 1 _ rfl) (h 2 _ rfl)))).trans rfl))
theorem dk_160 {code : ByteArray} {pc : Nat} (a b : UInt8) (h : DkAt code pc [160, a, b]) : decode code pc = .ok (.if_icmp .ne (Reader.signed 16 (a.toNat * 256 + b.toNat)), 3) := dk_of ((dk_bind (dk_u1 (h 0 _ rfl))).trans ((dk_bind (dk_map (dk_u2 (h 1 _ rfl) (h 2 _ rfl)))).trans rfl))
theorem dk_161 {code : ByteArray} {pc : Nat} (a b : UInt8) (h : DkAt code pc [161, a, b]) : decode code pc = .ok (.if_icmp .lt (Reader.signed 16 (a.toNat * 256 + b.toNat)), 3) := dk_of ((dk_bind (dk_u1 (h 0 _ rfl))).trans ((dk_bind (dk_map (dk_u2 (h 1 _ rfl) (h 2 _ rfl)))).trans rfl))
theorem dk_162 {code : ByteArray} {pc : Nat} (a b : UInt8) (h : DkAt code pc [162, a, b]) : decode code pc = .ok (.if_icmp .ge (Reader.signed 16 (a.toNat * 256 + b.toNat)), 3) := dk_of ((dk_bind (dk_u1 (h 0 _ rfl))).trans ((dk_bind (dk_map (dk_u2 (h 1 _ rfl) (h 2 _ rfl)))).trans rfl))
theorem dk_163 {code : ByteArray} {pc : Nat} (a b : UInt8) (h : DkAt code pc [163, a, b]) : decode code pc = .ok (.if_icmp .gt (Reader.signed 16 (a.toNat * 256 + b.toNat)), 3) := dk_of ((dk_bind (dk_u1 (h 0 _ rfl))).trans ((dk_bind (dk_map (dk_u2 (h 1 _ rfl) (h 2 _ rfl)))).trans rfl))
theorem dk_164 {code : ByteArray} {pc : Nat} (a b : UInt8) (h : DkAt code pc [164, a, b]) : decode code pc = .ok (.if_icmp .le (Reader.signed 16 (a.toNat * 256 + b.toNat)), 3) := dk_of ((dk_bind (dk_u1 (h 0 _ rfl))).trans ((dk_bind (dk_map (dk_u2 (h 1 _ rfl) (h 2 _ rfl)))).trans rfl))
theorem dk_167 {code : ByteArray} {pc : Nat} (a b : UInt8) (h : DkAt code pc [167, a, b]) : decode code pc = .ok (.goto (Reader.signed 16 (a.toNat * 256 + b.toNat)), 3) := dk_of ((dk_bind (dk_u1 (h 0 _ rfl))).trans ((dk_bind (dk_map (dk_u2 (h 1 _ rfl) (h 2 _ rfl)))).trans rfl))
theorem dk_172 {code : ByteArray} {pc : Nat} (h : DkAt code pc [172]) : decode code pc = .ok (.ireturn, 1) := dk_of ((dk_bind (dk_u1 (h 0 _ rfl))).trans rfl)
theorem dk_176 {code : ByteArray} {pc : Nat} (h : DkAt code pc [176]) : decode code pc = .ok (.areturn, 1) := dk_of ((dk_bind (dk_u1 (h 0 _ rfl))).trans rfl)
theorem dk_177 {code : ByteArray} {pc : Nat} (h : DkAt code pc [177]) : decode code pc = .ok (.return_, 1) := dk_of ((dk_bind (dk_u1 (h 0 _ rfl))).trans rfl)
theorem dk_178 {code : ByteArray} {pc : Nat} (a b : UInt8) (h : DkAt code pc [178, a, b]) : decode code pc = .ok (.getstatic (a.toNat * 256 + b.toNat), 3) := dk_of ((dk_bind (dk_u1 (h 0 _ rfl))).trans ((dk_bind (dk_u2 (h 1 _ rfl) (h 2 _ rfl))).trans rfl))
theorem dk_180 {code : ByteArray} {pc : Nat} (a b : UInt8) (h : DkAt code pc [180, a, b]) : decode code pc = .ok (.getfield (a.toNat * 256 + b.toNat), 3) := dk_of ((dk_bind (dk_u1 (h 0 _ rfl))).trans ((dk_bind (dk_u2 (h 1 _ rfl) (h 2 _ rfl))).trans rfl))
theorem dk_181 {code : ByteArray} {pc : Nat} (a b : UInt8) (h : DkAt code pc [181, a, b]) : decode code pc = .ok (.putfield (a.toNat * 256 + b.toNat), 3) := dk_of ((dk_bind (dk_u1 (h 0 _ rfl))).trans ((dk_bind (dk_u2 (h 1 _ rfl) (h 2 _ rfl))).trans rfl))
theorem dk_182 {code : ByteArray} {pc : Nat} (a b : UInt8) (h : DkAt code pc [182, a, b]) : decode code pc = .ok (.invokevirtual (a.toNat * 256 + b.toNat), 3) := dk_of ((dk_bind (dk_u1 (h 0 _ rfl))).trans ((dk_bind (dk_u2 (h 1 _ rfl) (h 2 _ rfl))).trans rfl))
theorem dk_183 {code : ByteArray} {pc : Nat} (a b : UInt8) (h : DkAt code pc [183, a, b]) : decode code pc = .ok (.invokespecial (a.toNat * 256 + b.toNat), 3) := dk_of ((dk_bind (dk_u1 (h 0 _ rfl))).trans ((dk_bind (dk_u2 (h 1 _ rfl) (h 2 _ rfl))).trans rfl))
theorem dk_184 {code : ByteArray} {pc : Nat} (a b : UInt8) (h : DkAt code pc [184, a, b]) : decode code pc = .ok (.invokestatic (a.toNat * 256 + b.toNat), 3) := dk_of ((dk_bind (dk_u1 (h 0 _ rfl))).trans ((dk_bind (dk_u2 (h 1 _ rfl) (h 2 _ rfl))).trans rfl))
theorem dk_187 {code : ByteArray} {pc : Nat} (a b : UInt8) (h : DkAt code pc [187, a, b]) : decode code pc = .ok (.new (a.toNat * 256 + b.toNat), 3) := dk_of ((dk_bind (dk_u1 (h 0 _ rfl))).trans ((dk_bind (dk_u2 (h 1 _ rfl) (h 2 _ rfl))).trans rfl))
theorem dk_188_5 {code : ByteArray} {pc : Nat} (h : DkAt code pc [188, 5]) : decode code pc = .ok (.newarray .char, 2) := dk_of ((dk_bind (dk_u1 (h 0 _ rfl))).trans ((dk_bind (dk_u1 (h 1 _ rfl))).trans rfl))
theorem dk_188_8 {code : ByteArray} {pc : Nat} (h : DkAt code pc [188, 8]) : decode code pc = .ok (.newarray .byte, 2) := dk_of ((dk_bind (dk_u1 (h 0 _ rfl))).trans ((dk_bind (dk_u1 (h 1 _ rfl))).trans rfl))
theorem dk_188_10 {code : ByteArray} {pc : Nat} (h : DkAt code pc [188, 10]) : decode code pc = .ok (.newarray .int, 2) := dk_of ((dk_bind (dk_u1 (h 0 _ rfl))).trans ((dk_bind (dk_u1 (h 1 _ rfl))).trans rfl))
theorem dk_190 {code : ByteArray} {pc : Nat} (h : DkAt code pc [190]) : decode code pc = .ok (.arraylength, 1) := dk_of ((dk_bind (dk_u1 (h 0 _ rfl))).trans rfl)
theorem dk_191 {code : ByteArray} {pc : Nat} (h : DkAt code pc [191]) : decode code pc = .ok (.athrow, 1) := dk_of ((dk_bind (dk_u1 (h 0 _ rfl))).trans rfl)
end
section
theorem q106 : (Jvm.Cond.arrayClass Jvm.ClassFile.FieldType.char) ∈ lw_all := lw_g (lw_at lw_m1 91 rfl) rfl
set_option maxRecDepth 100000
theorem q107 : (Jvm.Cond.arrayClass Jvm.ClassFile.FieldType.byte) ∈ lw_all := lw_g (lw_at lw_m1 92 rfl) rfl
theorem q244 : (Jvm.Cond.arrayClass Jvm.ClassFile.FieldType.int) ∈ lw_all := lw_g (lw_at lw_m1 229 rfl) rfl

theorem q161 : (Jvm.Cond.interfaceMethod "java/lang/CharSequence" "java/lang/CharSequence" "charAt" "(I)C") ∈ lw_tbl := lw_at lw_m1 146 rfl
set_option maxRecDepth 100000
theorem q162 : (Jvm.Cond.declares ({ cls := "java/lang/CharSequence", name := "charAt", desc := "(I)C" } : Jvm.MethodName)) ∈ lw_tbl := lw_at lw_m1 147 rfl

/-! java/lang/Object -/
set_option maxRecDepth 100000
def RJ5 : String := "java/lang/Object"
abbrev cJ5_init : ByteArray := object_method_1_code
def yJ5_init : MethodName := ⟨RJ5, "<init>", "()V"⟩
theorem dJ5_init_0 : decode cJ5_init 0 = .ok (.return_, 1) := by decide +kernel
theorem q30 : (Jvm.Cond.instanceMethod ({ cls := "java/lang/Object", name := "<init>", desc := "()V" } : Jvm.MethodName)) ∈ lw_all := lw_g (lw_at lw_m1 15 rfl) rfl
theorem q31 : (Jvm.Cond.code ({ cls := "java/lang/Object", name := "<init>", desc := "()V" } : Jvm.MethodName) object_method_1_code (1 : Nat) (Option.none : Option Jvm.ClassFile.FieldType)) ∈ lw_all := lw_g (lw_at lw_m1 16 rfl) rfl

/-! java/lang/String -/
set_option maxRecDepth 100000
def RJ0 : String := "java/lang/String"
def TJ0 : u_T := fun k => match k with
  | 0 => ("java/lang/String", "value", "[B", true)
  | 1 => ("java/lang/String", "coder", "B", true)
  | 2 => ("java/lang/String", "hash", "I", false)
  | _ => ("java/lang/String", "hashIsZero", "Z", false)
def tyJ0 : Nat → FieldType := fun k => match k with
  | 0 => .array .byte
  | 1 => .byte
  | 2 => .int
  | _ => .boolean
abbrev wsJ00 : List Cond := u_ws RJ0 TJ0 4
theorem nmJ0 : ∀ a, a < 4 → ∀ b, b < 4 → a ≠ b → (TJ0 a).2.1 ≠ (TJ0 b).2.1 := by decide +kernel
theorem tyJ0_ok : ∀ k, k < 4 → parseFieldDescriptor (TJ0 k).2.2.1 = some (tyJ0 k) := by decide +kernel
abbrev cJ0_init : ByteArray := prog_6_method_3_code
def yJ0_init : MethodName := ⟨RJ0, "<init>", "([C)V"⟩
def dkwJ0_init_0 : List UInt8 := [42, 43, 3, 43, 190, 1, 183, 0, 27, 177]
abbrev dktJ0_init_0 : List UInt8 := dkwJ0_init_0 ++ []
theorem dksJ0_init_0 : cJ0_init.data.toList.drop 0 = dktJ0_init_0 := by decide +kernel
theorem dJ0_init_0 : decode cJ0_init 0 = .ok (.aload_n 0, 1) := dk_42 (dk_at dksJ0_init_0 0 rfl rfl)
theorem dJ0_init_1 : decode cJ0_init 1 = .ok (.aload_n 1, 1) := dk_43 (dk_at dksJ0_init_0 1 rfl rfl)
theorem dJ0_init_2 : decode cJ0_init 2 = .ok (.iconst 0, 1) := dk_3 (dk_at dksJ0_init_0 2 rfl rfl)
theorem dJ0_init_3 : decode cJ0_init 3 = .ok (.aload_n 1, 1) := dk_43 (dk_at dksJ0_init_0 3 rfl rfl)
theorem dJ0_init_4 : decode cJ0_init 4 = .ok (.arraylength, 1) := dk_190 (dk_at dksJ0_init_0 4 rfl rfl)
theorem dJ0_init_5 : decode cJ0_init 5 = .ok (.aconst_null, 1) := dk_1 (dk_at dksJ0_init_0 5 rfl rfl)
theorem dJ0_init_6 : decode cJ0_init 6 = .ok (.invokespecial 27, 3) := dk_183 0 27 (dk_at dksJ0_init_0 6 rfl rfl)
theorem dJ0_init_9 : decode cJ0_init 9 = .ok (.return_, 1) := dk_177 (dk_at dksJ0_init_0 9 rfl rfl)
abbrev cJ0_init_2 : ByteArray := prog_6_method_149_code
def yJ0_init_2 : MethodName := ⟨RJ0, "<init>", "([CIILjava/lang/Void;)V"⟩
def dkwJ0_init_2_3 : List UInt8 := [184, 0, 180, 181, 0, 9, 177]
abbrev dktJ0_init_2_3 : List UInt8 := dkwJ0_init_2_3 ++ []
def dkwJ0_init_2_2 : List UInt8 := [184, 0, 47, 181, 0, 15, 42, 25, 5, 181, 0, 9, 177, 42, 4, 181, 0, 15, 42, 43, 28, 29]
abbrev dktJ0_init_2_2 : List UInt8 := dkwJ0_init_2_2 ++ dktJ0_init_2_3
def dkwJ0_init_2_1 : List UInt8 := [181, 0, 15, 177, 178, 0, 38, 153, 0, 28, 43, 28, 29, 184, 0, 177, 58, 5, 42, 25, 5, 29]
abbrev dktJ0_init_2_1 : List UInt8 := dkwJ0_init_2_1 ++ dktJ0_init_2_2
def dkwJ0_init_2_0 : List UInt8 := [42, 183, 0, 1, 29, 154, 0, 22, 42, 18, 7, 180, 0, 9, 181, 0, 9, 42, 18, 7, 180, 0, 15]
abbrev dktJ0_init_2_0 : List UInt8 := dkwJ0_init_2_0 ++ dktJ0_init_2_1
theorem dksJ0_init_2_0 : cJ0_init_2.data.toList.drop 0 = dktJ0_init_2_0 := by decide +kernel
theorem dksJ0_init_2_1 : cJ0_init_2.data.toList.drop 23 = dktJ0_init_2_1 := dk_seg dksJ0_init_2_0 23 rfl rfl
theorem dksJ0_init_2_2 : cJ0_init_2.data.toList.drop 45 = dktJ0_init_2_2 := dk_seg dksJ0_init_2_1 22 rfl rfl
theorem dksJ0_init_2_3 : cJ0_init_2.data.toList.drop 67 = dktJ0_init_2_3 := dk_seg dksJ0_init_2_2 22 rfl rfl
theorem dJ0_init_2_0 : decode cJ0_init_2 0 = .ok (.aload_n 0, 1) := dk_42 (dk_at dksJ0_init_2_0 0 rfl rfl)
theorem dJ0_init_2_1 : decode cJ0_init_2 1 = .ok (.invokespecial 1, 3) := dk_183 0 1 (dk_at dksJ0_init_2_0 1 rfl rfl)
theorem dJ0_init_2_4 : decode cJ0_init_2 4 = .ok (.iload_n 3, 1) := dk_29 (dk_at dksJ0_init_2_0 4 rfl rfl)
theorem dJ0_init_2_5 : decode cJ0_init_2 5 = .ok (.ifCond .ne 22, 3) := dk_154 0 22 (dk_at dksJ0_init_2_0 5 rfl rfl)
theorem dJ0_init_2_8 : decode cJ0_init_2 8 = .ok (.aload_n 0, 1) := dk_42 (dk_at dksJ0_init_2_0 8 rfl rfl)
theorem dJ0_init_2_9 : decode cJ0_init_2 9 = .ok (.ldc 7, 2) := dk_18 7 (dk_at dksJ0_init_2_0 9 rfl rfl)
theorem dJ0_init_2_11 : decode cJ0_init_2 11 = .ok (.getfield 9, 3) := dk_180 0 9 (dk_at dksJ0_init_2_0 11 rfl rfl)
theorem dJ0_init_2_14 : decode cJ0_init_2 14 = .ok (.putfield 9, 3) := dk_181 0 9 (dk_at dksJ0_init_2_0 14 rfl rfl)
theorem dJ0_init_2_17 : decode cJ0_init_2 17 = .ok (.aload_n 0, 1) := dk_42 (dk_at dksJ0_init_2_0 17 rfl rfl)
theorem dJ0_init_2_18 : decode cJ0_init_2 18 = .ok (.ldc 7, 2) := dk_18 7 (dk_at dksJ0_init_2_0 18 rfl rfl)
theorem dJ0_init_2_20 : decode cJ0_init_2 20 = .ok (.getfield 15, 3) := dk_180 0 15 (dk_at dksJ0_init_2_0 20 rfl rfl)
theorem dJ0_init_2_23 : decode cJ0_init_2 23 = .ok (.putfield 15, 3) := dk_181 0 15 (dk_at dksJ0_init_2_1 0 rfl rfl)
theorem dJ0_init_2_26 : decode cJ0_init_2 26 = .ok (.return_, 1) := dk_177 (dk_at dksJ0_init_2_1 3 rfl rfl)
theorem dJ0_init_2_27 : decode cJ0_init_2 27 = .ok (.getstatic 38, 3) := dk_178 0 38 (dk_at dksJ0_init_2_1 4 rfl rfl)
theorem dJ0_init_2_30 : decode cJ0_init_2 30 = .ok (.ifCond .eq 28, 3) := dk_153 0 28 (dk_at dksJ0_init_2_1 7 rfl rfl)
theorem dJ0_init_2_33 : decode cJ0_init_2 33 = .ok (.aload_n 1, 1) := dk_43 (dk_at dksJ0_init_2_1 10 rfl rfl)
theorem dJ0_init_2_34 : decode cJ0_init_2 34 = .ok (.iload_n 2, 1) := dk_28 (dk_at dksJ0_init_2_1 11 rfl rfl)
theorem dJ0_init_2_35 : decode cJ0_init_2 35 = .ok (.iload_n 3, 1) := dk_29 (dk_at dksJ0_init_2_1 12 rfl rfl)
theorem dJ0_init_2_36 : decode cJ0_init_2 36 = .ok (.invokestatic 177, 3) := dk_184 0 177 (dk_at dksJ0_init_2_1 13 rfl rfl)
theorem dJ0_init_2_39 : decode cJ0_init_2 39 = .ok (.astore 5, 2) := dk_58 5 (dk_at dksJ0_init_2_1 16 rfl rfl)
theorem dJ0_init_2_41 : decode cJ0_init_2 41 = .ok (.aload_n 0, 1) := dk_42 (dk_at dksJ0_init_2_1 18 rfl rfl)
theorem dJ0_init_2_42 : decode cJ0_init_2 42 = .ok (.aload 5, 2) := dk_25 5 (dk_at dksJ0_init_2_1 19 rfl rfl)
theorem dJ0_init_2_44 : decode cJ0_init_2 44 = .ok (.iload_n 3, 1) := dk_29 (dk_at dksJ0_init_2_1 21 rfl rfl)
theorem dJ0_init_2_45 : decode cJ0_init_2 45 = .ok (.invokestatic 47, 3) := dk_184 0 47 (dk_at dksJ0_init_2_2 0 rfl rfl)
theorem dJ0_init_2_48 : decode cJ0_init_2 48 = .ok (.putfield 15, 3) := dk_181 0 15 (dk_at dksJ0_init_2_2 3 rfl rfl)
theorem dJ0_init_2_51 : decode cJ0_init_2 51 = .ok (.aload_n 0, 1) := dk_42 (dk_at dksJ0_init_2_2 6 rfl rfl)
theorem dJ0_init_2_52 : decode cJ0_init_2 52 = .ok (.aload 5, 2) := dk_25 5 (dk_at dksJ0_init_2_2 7 rfl rfl)
theorem dJ0_init_2_54 : decode cJ0_init_2 54 = .ok (.putfield 9, 3) := dk_181 0 9 (dk_at dksJ0_init_2_2 9 rfl rfl)
theorem dJ0_init_2_57 : decode cJ0_init_2 57 = .ok (.return_, 1) := dk_177 (dk_at dksJ0_init_2_2 12 rfl rfl)
theorem dJ0_init_2_58 : decode cJ0_init_2 58 = .ok (.aload_n 0, 1) := dk_42 (dk_at dksJ0_init_2_2 13 rfl rfl)
theorem dJ0_init_2_59 : decode cJ0_init_2 59 = .ok (.iconst 1, 1) := dk_4 (dk_at dksJ0_init_2_2 14 rfl rfl)
theorem dJ0_init_2_60 : decode cJ0_init_2 60 = .ok (.putfield 15, 3) := dk_181 0 15 (dk_at dksJ0_init_2_2 15 rfl rfl)
theorem dJ0_init_2_63 : decode cJ0_init_2 63 = .ok (.aload_n 0, 1) := dk_42 (dk_at dksJ0_init_2_2 18 rfl rfl)
theorem dJ0_init_2_64 : decode cJ0_init_2 64 = .ok (.aload_n 1, 1) := dk_43 (dk_at dksJ0_init_2_2 19 rfl rfl)
theorem dJ0_init_2_65 : decode cJ0_init_2 65 = .ok (.iload_n 2, 1) := dk_28 (dk_at dksJ0_init_2_2 20 rfl rfl)
theorem dJ0_init_2_66 : decode cJ0_init_2 66 = .ok (.iload_n 3, 1) := dk_29 (dk_at dksJ0_init_2_2 21 rfl rfl)
theorem dJ0_init_2_67 : decode cJ0_init_2 67 = .ok (.invokestatic 180, 3) := dk_184 0 180 (dk_at dksJ0_init_2_3 0 rfl rfl)
theorem dJ0_init_2_70 : decode cJ0_init_2 70 = .ok (.putfield 9, 3) := dk_181 0 9 (dk_at dksJ0_init_2_3 3 rfl rfl)
theorem dJ0_init_2_73 : decode cJ0_init_2 73 = .ok (.return_, 1) := dk_177 (dk_at dksJ0_init_2_3 6 rfl rfl)
abbrev cJ0_checkBoundsOffCount : ByteArray := prog_6_method_157_code
def yJ0_checkBoundsOffCount : MethodName := ⟨RJ0, "checkBoundsOffCount", "(III)I"⟩
def dkwJ0_checkBoundsOffCount_0 : List UInt8 := [26, 27, 28, 178, 4, 29, 184, 4, 41, 172]
abbrev dktJ0_checkBoundsOffCount_0 : List UInt8 := dkwJ0_checkBoundsOffCount_0 ++ []
theorem dksJ0_checkBoundsOffCount_0 : cJ0_checkBoundsOffCount.data.toList.drop 0 = dktJ0_checkBoundsOffCount_0 := by decide +kernel
theorem dJ0_checkBoundsOffCount_0 : decode cJ0_checkBoundsOffCount 0 = .ok (.iload_n 0, 1) := dk_26 (dk_at dksJ0_checkBoundsOffCount_0 0 rfl rfl)
theorem dJ0_checkBoundsOffCount_1 : decode cJ0_checkBoundsOffCount 1 = .ok (.iload_n 1, 1) := dk_27 (dk_at dksJ0_checkBoundsOffCount_0 1 rfl rfl)
theorem dJ0_checkBoundsOffCount_2 : decode cJ0_checkBoundsOffCount 2 = .ok (.iload_n 2, 1) := dk_28 (dk_at dksJ0_checkBoundsOffCount_0 2 rfl rfl)
theorem dJ0_checkBoundsOffCount_3 : decode cJ0_checkBoundsOffCount 3 = .ok (.getstatic 1053, 3) := dk_178 4 29 (dk_at dksJ0_checkBoundsOffCount_0 3 rfl rfl)
theorem dJ0_checkBoundsOffCount_6 : decode cJ0_checkBoundsOffCount 6 = .ok (.invokestatic 1065, 3) := dk_184 4 41 (dk_at dksJ0_checkBoundsOffCount_0 6 rfl rfl)
theorem dJ0_checkBoundsOffCount_9 : decode cJ0_checkBoundsOffCount 9 = .ok (.ireturn, 1) := dk_172 (dk_at dksJ0_checkBoundsOffCount_0 9 rfl rfl)
abbrev cJ0_charAt : ByteArray := prog_6_method_56_code
def yJ0_charAt : MethodName := ⟨RJ0, "charAt", "(I)C"⟩
def dkwJ0_charAt_1 : List UInt8 := [172]
abbrev dktJ0_charAt_1 : List UInt8 := dkwJ0_charAt_1 ++ []
def dkwJ0_charAt_0 : List UInt8 := [42, 182, 1, 236, 153, 0, 12, 42, 180, 0, 9, 27, 184, 1, 239, 172, 42, 180, 0, 9, 27, 184, 1, 242]
abbrev dktJ0_charAt_0 : List UInt8 := dkwJ0_charAt_0 ++ dktJ0_charAt_1
theorem dksJ0_charAt_0 : cJ0_charAt.data.toList.drop 0 = dktJ0_charAt_0 := by decide +kernel
theorem dksJ0_charAt_1 : cJ0_charAt.data.toList.drop 24 = dktJ0_charAt_1 := dk_seg dksJ0_charAt_0 24 rfl rfl
theorem dJ0_charAt_0 : decode cJ0_charAt 0 = .ok (.aload_n 0, 1) := dk_42 (dk_at dksJ0_charAt_0 0 rfl rfl)
theorem dJ0_charAt_1 : decode cJ0_charAt 1 = .ok (.invokevirtual 492, 3) := dk_182 1 236 (dk_at dksJ0_charAt_0 1 rfl rfl)
theorem dJ0_charAt_4 : decode cJ0_charAt 4 = .ok (.ifCond .eq 12, 3) := dk_153 0 12 (dk_at dksJ0_charAt_0 4 rfl rfl)
theorem dJ0_charAt_7 : decode cJ0_charAt 7 = .ok (.aload_n 0, 1) := dk_42 (dk_at dksJ0_charAt_0 7 rfl rfl)
theorem dJ0_charAt_8 : decode cJ0_charAt 8 = .ok (.getfield 9, 3) := dk_180 0 9 (dk_at dksJ0_charAt_0 8 rfl rfl)
theorem dJ0_charAt_11 : decode cJ0_charAt 11 = .ok (.iload_n 1, 1) := dk_27 (dk_at dksJ0_charAt_0 11 rfl rfl)
theorem dJ0_charAt_12 : decode cJ0_charAt 12 = .ok (.invokestatic 495, 3) := dk_184 1 239 (dk_at dksJ0_charAt_0 12 rfl rfl)
theorem dJ0_charAt_15 : decode cJ0_charAt 15 = .ok (.ireturn, 1) := dk_172 (dk_at dksJ0_charAt_0 15 rfl rfl)
theorem dJ0_charAt_16 : decode cJ0_charAt 16 = .ok (.aload_n 0, 1) := dk_42 (dk_at dksJ0_charAt_0 16 rfl rfl)
theorem dJ0_charAt_17 : decode cJ0_charAt 17 = .ok (.getfield 9, 3) := dk_180 0 9 (dk_at dksJ0_charAt_0 17 rfl rfl)
theorem dJ0_charAt_20 : decode cJ0_charAt 20 = .ok (.iload_n 1, 1) := dk_27 (dk_at dksJ0_charAt_0 20 rfl rfl)
theorem dJ0_charAt_21 : decode cJ0_charAt 21 = .ok (.invokestatic 498, 3) := dk_184 1 242 (dk_at dksJ0_charAt_0 21 rfl rfl)
theorem dJ0_charAt_24 : decode cJ0_charAt 24 = .ok (.ireturn, 1) := dk_172 (dk_at dksJ0_charAt_1 0 rfl rfl)
abbrev cJ0_isLatin1 : ByteArray := prog_6_method_154_code
def yJ0_isLatin1 : MethodName := ⟨RJ0, "isLatin1", "()Z"⟩
def dkwJ0_isLatin1_0 : List UInt8 := [178, 0, 38, 153, 0, 14, 42, 180, 0, 15, 154, 0, 7, 4, 167, 0, 4, 3, 172]
abbrev dktJ0_isLatin1_0 : List UInt8 := dkwJ0_isLatin1_0 ++ []
theorem dksJ0_isLatin1_0 : cJ0_isLatin1.data.toList.drop 0 = dktJ0_isLatin1_0 := by decide +kernel
theorem dJ0_isLatin1_0 : decode cJ0_isLatin1 0 = .ok (.getstatic 38, 3) := dk_178 0 38 (dk_at dksJ0_isLatin1_0 0 rfl rfl)
theorem dJ0_isLatin1_3 : decode cJ0_isLatin1 3 = .ok (.ifCond .eq 14, 3) := dk_153 0 14 (dk_at dksJ0_isLatin1_0 3 rfl rfl)
theorem dJ0_isLatin1_6 : decode cJ0_isLatin1 6 = .ok (.aload_n 0, 1) := dk_42 (dk_at dksJ0_isLatin1_0 6 rfl rfl)
theorem dJ0_isLatin1_7 : decode cJ0_isLatin1 7 = .ok (.getfield 15, 3) := dk_180 0 15 (dk_at dksJ0_isLatin1_0 7 rfl rfl)
theorem dJ0_isLatin1_10 : decode cJ0_isLatin1 10 = .ok (.ifCond .ne 7, 3) := dk_154 0 7 (dk_at dksJ0_isLatin1_0 10 rfl rfl)
theorem dJ0_isLatin1_13 : decode cJ0_isLatin1 13 = .ok (.iconst 1, 1) := dk_4 (dk_at dksJ0_isLatin1_0 13 rfl rfl)
theorem dJ0_isLatin1_14 : decode cJ0_isLatin1 14 = .ok (.goto 4, 3) := dk_167 0 4 (dk_at dksJ0_isLatin1_0 14 rfl rfl)
theorem dJ0_isLatin1_17 : decode cJ0_isLatin1 17 = .ok (.iconst 0, 1) := dk_3 (dk_at dksJ0_isLatin1_0 17 rfl rfl)
theorem dJ0_isLatin1_18 : decode cJ0_isLatin1 18 = .ok (.ireturn, 1) := dk_172 (dk_at dksJ0_isLatin1_0 18 rfl rfl)
abbrev cJ0_checkIndex : ByteArray := prog_6_method_155_code
def yJ0_checkIndex : MethodName := ⟨RJ0, "checkIndex", "(II)V"⟩
def dkwJ0_checkIndex_0 : List UInt8 := [26, 27, 178, 4, 29, 184, 4, 35, 87, 177]
abbrev dktJ0_checkIndex_0 : List UInt8 := dkwJ0_checkIndex_0 ++ []
theorem dksJ0_checkIndex_0 : cJ0_checkIndex.data.toList.drop 0 = dktJ0_checkIndex_0 := by decide +kernel
theorem dJ0_checkIndex_0 : decode cJ0_checkIndex 0 = .ok (.iload_n 0, 1) := dk_26 (dk_at dksJ0_checkIndex_0 0 rfl rfl)
theorem dJ0_checkIndex_1 : decode cJ0_checkIndex 1 = .ok (.iload_n 1, 1) := dk_27 (dk_at dksJ0_checkIndex_0 1 rfl rfl)
theorem dJ0_checkIndex_2 : decode cJ0_checkIndex 2 = .ok (.getstatic 1053, 3) := dk_178 4 29 (dk_at dksJ0_checkIndex_0 2 rfl rfl)
theorem dJ0_checkIndex_5 : decode cJ0_checkIndex 5 = .ok (.invokestatic 1059, 3) := dk_184 4 35 (dk_at dksJ0_checkIndex_0 5 rfl rfl)
theorem dJ0_checkIndex_8 : decode cJ0_checkIndex 8 = .ok (.pop, 1) := dk_87 (dk_at dksJ0_checkIndex_0 8 rfl rfl)
theorem dJ0_checkIndex_9 : decode cJ0_checkIndex 9 = .ok (.return_, 1) := dk_177 (dk_at dksJ0_checkIndex_0 9 rfl rfl)
theorem q18 : (Jvm.Cond.initialized "java/lang/String") ∈ lw_all := lw_g (lw_at lw_m1 3 rfl) rfl
theorem q35 : (Jvm.Cond.instantiable "java/lang/String" (4 : Nat)) ∈ lw_all := lw_g (lw_at lw_m1 20 rfl) rfl
theorem q37 : (Jvm.Cond.instanceMethod ({ cls := "java/lang/String", name := "<init>", desc := "([C)V" } : Jvm.MethodName)) ∈ lw_all := lw_g (lw_at lw_m1 22 rfl) rfl
theorem q38 : (Jvm.Cond.code ({ cls := "java/lang/String", name := "<init>", desc := "([C)V" } : Jvm.MethodName) prog_6_method_3_code (2 : Nat) (Option.none : Option Jvm.ClassFile.FieldType)) ∈ lw_all := lw_g (lw_at lw_m1 23 rfl) rfl
theorem q39 : (Jvm.Cond.methodLink "java/lang/String" (27 : Nat) ({ cls := "java/lang/String", name := "<init>", desc := "([CIILjava/lang/Void;)V" } : Jvm.MethodName)) ∈ lw_all := lw_g (lw_at lw_m1 24 rfl) rfl
theorem q40 : (Jvm.Cond.instanceMethod ({ cls := "java/lang/String", name := "<init>", desc := "([CIILjava/lang/Void;)V" } : Jvm.MethodName)) ∈ lw_all := lw_g (lw_at lw_m1 25 rfl) rfl
theorem q41 : (Jvm.Cond.code ({ cls := "java/lang/String", name := "<init>", desc := "([CIILjava/lang/Void;)V" } : Jvm.MethodName) prog_6_method_149_code (6 : Nat) (Option.none : Option Jvm.ClassFile.FieldType)) ∈ lw_all := lw_g (lw_at lw_m1 26 rfl) rfl
theorem q42 : (Jvm.Cond.methodLink "java/lang/String" (1 : Nat) ({ cls := "java/lang/Object", name := "<init>", desc := "()V" } : Jvm.MethodName)) ∈ lw_all := lw_g (lw_at lw_m1 27 rfl) rfl
theorem q43 : (Jvm.Cond.stringRef "java/lang/String" (7 : Nat) "") ∈ lw_tbl := lw_at lw_m1 28 rfl
theorem q44 : (Jvm.Cond.fieldLink "java/lang/String" (38 : Nat) "java/lang/String" "COMPACT_STRINGS" "Z") ∈ lw_all := lw_g (lw_at lw_m1 29 rfl) rfl
theorem q45 : (Jvm.Cond.laysStatic "java/lang/String" "COMPACT_STRINGS" "Z") ∈ lw_tbl := lw_at lw_m1 30 rfl
theorem q46 : (Jvm.Cond.methodLink "java/lang/String" (177 : Nat) ({ cls := "java/lang/StringUTF16", name := "compress", desc := "([CII)[B" } : Jvm.MethodName)) ∈ lw_all := lw_g (lw_at lw_m1 31 rfl) rfl
theorem q84 : (Jvm.Cond.static ({ cls := "java/lang/String", name := "checkBoundsOffCount", desc := "(III)I" } : Jvm.MethodName)) ∈ lw_all := lw_g (lw_at lw_m1 69 rfl) rfl
theorem q85 : (Jvm.Cond.code ({ cls := "java/lang/String", name := "checkBoundsOffCount", desc := "(III)I" } : Jvm.MethodName) prog_6_method_157_code (3 : Nat) (Option.some Jvm.ClassFile.FieldType.int)) ∈ lw_all := lw_g (lw_at lw_m1 70 rfl) rfl
theorem q86 : (Jvm.Cond.fieldLink "java/lang/String" (1053 : Nat) "jdk/internal/util/Preconditions" "SIOOBE_FORMATTER" "Ljava/util/function/BiFunction;") ∈ lw_all := lw_g (lw_at lw_m1 71 rfl) rfl
theorem q88 : (Jvm.Cond.methodLink "java/lang/String" (1065 : Nat) ({ cls := "jdk/internal/util/Preconditions", name := "checkFromIndexSize", desc := "(IIILjava/util/function/BiFunction;)I" } : Jvm.MethodName)) ∈ lw_all := lw_g (lw_at lw_m1 73 rfl) rfl
theorem q91 : (Jvm.Cond.methodLink "java/lang/String" (47 : Nat) ({ cls := "java/lang/StringUTF16", name := "coderFromArrayLen", desc := "([BI)B" } : Jvm.MethodName)) ∈ lw_all := lw_g (lw_at lw_m1 76 rfl) rfl
theorem q94 : (Jvm.Cond.methodLink "java/lang/String" (180 : Nat) ({ cls := "java/lang/StringUTF16", name := "toBytes", desc := "([CII)[B" } : Jvm.MethodName)) ∈ lw_all := lw_g (lw_at lw_m1 79 rfl) rfl
theorem q95 : (Jvm.Cond.fieldLink "java/lang/String" (9 : Nat) "java/lang/String" "value" "[B") ∈ lw_all := lw_g (lw_at lw_m1 80 rfl) rfl
theorem q96 : (Jvm.Cond.fieldLink "java/lang/String" (15 : Nat) "java/lang/String" "coder" "B") ∈ lw_all := lw_g (lw_at lw_m1 81 rfl) rfl
theorem q97 : (Jvm.Cond.laysFinal "java/lang/String" "java/lang/String" "value" "[B") ∈ lw_all := lw_g (lw_at lw_m1 82 rfl) rfl
theorem q98 : (Jvm.Cond.soleField "java/lang/String" "value") ∈ lw_all := lw_g (lw_at lw_m1 83 rfl) rfl
theorem q99 : (Jvm.Cond.laysFinal "java/lang/String" "java/lang/String" "coder" "B") ∈ lw_all := lw_g (lw_at lw_m1 84 rfl) rfl
theorem q100 : (Jvm.Cond.soleField "java/lang/String" "coder") ∈ lw_all := lw_g (lw_at lw_m1 85 rfl) rfl
theorem q101 : (Jvm.Cond.lays "java/lang/String" "java/lang/String" "hash" "I") ∈ lw_all := lw_g (lw_at lw_m1 86 rfl) rfl
theorem q102 : (Jvm.Cond.soleField "java/lang/String" "hash") ∈ lw_all := lw_g (lw_at lw_m1 87 rfl) rfl
theorem q103 : (Jvm.Cond.lays "java/lang/String" "java/lang/String" "hashIsZero" "Z") ∈ lw_all := lw_g (lw_at lw_m1 88 rfl) rfl
theorem q104 : (Jvm.Cond.soleField "java/lang/String" "hashIsZero") ∈ lw_all := lw_g (lw_at lw_m1 89 rfl) rfl
theorem q105 : (Jvm.Cond.superclass "java/lang/String" "java/lang/Object") ∈ lw_all := lw_g (lw_at lw_m1 90 rfl) rfl
theorem q163 : (Jvm.Cond.castable "java/lang/String" "java/lang/CharSequence") ∈ lw_tbl := lw_at lw_m1 148 rfl
theorem q164 : (Jvm.Cond.selects "java/lang/String" ({ cls := "java/lang/CharSequence", name := "charAt", desc := "(I)C" } : Jvm.MethodName) ({ cls := "java/lang/String", name := "charAt", desc := "(I)C" } : Jvm.MethodName)) ∈ lw_all := lw_g (lw_at lw_m1 149 rfl) rfl
theorem q165 : (Jvm.Cond.unhidden "java/lang/String" "charAt" "(I)C") ∈ lw_tbl := lw_at lw_m1 150 rfl
theorem q166 : (Jvm.Cond.instanceMethod ({ cls := "java/lang/String", name := "charAt", desc := "(I)C" } : Jvm.MethodName)) ∈ lw_all := lw_g (lw_at lw_m1 151 rfl) rfl
theorem q167 : (Jvm.Cond.publicMethod ({ cls := "java/lang/String", name := "charAt", desc := "(I)C" } : Jvm.MethodName)) ∈ lw_tbl := lw_at lw_m1 152 rfl
theorem q168 : (Jvm.Cond.code ({ cls := "java/lang/String", name := "charAt", desc := "(I)C" } : Jvm.MethodName) prog_6_method_56_code (2 : Nat) (Option.some Jvm.ClassFile.FieldType.char)) ∈ lw_all := lw_g (lw_at lw_m1 153 rfl) rfl
theorem q169 : (Jvm.Cond.methodLink "java/lang/String" (492 : Nat) ({ cls := "java/lang/String", name := "isLatin1", desc := "()Z" } : Jvm.MethodName)) ∈ lw_all := lw_g (lw_at lw_m1 154 rfl) rfl
theorem q170 : (Jvm.Cond.instanceMethod ({ cls := "java/lang/String", name := "isLatin1", desc := "()Z" } : Jvm.MethodName)) ∈ lw_all := lw_g (lw_at lw_m1 155 rfl) rfl
theorem q171 : (Jvm.Cond.selects "java/lang/String" ({ cls := "java/lang/String", name := "isLatin1", desc := "()Z" } : Jvm.MethodName) ({ cls := "java/lang/String", name := "isLatin1", desc := "()Z" } : Jvm.MethodName)) ∈ lw_all := lw_g (lw_at lw_m1 156 rfl) rfl
theorem q172 : (Jvm.Cond.code ({ cls := "java/lang/String", name := "isLatin1", desc := "()Z" } : Jvm.MethodName) prog_6_method_154_code (1 : Nat) (Option.some Jvm.ClassFile.FieldType.boolean)) ∈ lw_all := lw_g (lw_at lw_m1 157 rfl) rfl
theorem q173 : (Jvm.Cond.methodLink "java/lang/String" (495 : Nat) ({ cls := "java/lang/StringLatin1", name := "charAt", desc := "([BI)C" } : Jvm.MethodName)) ∈ lw_all := lw_g (lw_at lw_m1 158 rfl) rfl
theorem q177 : (Jvm.Cond.static ({ cls := "java/lang/String", name := "checkIndex", desc := "(II)V" } : Jvm.MethodName)) ∈ lw_all := lw_g (lw_at lw_m1 162 rfl) rfl
theorem q178 : (Jvm.Cond.code ({ cls := "java/lang/String", name := "checkIndex", desc := "(II)V" } : Jvm.MethodName) prog_6_method_155_code (2 : Nat) (Option.none : Option Jvm.ClassFile.FieldType)) ∈ lw_all := lw_g (lw_at lw_m1 163 rfl) rfl
theorem q179 : (Jvm.Cond.methodLink "java/lang/String" (1059 : Nat) ({ cls := "jdk/internal/util/Preconditions", name := "checkIndex", desc := "(IILjava/util/function/BiFunction;)I" } : Jvm.MethodName)) ∈ lw_all := lw_g (lw_at lw_m1 164 rfl) rfl
theorem q182 : (Jvm.Cond.methodLink "java/lang/String" (498 : Nat) ({ cls := "java/lang/StringUTF16", name := "charAt", desc := "([BI)C" } : Jvm.MethodName)) ∈ lw_all := lw_g (lw_at lw_m1 167 rfl) rfl
theorem in_J0 : ∀ w ∈ wsJ00, w ∈ lw_all := lw_in wsJ00 [97, 99, 101, 103] (by decide +kernel) (by decide +kernel)

/-! java/lang/StringUTF16 -/
set_option maxRecDepth 100000
def RJ1 : String := "java/lang/StringUTF16"
abbrev cJ1_compress : ByteArray := prog_8_method_16_code
def yJ1_compress : MethodName := ⟨RJ1, "compress", "([CII)[B"⟩
def dkwJ1_compress_2 : List UInt8 := [184, 0, 123, 28, 159, 0, 6, 25, 5, 176, 45, 176]
abbrev dktJ1_compress_2 : List UInt8 := dkwJ1_compress_2 ++ []
def dkwJ1_compress_1 : List UInt8 := [184, 0, 119, 58, 5, 25, 5, 21, 4, 184, 0, 71, 17, 0, 255, 163, 0, 16, 25, 5, 3, 45, 3, 28]
abbrev dktJ1_compress_1 : List UInt8 := dkwJ1_compress_1 ++ dktJ1_compress_2
def dkwJ1_compress_0 : List UInt8 := [28, 188, 8, 78, 42, 27, 45, 3, 28, 184, 0, 115, 54, 4, 21, 4, 28, 159, 0, 40, 42, 27, 28]
abbrev dktJ1_compress_0 : List UInt8 := dkwJ1_compress_0 ++ dktJ1_compress_1
theorem dksJ1_compress_0 : cJ1_compress.data.toList.drop 0 = dktJ1_compress_0 := by decide +kernel
theorem dksJ1_compress_1 : cJ1_compress.data.toList.drop 23 = dktJ1_compress_1 := dk_seg dksJ1_compress_0 23 rfl rfl
theorem dksJ1_compress_2 : cJ1_compress.data.toList.drop 47 = dktJ1_compress_2 := dk_seg dksJ1_compress_1 24 rfl rfl
theorem dJ1_compress_0 : decode cJ1_compress 0 = .ok (.iload_n 2, 1) := dk_28 (dk_at dksJ1_compress_0 0 rfl rfl)
theorem dJ1_compress_1 : decode cJ1_compress 1 = .ok (.newarray .byte, 2) := dk_188_8 (dk_at dksJ1_compress_0 1 rfl rfl)
theorem dJ1_compress_3 : decode cJ1_compress 3 = .ok (.astore_n 3, 1) := dk_78 (dk_at dksJ1_compress_0 3 rfl rfl)
theorem dJ1_compress_4 : decode cJ1_compress 4 = .ok (.aload_n 0, 1) := dk_42 (dk_at dksJ1_compress_0 4 rfl rfl)
theorem dJ1_compress_5 : decode cJ1_compress 5 = .ok (.iload_n 1, 1) := dk_27 (dk_at dksJ1_compress_0 5 rfl rfl)
theorem dJ1_compress_6 : decode cJ1_compress 6 = .ok (.aload_n 3, 1) := dk_45 (dk_at dksJ1_compress_0 6 rfl rfl)
theorem dJ1_compress_7 : decode cJ1_compress 7 = .ok (.iconst 0, 1) := dk_3 (dk_at dksJ1_compress_0 7 rfl rfl)
theorem dJ1_compress_8 : decode cJ1_compress 8 = .ok (.iload_n 2, 1) := dk_28 (dk_at dksJ1_compress_0 8 rfl rfl)
theorem dJ1_compress_9 : decode cJ1_compress 9 = .ok (.invokestatic 115, 3) := dk_184 0 115 (dk_at dksJ1_compress_0 9 rfl rfl)
theorem dJ1_compress_12 : decode cJ1_compress 12 = .ok (.istore 4, 2) := dk_54 4 (dk_at dksJ1_compress_0 12 rfl rfl)
theorem dJ1_compress_14 : decode cJ1_compress 14 = .ok (.iload 4, 2) := dk_21 4 (dk_at dksJ1_compress_0 14 rfl rfl)
theorem dJ1_compress_16 : decode cJ1_compress 16 = .ok (.iload_n 2, 1) := dk_28 (dk_at dksJ1_compress_0 16 rfl rfl)
theorem dJ1_compress_17 : decode cJ1_compress 17 = .ok (.if_icmp .eq 40, 3) := dk_159 0 40 (dk_at dksJ1_compress_0 17 rfl rfl)
theorem dJ1_compress_20 : decode cJ1_compress 20 = .ok (.aload_n 0, 1) := dk_42 (dk_at dksJ1_compress_0 20 rfl rfl)
theorem dJ1_compress_21 : decode cJ1_compress 21 = .ok (.iload_n 1, 1) := dk_27 (dk_at dksJ1_compress_0 21 rfl rfl)
theorem dJ1_compress_22 : decode cJ1_compress 22 = .ok (.iload_n 2, 1) := dk_28 (dk_at dksJ1_compress_0 22 rfl rfl)
theorem dJ1_compress_23 : decode cJ1_compress 23 = .ok (.invokestatic 119, 3) := dk_184 0 119 (dk_at dksJ1_compress_1 0 rfl rfl)
theorem dJ1_compress_26 : decode cJ1_compress 26 = .ok (.astore 5, 2) := dk_58 5 (dk_at dksJ1_compress_1 3 rfl rfl)
theorem dJ1_compress_28 : decode cJ1_compress 28 = .ok (.aload 5, 2) := dk_25 5 (dk_at dksJ1_compress_1 5 rfl rfl)
theorem dJ1_compress_30 : decode cJ1_compress 30 = .ok (.iload 4, 2) := dk_21 4 (dk_at dksJ1_compress_1 7 rfl rfl)
theorem dJ1_compress_32 : decode cJ1_compress 32 = .ok (.invokestatic 71, 3) := dk_184 0 71 (dk_at dksJ1_compress_1 9 rfl rfl)
theorem dJ1_compress_35 : decode cJ1_compress 35 = .ok (.sipush 255, 3) := dk_17 0 255 (dk_at dksJ1_compress_1 12 rfl rfl)
theorem dJ1_compress_38 : decode cJ1_compress 38 = .ok (.if_icmp .gt 16, 3) := dk_163 0 16 (dk_at dksJ1_compress_1 15 rfl rfl)
theorem dJ1_compress_41 : decode cJ1_compress 41 = .ok (.aload 5, 2) := dk_25 5 (dk_at dksJ1_compress_1 18 rfl rfl)
theorem dJ1_compress_43 : decode cJ1_compress 43 = .ok (.iconst 0, 1) := dk_3 (dk_at dksJ1_compress_1 20 rfl rfl)
theorem dJ1_compress_44 : decode cJ1_compress 44 = .ok (.aload_n 3, 1) := dk_45 (dk_at dksJ1_compress_1 21 rfl rfl)
theorem dJ1_compress_45 : decode cJ1_compress 45 = .ok (.iconst 0, 1) := dk_3 (dk_at dksJ1_compress_1 22 rfl rfl)
theorem dJ1_compress_46 : decode cJ1_compress 46 = .ok (.iload_n 2, 1) := dk_28 (dk_at dksJ1_compress_1 23 rfl rfl)
theorem dJ1_compress_47 : decode cJ1_compress 47 = .ok (.invokestatic 123, 3) := dk_184 0 123 (dk_at dksJ1_compress_2 0 rfl rfl)
theorem dJ1_compress_50 : decode cJ1_compress 50 = .ok (.iload_n 2, 1) := dk_28 (dk_at dksJ1_compress_2 3 rfl rfl)
theorem dJ1_compress_51 : decode cJ1_compress 51 = .ok (.if_icmp .eq 6, 3) := dk_159 0 6 (dk_at dksJ1_compress_2 4 rfl rfl)
theorem dJ1_compress_54 : decode cJ1_compress 54 = .ok (.aload 5, 2) := dk_25 5 (dk_at dksJ1_compress_2 7 rfl rfl)
theorem dJ1_compress_56 : decode cJ1_compress 56 = .ok (.areturn, 1) := dk_176 (dk_at dksJ1_compress_2 9 rfl rfl)
theorem dJ1_compress_57 : decode cJ1_compress 57 = .ok (.aload_n 3, 1) := dk_45 (dk_at dksJ1_compress_2 10 rfl rfl)
theorem dJ1_compress_58 : decode cJ1_compress 58 = .ok (.areturn, 1) := dk_176 (dk_at dksJ1_compress_2 11 rfl rfl)
abbrev cJ1_compress_2 : ByteArray := prog_8_method_21_code
def yJ1_compress_2 : MethodName := ⟨RJ1, "compress", "([CI[BII)I"⟩
def dkwJ1_compress_2_1 : List UInt8 := [21, 5, 172, 44, 29, 21, 6, 145, 84, 132, 1, 1, 132, 3, 1, 132, 5, 1, 167, 255, 218, 21, 4, 172]
abbrev dktJ1_compress_2_1 : List UInt8 := dkwJ1_compress_2_1 ++ []
def dkwJ1_compress_2_0 : List UInt8 := [3, 54, 5, 21, 5, 21, 4, 162, 0, 37, 42, 27, 52, 54, 6, 21, 6, 17, 0, 255, 164, 0, 6]
abbrev dktJ1_compress_2_0 : List UInt8 := dkwJ1_compress_2_0 ++ dktJ1_compress_2_1
theorem dksJ1_compress_2_0 : cJ1_compress_2.data.toList.drop 0 = dktJ1_compress_2_0 := by decide +kernel
theorem dksJ1_compress_2_1 : cJ1_compress_2.data.toList.drop 23 = dktJ1_compress_2_1 := dk_seg dksJ1_compress_2_0 23 rfl rfl
theorem dJ1_compress_2_0 : decode cJ1_compress_2 0 = .ok (.iconst 0, 1) := dk_3 (dk_at dksJ1_compress_2_0 0 rfl rfl)
theorem dJ1_compress_2_1 : decode cJ1_compress_2 1 = .ok (.istore 5, 2) := dk_54 5 (dk_at dksJ1_compress_2_0 1 rfl rfl)
theorem dJ1_compress_2_3 : decode cJ1_compress_2 3 = .ok (.iload 5, 2) := dk_21 5 (dk_at dksJ1_compress_2_0 3 rfl rfl)
theorem dJ1_compress_2_5 : decode cJ1_compress_2 5 = .ok (.iload 4, 2) := dk_21 4 (dk_at dksJ1_compress_2_0 5 rfl rfl)
theorem dJ1_compress_2_7 : decode cJ1_compress_2 7 = .ok (.if_icmp .ge 37, 3) := dk_162 0 37 (dk_at dksJ1_compress_2_0 7 rfl rfl)
theorem dJ1_compress_2_10 : decode cJ1_compress_2 10 = .ok (.aload_n 0, 1) := dk_42 (dk_at dksJ1_compress_2_0 10 rfl rfl)
theorem dJ1_compress_2_11 : decode cJ1_compress_2 11 = .ok (.iload_n 1, 1) := dk_27 (dk_at dksJ1_compress_2_0 11 rfl rfl)
theorem dJ1_compress_2_12 : decode cJ1_compress_2 12 = .ok (.caload, 1) := dk_52 (dk_at dksJ1_compress_2_0 12 rfl rfl)
theorem dJ1_compress_2_13 : decode cJ1_compress_2 13 = .ok (.istore 6, 2) := dk_54 6 (dk_at dksJ1_compress_2_0 13 rfl rfl)
theorem dJ1_compress_2_15 : decode cJ1_compress_2 15 = .ok (.iload 6, 2) := dk_21 6 (dk_at dksJ1_compress_2_0 15 rfl rfl)
theorem dJ1_compress_2_17 : decode cJ1_compress_2 17 = .ok (.sipush 255, 3) := dk_17 0 255 (dk_at dksJ1_compress_2_0 17 rfl rfl)
theorem dJ1_compress_2_20 : decode cJ1_compress_2 20 = .ok (.if_icmp .le 6, 3) := dk_164 0 6 (dk_at dksJ1_compress_2_0 20 rfl rfl)
theorem dJ1_compress_2_23 : decode cJ1_compress_2 23 = .ok (.iload 5, 2) := dk_21 5 (dk_at dksJ1_compress_2_1 0 rfl rfl)
theorem dJ1_compress_2_25 : decode cJ1_compress_2 25 = .ok (.ireturn, 1) := dk_172 (dk_at dksJ1_compress_2_1 2 rfl rfl)
theorem dJ1_compress_2_26 : decode cJ1_compress_2 26 = .ok (.aload_n 2, 1) := dk_44 (dk_at dksJ1_compress_2_1 3 rfl rfl)
theorem dJ1_compress_2_27 : decode cJ1_compress_2 27 = .ok (.iload_n 3, 1) := dk_29 (dk_at dksJ1_compress_2_1 4 rfl rfl)
theorem dJ1_compress_2_28 : decode cJ1_compress_2 28 = .ok (.iload 6, 2) := dk_21 6 (dk_at dksJ1_compress_2_1 5 rfl rfl)
theorem dJ1_compress_2_30 : decode cJ1_compress_2 30 = .ok (.i2b, 1) := dk_145 (dk_at dksJ1_compress_2_1 7 rfl rfl)
theorem dJ1_compress_2_31 : decode cJ1_compress_2 31 = .ok (.bastore, 1) := dk_84 (dk_at dksJ1_compress_2_1 8 rfl rfl)
theorem dJ1_compress_2_32 : decode cJ1_compress_2 32 = .ok (.iinc 1 1, 3) := dk_132 1 1 (dk_at dksJ1_compress_2_1 9 rfl rfl)
theorem dJ1_compress_2_35 : decode cJ1_compress_2 35 = .ok (.iinc 3 1, 3) := dk_132 3 1 (dk_at dksJ1_compress_2_1 12 rfl rfl)
theorem dJ1_compress_2_38 : decode cJ1_compress_2 38 = .ok (.iinc 5 1, 3) := dk_132 5 1 (dk_at dksJ1_compress_2_1 15 rfl rfl)
theorem dJ1_compress_2_41 : decode cJ1_compress_2 41 = .ok (.goto (-38), 3) := dk_167 255 218 (dk_at dksJ1_compress_2_1 18 rfl rfl)
theorem dJ1_compress_2_44 : decode cJ1_compress_2 44 = .ok (.iload 4, 2) := dk_21 4 (dk_at dksJ1_compress_2_1 21 rfl rfl)
theorem dJ1_compress_2_46 : decode cJ1_compress_2 46 = .ok (.ireturn, 1) := dk_172 (dk_at dksJ1_compress_2_1 23 rfl rfl)
abbrev cJ1_toBytes : ByteArray := prog_8_method_14_code
def yJ1_toBytes : MethodName := ⟨RJ1, "toBytes", "([CII)[B"⟩
def dkwJ1_toBytes_1 : List UInt8 := [132, 1, 1, 132, 4, 1, 167, 255, 235, 45, 176]
abbrev dktJ1_toBytes_1 : List UInt8 := dkwJ1_toBytes_1 ++ []
def dkwJ1_toBytes_0 : List UInt8 := [28, 184, 0, 107, 78, 3, 54, 4, 21, 4, 28, 162, 0, 21, 45, 21, 4, 42, 27, 52, 184, 0, 111]
abbrev dktJ1_toBytes_0 : List UInt8 := dkwJ1_toBytes_0 ++ dktJ1_toBytes_1
theorem dksJ1_toBytes_0 : cJ1_toBytes.data.toList.drop 0 = dktJ1_toBytes_0 := by decide +kernel
theorem dksJ1_toBytes_1 : cJ1_toBytes.data.toList.drop 23 = dktJ1_toBytes_1 := dk_seg dksJ1_toBytes_0 23 rfl rfl
theorem dJ1_toBytes_0 : decode cJ1_toBytes 0 = .ok (.iload_n 2, 1) := dk_28 (dk_at dksJ1_toBytes_0 0 rfl rfl)
theorem dJ1_toBytes_1 : decode cJ1_toBytes 1 = .ok (.invokestatic 107, 3) := dk_184 0 107 (dk_at dksJ1_toBytes_0 1 rfl rfl)
theorem dJ1_toBytes_4 : decode cJ1_toBytes 4 = .ok (.astore_n 3, 1) := dk_78 (dk_at dksJ1_toBytes_0 4 rfl rfl)
theorem dJ1_toBytes_5 : decode cJ1_toBytes 5 = .ok (.iconst 0, 1) := dk_3 (dk_at dksJ1_toBytes_0 5 rfl rfl)
theorem dJ1_toBytes_6 : decode cJ1_toBytes 6 = .ok (.istore 4, 2) := dk_54 4 (dk_at dksJ1_toBytes_0 6 rfl rfl)
theorem dJ1_toBytes_8 : decode cJ1_toBytes 8 = .ok (.iload 4, 2) := dk_21 4 (dk_at dksJ1_toBytes_0 8 rfl rfl)
theorem dJ1_toBytes_10 : decode cJ1_toBytes 10 = .ok (.iload_n 2, 1) := dk_28 (dk_at dksJ1_toBytes_0 10 rfl rfl)
theorem dJ1_toBytes_11 : decode cJ1_toBytes 11 = .ok (.if_icmp .ge 21, 3) := dk_162 0 21 (dk_at dksJ1_toBytes_0 11 rfl rfl)
theorem dJ1_toBytes_14 : decode cJ1_toBytes 14 = .ok (.aload_n 3, 1) := dk_45 (dk_at dksJ1_toBytes_0 14 rfl rfl)
theorem dJ1_toBytes_15 : decode cJ1_toBytes 15 = .ok (.iload 4, 2) := dk_21 4 (dk_at dksJ1_toBytes_0 15 rfl rfl)
theorem dJ1_toBytes_17 : decode cJ1_toBytes 17 = .ok (.aload_n 0, 1) := dk_42 (dk_at dksJ1_toBytes_0 17 rfl rfl)
theorem dJ1_toBytes_18 : decode cJ1_toBytes 18 = .ok (.iload_n 1, 1) := dk_27 (dk_at dksJ1_toBytes_0 18 rfl rfl)
theorem dJ1_toBytes_19 : decode cJ1_toBytes 19 = .ok (.caload, 1) := dk_52 (dk_at dksJ1_toBytes_0 19 rfl rfl)
theorem dJ1_toBytes_20 : decode cJ1_toBytes 20 = .ok (.invokestatic 111, 3) := dk_184 0 111 (dk_at dksJ1_toBytes_0 20 rfl rfl)
theorem dJ1_toBytes_23 : decode cJ1_toBytes 23 = .ok (.iinc 1 1, 3) := dk_132 1 1 (dk_at dksJ1_toBytes_1 0 rfl rfl)
theorem dJ1_toBytes_26 : decode cJ1_toBytes 26 = .ok (.iinc 4 1, 3) := dk_132 4 1 (dk_at dksJ1_toBytes_1 3 rfl rfl)
theorem dJ1_toBytes_29 : decode cJ1_toBytes 29 = .ok (.goto (-21), 3) := dk_167 255 235 (dk_at dksJ1_toBytes_1 6 rfl rfl)
theorem dJ1_toBytes_32 : decode cJ1_toBytes 32 = .ok (.aload_n 3, 1) := dk_45 (dk_at dksJ1_toBytes_1 9 rfl rfl)
theorem dJ1_toBytes_33 : decode cJ1_toBytes 33 = .ok (.areturn, 1) := dk_176 (dk_at dksJ1_toBytes_1 10 rfl rfl)
abbrev cJ1_newBytesFor : ByteArray := prog_8_method_2_code
def yJ1_newBytesFor : MethodName := ⟨RJ1, "newBytesFor", "(I)[B"⟩
def dkwJ1_newBytesFor_0 : List UInt8 := [26, 184, 0, 11, 188, 8, 176]
abbrev dktJ1_newBytesFor_0 : List UInt8 := dkwJ1_newBytesFor_0 ++ []
theorem dksJ1_newBytesFor_0 : cJ1_newBytesFor.data.toList.drop 0 = dktJ1_newBytesFor_0 := by decide +kernel
theorem dJ1_newBytesFor_0 : decode cJ1_newBytesFor 0 = .ok (.iload_n 0, 1) := dk_26 (dk_at dksJ1_newBytesFor_0 0 rfl rfl)
theorem dJ1_newBytesFor_1 : decode cJ1_newBytesFor 1 = .ok (.invokestatic 11, 3) := dk_184 0 11 (dk_at dksJ1_newBytesFor_0 1 rfl rfl)
theorem dJ1_newBytesFor_4 : decode cJ1_newBytesFor 4 = .ok (.newarray .byte, 2) := dk_188_8 (dk_at dksJ1_newBytesFor_0 4 rfl rfl)
theorem dJ1_newBytesFor_6 : decode cJ1_newBytesFor 6 = .ok (.areturn, 1) := dk_176 (dk_at dksJ1_newBytesFor_0 6 rfl rfl)
abbrev cJ1_newBytesLength : ByteArray := prog_8_method_3_code
def yJ1_newBytesLength : MethodName := ⟨RJ1, "newBytesLength", "(I)I"⟩
def dkwJ1_newBytesLength_2 : List UInt8 := [182, 0, 32, 182, 0, 37, 183, 0, 41, 191, 26, 4, 120, 172]
abbrev dktJ1_newBytesLength_2 : List UInt8 := dkwJ1_newBytesLength_2 ++ []
def dkwJ1_newBytesLength_1 : List UInt8 := [187, 0, 23, 89, 183, 0, 25, 18, 26, 182, 0, 28, 26, 182, 0, 32, 18, 35, 182, 0, 28, 18, 20]
abbrev dktJ1_newBytesLength_1 : List UInt8 := dkwJ1_newBytesLength_1 ++ dktJ1_newBytesLength_2
def dkwJ1_newBytesLength_0 : List UInt8 := [26, 156, 0, 11, 187, 0, 17, 89, 183, 0, 19, 191, 26, 18, 20, 161, 0, 40, 187, 0, 21, 89]
abbrev dktJ1_newBytesLength_0 : List UInt8 := dkwJ1_newBytesLength_0 ++ dktJ1_newBytesLength_1
theorem dksJ1_newBytesLength_0 : cJ1_newBytesLength.data.toList.drop 0 = dktJ1_newBytesLength_0 := by decide +kernel
theorem dksJ1_newBytesLength_1 : cJ1_newBytesLength.data.toList.drop 22 = dktJ1_newBytesLength_1 := dk_seg dksJ1_newBytesLength_0 22 rfl rfl
theorem dksJ1_newBytesLength_2 : cJ1_newBytesLength.data.toList.drop 45 = dktJ1_newBytesLength_2 := dk_seg dksJ1_newBytesLength_1 23 rfl rfl
theorem dJ1_newBytesLength_0 : decode cJ1_newBytesLength 0 = .ok (.iload_n 0, 1) := dk_26 (dk_at dksJ1_newBytesLength_0 0 rfl rfl)
theorem dJ1_newBytesLength_1 : decode cJ1_newBytesLength 1 = .ok (.ifCond .ge 11, 3) := dk_156 0 11 (dk_at dksJ1_newBytesLength_0 1 rfl rfl)
theorem dJ1_newBytesLength_4 : decode cJ1_newBytesLength 4 = .ok (.new 17, 3) := dk_187 0 17 (dk_at dksJ1_newBytesLength_0 4 rfl rfl)
theorem dJ1_newBytesLength_7 : decode cJ1_newBytesLength 7 = .ok (.dup, 1) := dk_89 (dk_at dksJ1_newBytesLength_0 7 rfl rfl)
theorem dJ1_newBytesLength_8 : decode cJ1_newBytesLength 8 = .ok (.invokespecial 19, 3) := dk_183 0 19 (dk_at dksJ1_newBytesLength_0 8 rfl rfl)
theorem dJ1_newBytesLength_11 : decode cJ1_newBytesLength 11 = .ok (.athrow, 1) := dk_191 (dk_at dksJ1_newBytesLength_0 11 rfl rfl)
theorem dJ1_newBytesLength_12 : decode cJ1_newBytesLength 12 = .ok (.iload_n 0, 1) := dk_26 (dk_at dksJ1_newBytesLength_0 12 rfl rfl)
theorem dJ1_newBytesLength_13 : decode cJ1_newBytesLength 13 = .ok (.ldc 20, 2) := dk_18 20 (dk_at dksJ1_newBytesLength_0 13 rfl rfl)
theorem dJ1_newBytesLength_15 : decode cJ1_newBytesLength 15 = .ok (.if_icmp .lt 40, 3) := dk_161 0 40 (dk_at dksJ1_newBytesLength_0 15 rfl rfl)
theorem dJ1_newBytesLength_18 : decode cJ1_newBytesLength 18 = .ok (.new 21, 3) := dk_187 0 21 (dk_at dksJ1_newBytesLength_0 18 rfl rfl)
theorem dJ1_newBytesLength_21 : decode cJ1_newBytesLength 21 = .ok (.dup, 1) := dk_89 (dk_at dksJ1_newBytesLength_0 21 rfl rfl)
theorem dJ1_newBytesLength_22 : decode cJ1_newBytesLength 22 = .ok (.new 23, 3) := dk_187 0 23 (dk_at dksJ1_newBytesLength_1 0 rfl rfl)
theorem dJ1_newBytesLength_25 : decode cJ1_newBytesLength 25 = .ok (.dup, 1) := dk_89 (dk_at dksJ1_newBytesLength_1 3 rfl rfl)
theorem dJ1_newBytesLength_26 : decode cJ1_newBytesLength 26 = .ok (.invokespecial 25, 3) := dk_183 0 25 (dk_at dksJ1_newBytesLength_1 4 rfl rfl)
theorem dJ1_newBytesLength_29 : decode cJ1_newBytesLength 29 = .ok (.ldc 26, 2) := dk_18 26 (dk_at dksJ1_newBytesLength_1 7 rfl rfl)
theorem dJ1_newBytesLength_31 : decode cJ1_newBytesLength 31 = .ok (.invokevirtual 28, 3) := dk_182 0 28 (dk_at dksJ1_newBytesLength_1 9 rfl rfl)
theorem dJ1_newBytesLength_34 : decode cJ1_newBytesLength 34 = .ok (.iload_n 0, 1) := dk_26 (dk_at dksJ1_newBytesLength_1 12 rfl rfl)
theorem dJ1_newBytesLength_35 : decode cJ1_newBytesLength 35 = .ok (.invokevirtual 32, 3) := dk_182 0 32 (dk_at dksJ1_newBytesLength_1 13 rfl rfl)
theorem dJ1_newBytesLength_38 : decode cJ1_newBytesLength 38 = .ok (.ldc 35, 2) := dk_18 35 (dk_at dksJ1_newBytesLength_1 16 rfl rfl)
theorem dJ1_newBytesLength_40 : decode cJ1_newBytesLength 40 = .ok (.invokevirtual 28, 3) := dk_182 0 28 (dk_at dksJ1_newBytesLength_1 18 rfl rfl)
theorem dJ1_newBytesLength_43 : decode cJ1_newBytesLength 43 = .ok (.ldc 20, 2) := dk_18 20 (dk_at dksJ1_newBytesLength_1 21 rfl rfl)
theorem dJ1_newBytesLength_45 : decode cJ1_newBytesLength 45 = .ok (.invokevirtual 32, 3) := dk_182 0 32 (dk_at dksJ1_newBytesLength_2 0 rfl rfl)
theorem dJ1_newBytesLength_48 : decode cJ1_newBytesLength 48 = .ok (.invokevirtual 37, 3) := dk_182 0 37 (dk_at dksJ1_newBytesLength_2 3 rfl rfl)
theorem dJ1_newBytesLength_51 : decode cJ1_newBytesLength 51 = .ok (.invokespecial 41, 3) := dk_183 0 41 (dk_at dksJ1_newBytesLength_2 6 rfl rfl)
theorem dJ1_newBytesLength_54 : decode cJ1_newBytesLength 54 = .ok (.athrow, 1) := dk_191 (dk_at dksJ1_newBytesLength_2 9 rfl rfl)
theorem dJ1_newBytesLength_55 : decode cJ1_newBytesLength 55 = .ok (.iload_n 0, 1) := dk_26 (dk_at dksJ1_newBytesLength_2 10 rfl rfl)
theorem dJ1_newBytesLength_56 : decode cJ1_newBytesLength 56 = .ok (.iconst 1, 1) := dk_4 (dk_at dksJ1_newBytesLength_2 11 rfl rfl)
theorem dJ1_newBytesLength_57 : decode cJ1_newBytesLength 57 = .ok (.ishl, 1) := dk_120 (dk_at dksJ1_newBytesLength_2 12 rfl rfl)
theorem dJ1_newBytesLength_58 : decode cJ1_newBytesLength 58 = .ok (.ireturn, 1) := dk_172 (dk_at dksJ1_newBytesLength_2 13 rfl rfl)
abbrev cJ1_putChar : ByteArray := prog_8_method_4_code
def yJ1_putChar : MethodName := ⟨RJ1, "putChar", "([BII)V"⟩
def dkwJ1_putChar_2 : List UInt8 := [178, 0, 63, 122, 145, 84, 177]
abbrev dktJ1_putChar_2 : List UInt8 := dkwJ1_putChar_2 ++ []
def dkwJ1_putChar_1 : List UInt8 := [183, 0, 56, 191, 27, 4, 120, 60, 42, 27, 132, 1, 1, 28, 178, 0, 59, 122, 145, 84, 42, 27, 28]
abbrev dktJ1_putChar_1 : List UInt8 := dkwJ1_putChar_1 ++ dktJ1_putChar_2
def dkwJ1_putChar_0 : List UInt8 := [178, 0, 44, 154, 0, 25, 27, 155, 0, 11, 27, 42, 184, 0, 48, 161, 0, 13, 187, 0, 52, 89, 18, 54]
abbrev dktJ1_putChar_0 : List UInt8 := dkwJ1_putChar_0 ++ dktJ1_putChar_1
theorem dksJ1_putChar_0 : cJ1_putChar.data.toList.drop 0 = dktJ1_putChar_0 := by decide +kernel
theorem dksJ1_putChar_1 : cJ1_putChar.data.toList.drop 24 = dktJ1_putChar_1 := dk_seg dksJ1_putChar_0 24 rfl rfl
theorem dksJ1_putChar_2 : cJ1_putChar.data.toList.drop 47 = dktJ1_putChar_2 := dk_seg dksJ1_putChar_1 23 rfl rfl
theorem dJ1_putChar_0 : decode cJ1_putChar 0 = .ok (.getstatic 44, 3) := dk_178 0 44 (dk_at dksJ1_putChar_0 0 rfl rfl)
theorem dJ1_putChar_3 : decode cJ1_putChar 3 = .ok (.ifCond .ne 25, 3) := dk_154 0 25 (dk_at dksJ1_putChar_0 3 rfl rfl)
theorem dJ1_putChar_6 : decode cJ1_putChar 6 = .ok (.iload_n 1, 1) := dk_27 (dk_at dksJ1_putChar_0 6 rfl rfl)
theorem dJ1_putChar_7 : decode cJ1_putChar 7 = .ok (.ifCond .lt 11, 3) := dk_155 0 11 (dk_at dksJ1_putChar_0 7 rfl rfl)
theorem dJ1_putChar_10 : decode cJ1_putChar 10 = .ok (.iload_n 1, 1) := dk_27 (dk_at dksJ1_putChar_0 10 rfl rfl)
theorem dJ1_putChar_11 : decode cJ1_putChar 11 = .ok (.aload_n 0, 1) := dk_42 (dk_at dksJ1_putChar_0 11 rfl rfl)
theorem dJ1_putChar_12 : decode cJ1_putChar 12 = .ok (.invokestatic 48, 3) := dk_184 0 48 (dk_at dksJ1_putChar_0 12 rfl rfl)
theorem dJ1_putChar_15 : decode cJ1_putChar 15 = .ok (.if_icmp .lt 13, 3) := dk_161 0 13 (dk_at dksJ1_putChar_0 15 rfl rfl)
theorem dJ1_putChar_18 : decode cJ1_putChar 18 = .ok (.new 52, 3) := dk_187 0 52 (dk_at dksJ1_putChar_0 18 rfl rfl)
theorem dJ1_putChar_21 : decode cJ1_putChar 21 = .ok (.dup, 1) := dk_89 (dk_at dksJ1_putChar_0 21 rfl rfl)
theorem dJ1_putChar_22 : decode cJ1_putChar 22 = .ok (.ldc 54, 2) := dk_18 54 (dk_at dksJ1_putChar_0 22 rfl rfl)
theorem dJ1_putChar_24 : decode cJ1_putChar 24 = .ok (.invokespecial 56, 3) := dk_183 0 56 (dk_at dksJ1_putChar_1 0 rfl rfl)
theorem dJ1_putChar_27 : decode cJ1_putChar 27 = .ok (.athrow, 1) := dk_191 (dk_at dksJ1_putChar_1 3 rfl rfl)
theorem dJ1_putChar_28 : decode cJ1_putChar 28 = .ok (.iload_n 1, 1) := dk_27 (dk_at dksJ1_putChar_1 4 rfl rfl)
theorem dJ1_putChar_29 : decode cJ1_putChar 29 = .ok (.iconst 1, 1) := dk_4 (dk_at dksJ1_putChar_1 5 rfl rfl)
theorem dJ1_putChar_30 : decode cJ1_putChar 30 = .ok (.ishl, 1) := dk_120 (dk_at dksJ1_putChar_1 6 rfl rfl)
theorem dJ1_putChar_31 : decode cJ1_putChar 31 = .ok (.istore_n 1, 1) := dk_60 (dk_at dksJ1_putChar_1 7 rfl rfl)
theorem dJ1_putChar_32 : decode cJ1_putChar 32 = .ok (.aload_n 0, 1) := dk_42 (dk_at dksJ1_putChar_1 8 rfl rfl)
theorem dJ1_putChar_33 : decode cJ1_putChar 33 = .ok (.iload_n 1, 1) := dk_27 (dk_at dksJ1_putChar_1 9 rfl rfl)
theorem dJ1_putChar_34 : decode cJ1_putChar 34 = .ok (.iinc 1 1, 3) := dk_132 1 1 (dk_at dksJ1_putChar_1 10 rfl rfl)
theorem dJ1_putChar_37 : decode cJ1_putChar 37 = .ok (.iload_n 2, 1) := dk_28 (dk_at dksJ1_putChar_1 13 rfl rfl)
theorem dJ1_putChar_38 : decode cJ1_putChar 38 = .ok (.getstatic 59, 3) := dk_178 0 59 (dk_at dksJ1_putChar_1 14 rfl rfl)
theorem dJ1_putChar_41 : decode cJ1_putChar 41 = .ok (.ishr, 1) := dk_122 (dk_at dksJ1_putChar_1 17 rfl rfl)
theorem dJ1_putChar_42 : decode cJ1_putChar 42 = .ok (.i2b, 1) := dk_145 (dk_at dksJ1_putChar_1 18 rfl rfl)
theorem dJ1_putChar_43 : decode cJ1_putChar 43 = .ok (.bastore, 1) := dk_84 (dk_at dksJ1_putChar_1 19 rfl rfl)
theorem dJ1_putChar_44 : decode cJ1_putChar 44 = .ok (.aload_n 0, 1) := dk_42 (dk_at dksJ1_putChar_1 20 rfl rfl)
theorem dJ1_putChar_45 : decode cJ1_putChar 45 = .ok (.iload_n 1, 1) := dk_27 (dk_at dksJ1_putChar_1 21 rfl rfl)
theorem dJ1_putChar_46 : decode cJ1_putChar 46 = .ok (.iload_n 2, 1) := dk_28 (dk_at dksJ1_putChar_1 22 rfl rfl)
theorem dJ1_putChar_47 : decode cJ1_putChar 47 = .ok (.getstatic 63, 3) := dk_178 0 63 (dk_at dksJ1_putChar_2 0 rfl rfl)
theorem dJ1_putChar_50 : decode cJ1_putChar 50 = .ok (.ishr, 1) := dk_122 (dk_at dksJ1_putChar_2 3 rfl rfl)
theorem dJ1_putChar_51 : decode cJ1_putChar 51 = .ok (.i2b, 1) := dk_145 (dk_at dksJ1_putChar_2 4 rfl rfl)
theorem dJ1_putChar_52 : decode cJ1_putChar 52 = .ok (.bastore, 1) := dk_84 (dk_at dksJ1_putChar_2 5 rfl rfl)
theorem dJ1_putChar_53 : decode cJ1_putChar 53 = .ok (.return_, 1) := dk_177 (dk_at dksJ1_putChar_2 6 rfl rfl)
abbrev cJ1_length : ByteArray := prog_8_method_6_code
def yJ1_length : MethodName := ⟨RJ1, "length", "([B)I"⟩
def dkwJ1_length_0 : List UInt8 := [42, 190, 4, 122, 172]
abbrev dktJ1_length_0 : List UInt8 := dkwJ1_length_0 ++ []
theorem dksJ1_length_0 : cJ1_length.data.toList.drop 0 = dktJ1_length_0 := by decide +kernel
theorem dJ1_length_0 : decode cJ1_length 0 = .ok (.aload_n 0, 1) := dk_42 (dk_at dksJ1_length_0 0 rfl rfl)
theorem dJ1_length_1 : decode cJ1_length 1 = .ok (.arraylength, 1) := dk_190 (dk_at dksJ1_length_0 1 rfl rfl)
theorem dJ1_length_2 : decode cJ1_length 2 = .ok (.iconst 1, 1) := dk_4 (dk_at dksJ1_length_0 2 rfl rfl)
theorem dJ1_length_3 : decode cJ1_length 3 = .ok (.ishr, 1) := dk_122 (dk_at dksJ1_length_0 3 rfl rfl)
theorem dJ1_length_4 : decode cJ1_length 4 = .ok (.ireturn, 1) := dk_172 (dk_at dksJ1_length_0 4 rfl rfl)
abbrev cJ1_getChar : ByteArray := prog_8_method_5_code
def yJ1_getChar : MethodName := ⟨RJ1, "getChar", "([BI)C"⟩
def dkwJ1_getChar_2 : List UInt8 := [51, 17, 0, 255, 126, 178, 0, 63, 120, 128, 146, 172]
abbrev dktJ1_getChar_2 : List UInt8 := dkwJ1_getChar_2 ++ []
def dkwJ1_getChar_1 : List UInt8 := [183, 0, 56, 191, 27, 4, 120, 60, 42, 27, 132, 1, 1, 51, 17, 0, 255, 126, 178, 0, 59, 120, 42, 27]
abbrev dktJ1_getChar_1 : List UInt8 := dkwJ1_getChar_1 ++ dktJ1_getChar_2
def dkwJ1_getChar_0 : List UInt8 := [178, 0, 44, 154, 0, 25, 27, 155, 0, 11, 27, 42, 184, 0, 48, 161, 0, 13, 187, 0, 52, 89, 18, 54]
abbrev dktJ1_getChar_0 : List UInt8 := dkwJ1_getChar_0 ++ dktJ1_getChar_1
theorem dksJ1_getChar_0 : cJ1_getChar.data.toList.drop 0 = dktJ1_getChar_0 := by decide +kernel
theorem dksJ1_getChar_1 : cJ1_getChar.data.toList.drop 24 = dktJ1_getChar_1 := dk_seg dksJ1_getChar_0 24 rfl rfl
theorem dksJ1_getChar_2 : cJ1_getChar.data.toList.drop 48 = dktJ1_getChar_2 := dk_seg dksJ1_getChar_1 24 rfl rfl
theorem dJ1_getChar_0 : decode cJ1_getChar 0 = .ok (.getstatic 44, 3) := dk_178 0 44 (dk_at dksJ1_getChar_0 0 rfl rfl)
theorem dJ1_getChar_3 : decode cJ1_getChar 3 = .ok (.ifCond .ne 25, 3) := dk_154 0 25 (dk_at dksJ1_getChar_0 3 rfl rfl)
theorem dJ1_getChar_6 : decode cJ1_getChar 6 = .ok (.iload_n 1, 1) := dk_27 (dk_at dksJ1_getChar_0 6 rfl rfl)
theorem dJ1_getChar_7 : decode cJ1_getChar 7 = .ok (.ifCond .lt 11, 3) := dk_155 0 11 (dk_at dksJ1_getChar_0 7 rfl rfl)
theorem dJ1_getChar_10 : decode cJ1_getChar 10 = .ok (.iload_n 1, 1) := dk_27 (dk_at dksJ1_getChar_0 10 rfl rfl)
theorem dJ1_getChar_11 : decode cJ1_getChar 11 = .ok (.aload_n 0, 1) := dk_42 (dk_at dksJ1_getChar_0 11 rfl rfl)
theorem dJ1_getChar_12 : decode cJ1_getChar 12 = .ok (.invokestatic 48, 3) := dk_184 0 48 (dk_at dksJ1_getChar_0 12 rfl rfl)
theorem dJ1_getChar_15 : decode cJ1_getChar 15 = .ok (.if_icmp .lt 13, 3) := dk_161 0 13 (dk_at dksJ1_getChar_0 15 rfl rfl)
theorem dJ1_getChar_18 : decode cJ1_getChar 18 = .ok (.new 52, 3) := dk_187 0 52 (dk_at dksJ1_getChar_0 18 rfl rfl)
theorem dJ1_getChar_21 : decode cJ1_getChar 21 = .ok (.dup, 1) := dk_89 (dk_at dksJ1_getChar_0 21 rfl rfl)
theorem dJ1_getChar_22 : decode cJ1_getChar 22 = .ok (.ldc 54, 2) := dk_18 54 (dk_at dksJ1_getChar_0 22 rfl rfl)
theorem dJ1_getChar_24 : decode cJ1_getChar 24 = .ok (.invokespecial 56, 3) := dk_183 0 56 (dk_at dksJ1_getChar_1 0 rfl rfl)
theorem dJ1_getChar_27 : decode cJ1_getChar 27 = .ok (.athrow, 1) := dk_191 (dk_at dksJ1_getChar_1 3 rfl rfl)
theorem dJ1_getChar_28 : decode cJ1_getChar 28 = .ok (.iload_n 1, 1) := dk_27 (dk_at dksJ1_getChar_1 4 rfl rfl)
theorem dJ1_getChar_29 : decode cJ1_getChar 29 = .ok (.iconst 1, 1) := dk_4 (dk_at dksJ1_getChar_1 5 rfl rfl)
theorem dJ1_getChar_30 : decode cJ1_getChar 30 = .ok (.ishl, 1) := dk_120 (dk_at dksJ1_getChar_1 6 rfl rfl)
theorem dJ1_getChar_31 : decode cJ1_getChar 31 = .ok (.istore_n 1, 1) := dk_60 (dk_at dksJ1_getChar_1 7 rfl rfl)
theorem dJ1_getChar_32 : decode cJ1_getChar 32 = .ok (.aload_n 0, 1) := dk_42 (dk_at dksJ1_getChar_1 8 rfl rfl)
theorem dJ1_getChar_33 : decode cJ1_getChar 33 = .ok (.iload_n 1, 1) := dk_27 (dk_at dksJ1_getChar_1 9 rfl rfl)
theorem dJ1_getChar_34 : decode cJ1_getChar 34 = .ok (.iinc 1 1, 3) := dk_132 1 1 (dk_at dksJ1_getChar_1 10 rfl rfl)
theorem dJ1_getChar_37 : decode cJ1_getChar 37 = .ok (.baload, 1) := dk_51 (dk_at dksJ1_getChar_1 13 rfl rfl)
theorem dJ1_getChar_38 : decode cJ1_getChar 38 = .ok (.sipush 255, 3) := dk_17 0 255 (dk_at dksJ1_getChar_1 14 rfl rfl)
theorem dJ1_getChar_41 : decode cJ1_getChar 41 = .ok (.iand, 1) := dk_126 (dk_at dksJ1_getChar_1 17 rfl rfl)
theorem dJ1_getChar_42 : decode cJ1_getChar 42 = .ok (.getstatic 59, 3) := dk_178 0 59 (dk_at dksJ1_getChar_1 18 rfl rfl)
theorem dJ1_getChar_45 : decode cJ1_getChar 45 = .ok (.ishl, 1) := dk_120 (dk_at dksJ1_getChar_1 21 rfl rfl)
theorem dJ1_getChar_46 : decode cJ1_getChar 46 = .ok (.aload_n 0, 1) := dk_42 (dk_at dksJ1_getChar_1 22 rfl rfl)
theorem dJ1_getChar_47 : decode cJ1_getChar 47 = .ok (.iload_n 1, 1) := dk_27 (dk_at dksJ1_getChar_1 23 rfl rfl)
theorem dJ1_getChar_48 : decode cJ1_getChar 48 = .ok (.baload, 1) := dk_51 (dk_at dksJ1_getChar_2 0 rfl rfl)
theorem dJ1_getChar_49 : decode cJ1_getChar 49 = .ok (.sipush 255, 3) := dk_17 0 255 (dk_at dksJ1_getChar_2 1 rfl rfl)
theorem dJ1_getChar_52 : decode cJ1_getChar 52 = .ok (.iand, 1) := dk_126 (dk_at dksJ1_getChar_2 4 rfl rfl)
theorem dJ1_getChar_53 : decode cJ1_getChar 53 = .ok (.getstatic 63, 3) := dk_178 0 63 (dk_at dksJ1_getChar_2 5 rfl rfl)
theorem dJ1_getChar_56 : decode cJ1_getChar 56 = .ok (.ishl, 1) := dk_120 (dk_at dksJ1_getChar_2 8 rfl rfl)
theorem dJ1_getChar_57 : decode cJ1_getChar 57 = .ok (.ior, 1) := dk_128 (dk_at dksJ1_getChar_2 9 rfl rfl)
theorem dJ1_getChar_58 : decode cJ1_getChar 58 = .ok (.i2c, 1) := dk_146 (dk_at dksJ1_getChar_2 10 rfl rfl)
theorem dJ1_getChar_59 : decode cJ1_getChar 59 = .ok (.ireturn, 1) := dk_172 (dk_at dksJ1_getChar_2 11 rfl rfl)
abbrev cJ1_compress_3 : ByteArray := prog_8_method_22_code
def yJ1_compress_3 : MethodName := ⟨RJ1, "compress", "([BI[BII)I"⟩
def dkwJ1_compress_3_2 : List UInt8 := [132, 5, 1, 167, 255, 216, 21, 4, 172]
abbrev dktJ1_compress_3_2 : List UInt8 := dkwJ1_compress_3_2 ++ []
def dkwJ1_compress_3_1 : List UInt8 := [21, 6, 17, 0, 255, 164, 0, 6, 21, 5, 172, 44, 29, 21, 6, 145, 84, 132, 1, 1, 132, 3, 1]
abbrev dktJ1_compress_3_1 : List UInt8 := dkwJ1_compress_3_1 ++ dktJ1_compress_3_2
def dkwJ1_compress_3_0 : List UInt8 := [27, 21, 4, 42, 184, 0, 173, 3, 54, 5, 21, 5, 21, 4, 162, 0, 39, 42, 27, 184, 0, 71, 54, 6]
abbrev dktJ1_compress_3_0 : List UInt8 := dkwJ1_compress_3_0 ++ dktJ1_compress_3_1
theorem dksJ1_compress_3_0 : cJ1_compress_3.data.toList.drop 0 = dktJ1_compress_3_0 := by decide +kernel
theorem dksJ1_compress_3_1 : cJ1_compress_3.data.toList.drop 24 = dktJ1_compress_3_1 := dk_seg dksJ1_compress_3_0 24 rfl rfl
theorem dksJ1_compress_3_2 : cJ1_compress_3.data.toList.drop 47 = dktJ1_compress_3_2 := dk_seg dksJ1_compress_3_1 23 rfl rfl
theorem dJ1_compress_3_0 : decode cJ1_compress_3 0 = .ok (.iload_n 1, 1) := dk_27 (dk_at dksJ1_compress_3_0 0 rfl rfl)
theorem dJ1_compress_3_1 : decode cJ1_compress_3 1 = .ok (.iload 4, 2) := dk_21 4 (dk_at dksJ1_compress_3_0 1 rfl rfl)
theorem dJ1_compress_3_3 : decode cJ1_compress_3 3 = .ok (.aload_n 0, 1) := dk_42 (dk_at dksJ1_compress_3_0 3 rfl rfl)
theorem dJ1_compress_3_4 : decode cJ1_compress_3 4 = .ok (.invokestatic 173, 3) := dk_184 0 173 (dk_at dksJ1_compress_3_0 4 rfl rfl)
theorem dJ1_compress_3_7 : decode cJ1_compress_3 7 = .ok (.iconst 0, 1) := dk_3 (dk_at dksJ1_compress_3_0 7 rfl rfl)
theorem dJ1_compress_3_8 : decode cJ1_compress_3 8 = .ok (.istore 5, 2) := dk_54 5 (dk_at dksJ1_compress_3_0 8 rfl rfl)
theorem dJ1_compress_3_10 : decode cJ1_compress_3 10 = .ok (.iload 5, 2) := dk_21 5 (dk_at dksJ1_compress_3_0 10 rfl rfl)
theorem dJ1_compress_3_12 : decode cJ1_compress_3 12 = .ok (.iload 4, 2) := dk_21 4 (dk_at dksJ1_compress_3_0 12 rfl rfl)
theorem dJ1_compress_3_14 : decode cJ1_compress_3 14 = .ok (.if_icmp .ge 39, 3) := dk_162 0 39 (dk_at dksJ1_compress_3_0 14 rfl rfl)
theorem dJ1_compress_3_17 : decode cJ1_compress_3 17 = .ok (.aload_n 0, 1) := dk_42 (dk_at dksJ1_compress_3_0 17 rfl rfl)
theorem dJ1_compress_3_18 : decode cJ1_compress_3 18 = .ok (.iload_n 1, 1) := dk_27 (dk_at dksJ1_compress_3_0 18 rfl rfl)
theorem dJ1_compress_3_19 : decode cJ1_compress_3 19 = .ok (.invokestatic 71, 3) := dk_184 0 71 (dk_at dksJ1_compress_3_0 19 rfl rfl)
theorem dJ1_compress_3_22 : decode cJ1_compress_3 22 = .ok (.istore 6, 2) := dk_54 6 (dk_at dksJ1_compress_3_0 22 rfl rfl)
theorem dJ1_compress_3_24 : decode cJ1_compress_3 24 = .ok (.iload 6, 2) := dk_21 6 (dk_at dksJ1_compress_3_1 0 rfl rfl)
theorem dJ1_compress_3_26 : decode cJ1_compress_3 26 = .ok (.sipush 255, 3) := dk_17 0 255 (dk_at dksJ1_compress_3_1 2 rfl rfl)
theorem dJ1_compress_3_29 : decode cJ1_compress_3 29 = .ok (.if_icmp .le 6, 3) := dk_164 0 6 (dk_at dksJ1_compress_3_1 5 rfl rfl)
theorem dJ1_compress_3_32 : decode cJ1_compress_3 32 = .ok (.iload 5, 2) := dk_21 5 (dk_at dksJ1_compress_3_1 8 rfl rfl)
theorem dJ1_compress_3_34 : decode cJ1_compress_3 34 = .ok (.ireturn, 1) := dk_172 (dk_at dksJ1_compress_3_1 10 rfl rfl)
theorem dJ1_compress_3_35 : decode cJ1_compress_3 35 = .ok (.aload_n 2, 1) := dk_44 (dk_at dksJ1_compress_3_1 11 rfl rfl)
theorem dJ1_compress_3_36 : decode cJ1_compress_3 36 = .ok (.iload_n 3, 1) := dk_29 (dk_at dksJ1_compress_3_1 12 rfl rfl)
theorem dJ1_compress_3_37 : decode cJ1_compress_3 37 = .ok (.iload 6, 2) := dk_21 6 (dk_at dksJ1_compress_3_1 13 rfl rfl)
theorem dJ1_compress_3_39 : decode cJ1_compress_3 39 = .ok (.i2b, 1) := dk_145 (dk_at dksJ1_compress_3_1 15 rfl rfl)
theorem dJ1_compress_3_40 : decode cJ1_compress_3 40 = .ok (.bastore, 1) := dk_84 (dk_at dksJ1_compress_3_1 16 rfl rfl)
theorem dJ1_compress_3_41 : decode cJ1_compress_3 41 = .ok (.iinc 1 1, 3) := dk_132 1 1 (dk_at dksJ1_compress_3_1 17 rfl rfl)
theorem dJ1_compress_3_44 : decode cJ1_compress_3 44 = .ok (.iinc 3 1, 3) := dk_132 3 1 (dk_at dksJ1_compress_3_1 20 rfl rfl)
theorem dJ1_compress_3_47 : decode cJ1_compress_3 47 = .ok (.iinc 5 1, 3) := dk_132 5 1 (dk_at dksJ1_compress_3_2 0 rfl rfl)
theorem dJ1_compress_3_50 : decode cJ1_compress_3 50 = .ok (.goto (-40), 3) := dk_167 255 216 (dk_at dksJ1_compress_3_2 3 rfl rfl)
theorem dJ1_compress_3_53 : decode cJ1_compress_3 53 = .ok (.iload 4, 2) := dk_21 4 (dk_at dksJ1_compress_3_2 6 rfl rfl)
theorem dJ1_compress_3_55 : decode cJ1_compress_3 55 = .ok (.ireturn, 1) := dk_172 (dk_at dksJ1_compress_3_2 8 rfl rfl)
abbrev cJ1_checkBoundsOffCount : ByteArray := prog_8_method_94_code
def yJ1_checkBoundsOffCount : MethodName := ⟨RJ1, "checkBoundsOffCount", "(II[B)V"⟩
def dkwJ1_checkBoundsOffCount_0 : List UInt8 := [26, 27, 44, 184, 0, 48, 184, 1, 163, 87, 177]
abbrev dktJ1_checkBoundsOffCount_0 : List UInt8 := dkwJ1_checkBoundsOffCount_0 ++ []
theorem dksJ1_checkBoundsOffCount_0 : cJ1_checkBoundsOffCount.data.toList.drop 0 = dktJ1_checkBoundsOffCount_0 := by decide +kernel
theorem dJ1_checkBoundsOffCount_0 : decode cJ1_checkBoundsOffCount 0 = .ok (.iload_n 0, 1) := dk_26 (dk_at dksJ1_checkBoundsOffCount_0 0 rfl rfl)
theorem dJ1_checkBoundsOffCount_1 : decode cJ1_checkBoundsOffCount 1 = .ok (.iload_n 1, 1) := dk_27 (dk_at dksJ1_checkBoundsOffCount_0 1 rfl rfl)
theorem dJ1_checkBoundsOffCount_2 : decode cJ1_checkBoundsOffCount 2 = .ok (.aload_n 2, 1) := dk_44 (dk_at dksJ1_checkBoundsOffCount_0 2 rfl rfl)
theorem dJ1_checkBoundsOffCount_3 : decode cJ1_checkBoundsOffCount 3 = .ok (.invokestatic 48, 3) := dk_184 0 48 (dk_at dksJ1_checkBoundsOffCount_0 3 rfl rfl)
theorem dJ1_checkBoundsOffCount_6 : decode cJ1_checkBoundsOffCount 6 = .ok (.invokestatic 419, 3) := dk_184 1 163 (dk_at dksJ1_checkBoundsOffCount_0 6 rfl rfl)
theorem dJ1_checkBoundsOffCount_9 : decode cJ1_checkBoundsOffCount 9 = .ok (.pop, 1) := dk_87 (dk_at dksJ1_checkBoundsOffCount_0 9 rfl rfl)
theorem dJ1_checkBoundsOffCount_10 : decode cJ1_checkBoundsOffCount 10 = .ok (.return_, 1) := dk_177 (dk_at dksJ1_checkBoundsOffCount_0 10 rfl rfl)
abbrev cJ1_coderFromArrayLen : ByteArray := prog_8_method_15_code
def yJ1_coderFromArrayLen : MethodName := ⟨RJ1, "coderFromArrayLen", "([BI)B"⟩
def dkwJ1_coderFromArrayLen_0 : List UInt8 := [27, 42, 190, 100, 16, 31, 124, 145, 172]
abbrev dktJ1_coderFromArrayLen_0 : List UInt8 := dkwJ1_coderFromArrayLen_0 ++ []
theorem dksJ1_coderFromArrayLen_0 : cJ1_coderFromArrayLen.data.toList.drop 0 = dktJ1_coderFromArrayLen_0 := by decide +kernel
theorem dJ1_coderFromArrayLen_0 : decode cJ1_coderFromArrayLen 0 = .ok (.iload_n 1, 1) := dk_27 (dk_at dksJ1_coderFromArrayLen_0 0 rfl rfl)
theorem dJ1_coderFromArrayLen_1 : decode cJ1_coderFromArrayLen 1 = .ok (.aload_n 0, 1) := dk_42 (dk_at dksJ1_coderFromArrayLen_0 1 rfl rfl)
theorem dJ1_coderFromArrayLen_2 : decode cJ1_coderFromArrayLen 2 = .ok (.arraylength, 1) := dk_190 (dk_at dksJ1_coderFromArrayLen_0 2 rfl rfl)
theorem dJ1_coderFromArrayLen_3 : decode cJ1_coderFromArrayLen 3 = .ok (.isub, 1) := dk_100 (dk_at dksJ1_coderFromArrayLen_0 3 rfl rfl)
theorem dJ1_coderFromArrayLen_4 : decode cJ1_coderFromArrayLen 4 = .ok (.bipush 31, 2) := dk_16 31 (dk_at dksJ1_coderFromArrayLen_0 4 rfl rfl)
theorem dJ1_coderFromArrayLen_6 : decode cJ1_coderFromArrayLen 6 = .ok (.iushr, 1) := dk_124 (dk_at dksJ1_coderFromArrayLen_0 6 rfl rfl)
theorem dJ1_coderFromArrayLen_7 : decode cJ1_coderFromArrayLen 7 = .ok (.i2b, 1) := dk_145 (dk_at dksJ1_coderFromArrayLen_0 7 rfl rfl)
theorem dJ1_coderFromArrayLen_8 : decode cJ1_coderFromArrayLen 8 = .ok (.ireturn, 1) := dk_172 (dk_at dksJ1_coderFromArrayLen_0 8 rfl rfl)
abbrev cJ1_charAt : ByteArray := prog_8_method_83_code
def yJ1_charAt : MethodName := ⟨RJ1, "charAt", "([BI)C"⟩
def dkwJ1_charAt_0 : List UInt8 := [27, 42, 184, 0, 67, 42, 27, 184, 0, 71, 172]
abbrev dktJ1_charAt_0 : List UInt8 := dkwJ1_charAt_0 ++ []
theorem dksJ1_charAt_0 : cJ1_charAt.data.toList.drop 0 = dktJ1_charAt_0 := by decide +kernel
theorem dJ1_charAt_0 : decode cJ1_charAt 0 = .ok (.iload_n 1, 1) := dk_27 (dk_at dksJ1_charAt_0 0 rfl rfl)
theorem dJ1_charAt_1 : decode cJ1_charAt 1 = .ok (.aload_n 0, 1) := dk_42 (dk_at dksJ1_charAt_0 1 rfl rfl)
theorem dJ1_charAt_2 : decode cJ1_charAt 2 = .ok (.invokestatic 67, 3) := dk_184 0 67 (dk_at dksJ1_charAt_0 2 rfl rfl)
theorem dJ1_charAt_5 : decode cJ1_charAt 5 = .ok (.aload_n 0, 1) := dk_42 (dk_at dksJ1_charAt_0 5 rfl rfl)
theorem dJ1_charAt_6 : decode cJ1_charAt 6 = .ok (.iload_n 1, 1) := dk_27 (dk_at dksJ1_charAt_0 6 rfl rfl)
theorem dJ1_charAt_7 : decode cJ1_charAt 7 = .ok (.invokestatic 71, 3) := dk_184 0 71 (dk_at dksJ1_charAt_0 7 rfl rfl)
theorem dJ1_charAt_10 : decode cJ1_charAt 10 = .ok (.ireturn, 1) := dk_172 (dk_at dksJ1_charAt_0 10 rfl rfl)
abbrev cJ1_checkIndex : ByteArray := prog_8_method_91_code
def yJ1_checkIndex : MethodName := ⟨RJ1, "checkIndex", "(I[B)V"⟩
def dkwJ1_checkIndex_0 : List UInt8 := [26, 43, 184, 0, 48, 184, 1, 158, 177]
abbrev dktJ1_checkIndex_0 : List UInt8 := dkwJ1_checkIndex_0 ++ []
theorem dksJ1_checkIndex_0 : cJ1_checkIndex.data.toList.drop 0 = dktJ1_checkIndex_0 := by decide +kernel
theorem dJ1_checkIndex_0 : decode cJ1_checkIndex 0 = .ok (.iload_n 0, 1) := dk_26 (dk_at dksJ1_checkIndex_0 0 rfl rfl)
theorem dJ1_checkIndex_1 : decode cJ1_checkIndex 1 = .ok (.aload_n 1, 1) := dk_43 (dk_at dksJ1_checkIndex_0 1 rfl rfl)
theorem dJ1_checkIndex_2 : decode cJ1_checkIndex 2 = .ok (.invokestatic 48, 3) := dk_184 0 48 (dk_at dksJ1_checkIndex_0 2 rfl rfl)
theorem dJ1_checkIndex_5 : decode cJ1_checkIndex 5 = .ok (.invokestatic 414, 3) := dk_184 1 158 (dk_at dksJ1_checkIndex_0 5 rfl rfl)
theorem dJ1_checkIndex_8 : decode cJ1_checkIndex 8 = .ok (.return_, 1) := dk_177 (dk_at dksJ1_checkIndex_0 8 rfl rfl)
theorem q19 : (Jvm.Cond.initialized "java/lang/StringUTF16") ∈ lw_all := lw_g (lw_at lw_m1 4 rfl) rfl
theorem q47 : (Jvm.Cond.static ({ cls := "java/lang/StringUTF16", name := "compress", desc := "([CII)[B" } : Jvm.MethodName)) ∈ lw_all := lw_g (lw_at lw_m1 32 rfl) rfl
theorem q48 : (Jvm.Cond.code ({ cls := "java/lang/StringUTF16", name := "compress", desc := "([CII)[B" } : Jvm.MethodName) prog_8_method_16_code (6 : Nat) (Option.some (Jvm.ClassFile.FieldType.array Jvm.ClassFile.FieldType.byte))) ∈ lw_all := lw_g (lw_at lw_m1 33 rfl) rfl
theorem q49 : (Jvm.Cond.methodLink "java/lang/StringUTF16" (115 : Nat) ({ cls := "java/lang/StringUTF16", name := "compress", desc := "([CI[BII)I" } : Jvm.MethodName)) ∈ lw_all := lw_g (lw_at lw_m1 34 rfl) rfl
theorem q50 : (Jvm.Cond.static ({ cls := "java/lang/StringUTF16", name := "compress", desc := "([CI[BII)I" } : Jvm.MethodName)) ∈ lw_all := lw_g (lw_at lw_m1 35 rfl) rfl
theorem q51 : (Jvm.Cond.code ({ cls := "java/lang/StringUTF16", name := "compress", desc := "([CI[BII)I" } : Jvm.MethodName) prog_8_method_21_code (7 : Nat) (Option.some Jvm.ClassFile.FieldType.int)) ∈ lw_all := lw_g (lw_at lw_m1 36 rfl) rfl
theorem q52 : (Jvm.Cond.methodLink "java/lang/StringUTF16" (119 : Nat) ({ cls := "java/lang/StringUTF16", name := "toBytes", desc := "([CII)[B" } : Jvm.MethodName)) ∈ lw_all := lw_g (lw_at lw_m1 37 rfl) rfl
theorem q53 : (Jvm.Cond.static ({ cls := "java/lang/StringUTF16", name := "toBytes", desc := "([CII)[B" } : Jvm.MethodName)) ∈ lw_all := lw_g (lw_at lw_m1 38 rfl) rfl
theorem q54 : (Jvm.Cond.code ({ cls := "java/lang/StringUTF16", name := "toBytes", desc := "([CII)[B" } : Jvm.MethodName) prog_8_method_14_code (5 : Nat) (Option.some (Jvm.ClassFile.FieldType.array Jvm.ClassFile.FieldType.byte))) ∈ lw_all := lw_g (lw_at lw_m1 39 rfl) rfl
theorem q55 : (Jvm.Cond.methodLink "java/lang/StringUTF16" (107 : Nat) ({ cls := "java/lang/StringUTF16", name := "newBytesFor", desc := "(I)[B" } : Jvm.MethodName)) ∈ lw_all := lw_g (lw_at lw_m1 40 rfl) rfl
theorem q56 : (Jvm.Cond.static ({ cls := "java/lang/StringUTF16", name := "newBytesFor", desc := "(I)[B" } : Jvm.MethodName)) ∈ lw_all := lw_g (lw_at lw_m1 41 rfl) rfl
theorem q57 : (Jvm.Cond.code ({ cls := "java/lang/StringUTF16", name := "newBytesFor", desc := "(I)[B" } : Jvm.MethodName) prog_8_method_2_code (1 : Nat) (Option.some (Jvm.ClassFile.FieldType.array Jvm.ClassFile.FieldType.byte))) ∈ lw_all := lw_g (lw_at lw_m1 42 rfl) rfl
theorem q58 : (Jvm.Cond.methodLink "java/lang/StringUTF16" (11 : Nat) ({ cls := "java/lang/StringUTF16", name := "newBytesLength", desc := "(I)I" } : Jvm.MethodName)) ∈ lw_all := lw_g (lw_at lw_m1 43 rfl) rfl
theorem q59 : (Jvm.Cond.static ({ cls := "java/lang/StringUTF16", name := "newBytesLength", desc := "(I)I" } : Jvm.MethodName)) ∈ lw_all := lw_g (lw_at lw_m1 44 rfl) rfl
theorem q60 : (Jvm.Cond.code ({ cls := "java/lang/StringUTF16", name := "newBytesLength", desc := "(I)I" } : Jvm.MethodName) prog_8_method_3_code (1 : Nat) (Option.some Jvm.ClassFile.FieldType.int)) ∈ lw_all := lw_g (lw_at lw_m1 45 rfl) rfl
theorem q61 : (Jvm.Cond.constant "java/lang/StringUTF16" (20 : Nat) (1073741823 : Int32)) ∈ lw_all := lw_g (lw_at lw_m1 46 rfl) rfl
theorem q62 : (Jvm.Cond.methodLink "java/lang/StringUTF16" (111 : Nat) ({ cls := "java/lang/StringUTF16", name := "putChar", desc := "([BII)V" } : Jvm.MethodName)) ∈ lw_all := lw_g (lw_at lw_m1 47 rfl) rfl
theorem q63 : (Jvm.Cond.static ({ cls := "java/lang/StringUTF16", name := "putChar", desc := "([BII)V" } : Jvm.MethodName)) ∈ lw_all := lw_g (lw_at lw_m1 48 rfl) rfl
theorem q64 : (Jvm.Cond.code ({ cls := "java/lang/StringUTF16", name := "putChar", desc := "([BII)V" } : Jvm.MethodName) prog_8_method_4_code (3 : Nat) (Option.none : Option Jvm.ClassFile.FieldType)) ∈ lw_all := lw_g (lw_at lw_m1 49 rfl) rfl
theorem q65 : (Jvm.Cond.fieldLink "java/lang/StringUTF16" (44 : Nat) "java/lang/StringUTF16" "$assertionsDisabled" "Z") ∈ lw_all := lw_g (lw_at lw_m1 50 rfl) rfl
theorem q66 : (Jvm.Cond.laysStatic "java/lang/StringUTF16" "$assertionsDisabled" "Z") ∈ lw_tbl := lw_at lw_m1 51 rfl
theorem q67 : (Jvm.Cond.methodLink "java/lang/StringUTF16" (48 : Nat) ({ cls := "java/lang/StringUTF16", name := "length", desc := "([B)I" } : Jvm.MethodName)) ∈ lw_all := lw_g (lw_at lw_m1 52 rfl) rfl
theorem q68 : (Jvm.Cond.static ({ cls := "java/lang/StringUTF16", name := "length", desc := "([B)I" } : Jvm.MethodName)) ∈ lw_all := lw_g (lw_at lw_m1 53 rfl) rfl
theorem q69 : (Jvm.Cond.code ({ cls := "java/lang/StringUTF16", name := "length", desc := "([B)I" } : Jvm.MethodName) prog_8_method_6_code (1 : Nat) (Option.some Jvm.ClassFile.FieldType.int)) ∈ lw_all := lw_g (lw_at lw_m1 54 rfl) rfl
theorem q70 : (Jvm.Cond.fieldLink "java/lang/StringUTF16" (59 : Nat) "java/lang/StringUTF16" "HI_BYTE_SHIFT" "I") ∈ lw_all := lw_g (lw_at lw_m1 55 rfl) rfl
theorem q71 : (Jvm.Cond.laysStatic "java/lang/StringUTF16" "HI_BYTE_SHIFT" "I") ∈ lw_tbl := lw_at lw_m1 56 rfl
theorem q72 : (Jvm.Cond.fieldLink "java/lang/StringUTF16" (63 : Nat) "java/lang/StringUTF16" "LO_BYTE_SHIFT" "I") ∈ lw_all := lw_g (lw_at lw_m1 57 rfl) rfl
theorem q73 : (Jvm.Cond.laysStatic "java/lang/StringUTF16" "LO_BYTE_SHIFT" "I") ∈ lw_tbl := lw_at lw_m1 58 rfl
theorem q74 : (Jvm.Cond.methodLink "java/lang/StringUTF16" (71 : Nat) ({ cls := "java/lang/StringUTF16", name := "getChar", desc := "([BI)C" } : Jvm.MethodName)) ∈ lw_all := lw_g (lw_at lw_m1 59 rfl) rfl
theorem q75 : (Jvm.Cond.static ({ cls := "java/lang/StringUTF16", name := "getChar", desc := "([BI)C" } : Jvm.MethodName)) ∈ lw_all := lw_g (lw_at lw_m1 60 rfl) rfl
theorem q76 : (Jvm.Cond.code ({ cls := "java/lang/StringUTF16", name := "getChar", desc := "([BI)C" } : Jvm.MethodName) prog_8_method_5_code (2 : Nat) (Option.some Jvm.ClassFile.FieldType.char)) ∈ lw_all := lw_g (lw_at lw_m1 61 rfl) rfl
theorem q77 : (Jvm.Cond.methodLink "java/lang/StringUTF16" (123 : Nat) ({ cls := "java/lang/StringUTF16", name := "compress", desc := "([BI[BII)I" } : Jvm.MethodName)) ∈ lw_all := lw_g (lw_at lw_m1 62 rfl) rfl
theorem q78 : (Jvm.Cond.static ({ cls := "java/lang/StringUTF16", name := "compress", desc := "([BI[BII)I" } : Jvm.MethodName)) ∈ lw_all := lw_g (lw_at lw_m1 63 rfl) rfl
theorem q79 : (Jvm.Cond.code ({ cls := "java/lang/StringUTF16", name := "compress", desc := "([BI[BII)I" } : Jvm.MethodName) prog_8_method_22_code (7 : Nat) (Option.some Jvm.ClassFile.FieldType.int)) ∈ lw_all := lw_g (lw_at lw_m1 64 rfl) rfl
theorem q80 : (Jvm.Cond.methodLink "java/lang/StringUTF16" (173 : Nat) ({ cls := "java/lang/StringUTF16", name := "checkBoundsOffCount", desc := "(II[B)V" } : Jvm.MethodName)) ∈ lw_all := lw_g (lw_at lw_m1 65 rfl) rfl
theorem q81 : (Jvm.Cond.static ({ cls := "java/lang/StringUTF16", name := "checkBoundsOffCount", desc := "(II[B)V" } : Jvm.MethodName)) ∈ lw_all := lw_g (lw_at lw_m1 66 rfl) rfl
theorem q82 : (Jvm.Cond.code ({ cls := "java/lang/StringUTF16", name := "checkBoundsOffCount", desc := "(II[B)V" } : Jvm.MethodName) prog_8_method_94_code (3 : Nat) (Option.none : Option Jvm.ClassFile.FieldType)) ∈ lw_all := lw_g (lw_at lw_m1 67 rfl) rfl
theorem q83 : (Jvm.Cond.methodLink "java/lang/StringUTF16" (419 : Nat) ({ cls := "java/lang/String", name := "checkBoundsOffCount", desc := "(III)I" } : Jvm.MethodName)) ∈ lw_all := lw_g (lw_at lw_m1 68 rfl) rfl
theorem q92 : (Jvm.Cond.static ({ cls := "java/lang/StringUTF16", name := "coderFromArrayLen", desc := "([BI)B" } : Jvm.MethodName)) ∈ lw_all := lw_g (lw_at lw_m1 77 rfl) rfl
theorem q93 : (Jvm.Cond.code ({ cls := "java/lang/StringUTF16", name := "coderFromArrayLen", desc := "([BI)B" } : Jvm.MethodName) prog_8_method_15_code (2 : Nat) (Option.some Jvm.ClassFile.FieldType.byte)) ∈ lw_all := lw_g (lw_at lw_m1 78 rfl) rfl
theorem q183 : (Jvm.Cond.static ({ cls := "java/lang/StringUTF16", name := "charAt", desc := "([BI)C" } : Jvm.MethodName)) ∈ lw_all := lw_g (lw_at lw_m1 168 rfl) rfl
theorem q184 : (Jvm.Cond.code ({ cls := "java/lang/StringUTF16", name := "charAt", desc := "([BI)C" } : Jvm.MethodName) prog_8_method_83_code (2 : Nat) (Option.some Jvm.ClassFile.FieldType.char)) ∈ lw_all := lw_g (lw_at lw_m1 169 rfl) rfl
theorem q185 : (Jvm.Cond.methodLink "java/lang/StringUTF16" (67 : Nat) ({ cls := "java/lang/StringUTF16", name := "checkIndex", desc := "(I[B)V" } : Jvm.MethodName)) ∈ lw_all := lw_g (lw_at lw_m1 170 rfl) rfl
theorem q186 : (Jvm.Cond.static ({ cls := "java/lang/StringUTF16", name := "checkIndex", desc := "(I[B)V" } : Jvm.MethodName)) ∈ lw_all := lw_g (lw_at lw_m1 171 rfl) rfl
theorem q187 : (Jvm.Cond.code ({ cls := "java/lang/StringUTF16", name := "checkIndex", desc := "(I[B)V" } : Jvm.MethodName) prog_8_method_91_code (2 : Nat) (Option.none : Option Jvm.ClassFile.FieldType)) ∈ lw_all := lw_g (lw_at lw_m1 172 rfl) rfl
theorem q188 : (Jvm.Cond.methodLink "java/lang/StringUTF16" (414 : Nat) ({ cls := "java/lang/String", name := "checkIndex", desc := "(II)V" } : Jvm.MethodName)) ∈ lw_all := lw_g (lw_at lw_m1 173 rfl) rfl

/-! jdk/internal/util/Preconditions -/
set_option maxRecDepth 100000
def RJ2 : String := "jdk/internal/util/Preconditions"
abbrev cJ2_checkFromIndexSize : ByteArray := prog_10_method_13_code
def yJ2_checkFromIndexSize : MethodName := ⟨RJ2, "checkFromIndexSize", "(IIILjava/util/function/BiFunction;)I"⟩
def dkwJ2_checkFromIndexSize_1 : List UInt8 := [172]
abbrev dktJ2_checkFromIndexSize_1 : List UInt8 := dkwJ2_checkFromIndexSize_1 ++ []
def dkwJ2_checkFromIndexSize_0 : List UInt8 := [28, 26, 128, 27, 128, 155, 0, 10, 27, 28, 26, 100, 164, 0, 11, 45, 26, 27, 28, 184, 0, 103, 191, 26]
abbrev dktJ2_checkFromIndexSize_0 : List UInt8 := dkwJ2_checkFromIndexSize_0 ++ dktJ2_checkFromIndexSize_1
theorem dksJ2_checkFromIndexSize_0 : cJ2_checkFromIndexSize.data.toList.drop 0 = dktJ2_checkFromIndexSize_0 := by decide +kernel
theorem dksJ2_checkFromIndexSize_1 : cJ2_checkFromIndexSize.data.toList.drop 24 = dktJ2_checkFromIndexSize_1 := dk_seg dksJ2_checkFromIndexSize_0 24 rfl rfl
theorem dJ2_checkFromIndexSize_0 : decode cJ2_checkFromIndexSize 0 = .ok (.iload_n 2, 1) := dk_28 (dk_at dksJ2_checkFromIndexSize_0 0 rfl rfl)
theorem dJ2_checkFromIndexSize_1 : decode cJ2_checkFromIndexSize 1 = .ok (.iload_n 0, 1) := dk_26 (dk_at dksJ2_checkFromIndexSize_0 1 rfl rfl)
theorem dJ2_checkFromIndexSize_2 : decode cJ2_checkFromIndexSize 2 = .ok (.ior, 1) := dk_128 (dk_at dksJ2_checkFromIndexSize_0 2 rfl rfl)
theorem dJ2_checkFromIndexSize_3 : decode cJ2_checkFromIndexSize 3 = .ok (.iload_n 1, 1) := dk_27 (dk_at dksJ2_checkFromIndexSize_0 3 rfl rfl)
theorem dJ2_checkFromIndexSize_4 : decode cJ2_checkFromIndexSize 4 = .ok (.ior, 1) := dk_128 (dk_at dksJ2_checkFromIndexSize_0 4 rfl rfl)
theorem dJ2_checkFromIndexSize_5 : decode cJ2_checkFromIndexSize 5 = .ok (.ifCond .lt 10, 3) := dk_155 0 10 (dk_at dksJ2_checkFromIndexSize_0 5 rfl rfl)
theorem dJ2_checkFromIndexSize_8 : decode cJ2_checkFromIndexSize 8 = .ok (.iload_n 1, 1) := dk_27 (dk_at dksJ2_checkFromIndexSize_0 8 rfl rfl)
theorem dJ2_checkFromIndexSize_9 : decode cJ2_checkFromIndexSize 9 = .ok (.iload_n 2, 1) := dk_28 (dk_at dksJ2_checkFromIndexSize_0 9 rfl rfl)
theorem dJ2_checkFromIndexSize_10 : decode cJ2_checkFromIndexSize 10 = .ok (.iload_n 0, 1) := dk_26 (dk_at dksJ2_checkFromIndexSize_0 10 rfl rfl)
theorem dJ2_checkFromIndexSize_11 : decode cJ2_checkFromIndexSize 11 = .ok (.isub, 1) := dk_100 (dk_at dksJ2_checkFromIndexSize_0 11 rfl rfl)
theorem dJ2_checkFromIndexSize_12 : decode cJ2_checkFromIndexSize 12 = .ok (.if_icmp .le 11, 3) := dk_164 0 11 (dk_at dksJ2_checkFromIndexSize_0 12 rfl rfl)
theorem dJ2_checkFromIndexSize_15 : decode cJ2_checkFromIndexSize 15 = .ok (.aload_n 3, 1) := dk_45 (dk_at dksJ2_checkFromIndexSize_0 15 rfl rfl)
theorem dJ2_checkFromIndexSize_16 : decode cJ2_checkFromIndexSize 16 = .ok (.iload_n 0, 1) := dk_26 (dk_at dksJ2_checkFromIndexSize_0 16 rfl rfl)
theorem dJ2_checkFromIndexSize_17 : decode cJ2_checkFromIndexSize 17 = .ok (.iload_n 1, 1) := dk_27 (dk_at dksJ2_checkFromIndexSize_0 17 rfl rfl)
theorem dJ2_checkFromIndexSize_18 : decode cJ2_checkFromIndexSize 18 = .ok (.iload_n 2, 1) := dk_28 (dk_at dksJ2_checkFromIndexSize_0 18 rfl rfl)
theorem dJ2_checkFromIndexSize_19 : decode cJ2_checkFromIndexSize 19 = .ok (.invokestatic 103, 3) := dk_184 0 103 (dk_at dksJ2_checkFromIndexSize_0 19 rfl rfl)
theorem dJ2_checkFromIndexSize_22 : decode cJ2_checkFromIndexSize 22 = .ok (.athrow, 1) := dk_191 (dk_at dksJ2_checkFromIndexSize_0 22 rfl rfl)
theorem dJ2_checkFromIndexSize_23 : decode cJ2_checkFromIndexSize 23 = .ok (.iload_n 0, 1) := dk_26 (dk_at dksJ2_checkFromIndexSize_0 23 rfl rfl)
theorem dJ2_checkFromIndexSize_24 : decode cJ2_checkFromIndexSize 24 = .ok (.ireturn, 1) := dk_172 (dk_at dksJ2_checkFromIndexSize_1 0 rfl rfl)
abbrev cJ2_checkIndex : ByteArray := prog_10_method_11_code
def yJ2_checkIndex : MethodName := ⟨RJ2, "checkIndex", "(IILjava/util/function/BiFunction;)I"⟩
def dkwJ2_checkIndex_0 : List UInt8 := [26, 155, 0, 8, 26, 27, 161, 0, 10, 44, 26, 27, 184, 0, 95, 191, 26, 172]
abbrev dktJ2_checkIndex_0 : List UInt8 := dkwJ2_checkIndex_0 ++ []
theorem dksJ2_checkIndex_0 : cJ2_checkIndex.data.toList.drop 0 = dktJ2_checkIndex_0 := by decide +kernel
theorem dJ2_checkIndex_0 : decode cJ2_checkIndex 0 = .ok (.iload_n 0, 1) := dk_26 (dk_at dksJ2_checkIndex_0 0 rfl rfl)
theorem dJ2_checkIndex_1 : decode cJ2_checkIndex 1 = .ok (.ifCond .lt 8, 3) := dk_155 0 8 (dk_at dksJ2_checkIndex_0 1 rfl rfl)
theorem dJ2_checkIndex_4 : decode cJ2_checkIndex 4 = .ok (.iload_n 0, 1) := dk_26 (dk_at dksJ2_checkIndex_0 4 rfl rfl)
theorem dJ2_checkIndex_5 : decode cJ2_checkIndex 5 = .ok (.iload_n 1, 1) := dk_27 (dk_at dksJ2_checkIndex_0 5 rfl rfl)
theorem dJ2_checkIndex_6 : decode cJ2_checkIndex 6 = .ok (.if_icmp .lt 10, 3) := dk_161 0 10 (dk_at dksJ2_checkIndex_0 6 rfl rfl)
theorem dJ2_checkIndex_9 : decode cJ2_checkIndex 9 = .ok (.aload_n 2, 1) := dk_44 (dk_at dksJ2_checkIndex_0 9 rfl rfl)
theorem dJ2_checkIndex_10 : decode cJ2_checkIndex 10 = .ok (.iload_n 0, 1) := dk_26 (dk_at dksJ2_checkIndex_0 10 rfl rfl)
theorem dJ2_checkIndex_11 : decode cJ2_checkIndex 11 = .ok (.iload_n 1, 1) := dk_27 (dk_at dksJ2_checkIndex_0 11 rfl rfl)
theorem dJ2_checkIndex_12 : decode cJ2_checkIndex 12 = .ok (.invokestatic 95, 3) := dk_184 0 95 (dk_at dksJ2_checkIndex_0 12 rfl rfl)
theorem dJ2_checkIndex_15 : decode cJ2_checkIndex 15 = .ok (.athrow, 1) := dk_191 (dk_at dksJ2_checkIndex_0 15 rfl rfl)
theorem dJ2_checkIndex_16 : decode cJ2_checkIndex 16 = .ok (.iload_n 0, 1) := dk_26 (dk_at dksJ2_checkIndex_0 16 rfl rfl)
theorem dJ2_checkIndex_17 : decode cJ2_checkIndex 17 = .ok (.ireturn, 1) := dk_172 (dk_at dksJ2_checkIndex_0 17 rfl rfl)
theorem q20 : (Jvm.Cond.initialized "jdk/internal/util/Preconditions") ∈ lw_all := lw_g (lw_at lw_m1 5 rfl) rfl
theorem q87 : (Jvm.Cond.laysStatic "jdk/internal/util/Preconditions" "SIOOBE_FORMATTER" "Ljava/util/function/BiFunction;") ∈ lw_tbl := lw_at lw_m1 72 rfl
theorem q89 : (Jvm.Cond.static ({ cls := "jdk/internal/util/Preconditions", name := "checkFromIndexSize", desc := "(IIILjava/util/function/BiFunction;)I" } : Jvm.MethodName)) ∈ lw_all := lw_g (lw_at lw_m1 74 rfl) rfl
theorem q90 : (Jvm.Cond.code ({ cls := "jdk/internal/util/Preconditions", name := "checkFromIndexSize", desc := "(IIILjava/util/function/BiFunction;)I" } : Jvm.MethodName) prog_10_method_13_code (4 : Nat) (Option.some Jvm.ClassFile.FieldType.int)) ∈ lw_all := lw_g (lw_at lw_m1 75 rfl) rfl
theorem q180 : (Jvm.Cond.static ({ cls := "jdk/internal/util/Preconditions", name := "checkIndex", desc := "(IILjava/util/function/BiFunction;)I" } : Jvm.MethodName)) ∈ lw_all := lw_g (lw_at lw_m1 165 rfl) rfl
theorem q181 : (Jvm.Cond.code ({ cls := "jdk/internal/util/Preconditions", name := "checkIndex", desc := "(IILjava/util/function/BiFunction;)I" } : Jvm.MethodName) prog_10_method_11_code (3 : Nat) (Option.some Jvm.ClassFile.FieldType.int)) ∈ lw_all := lw_g (lw_at lw_m1 166 rfl) rfl

/-! java/util/Arrays -/
set_option maxRecDepth 100000
def RJ3 : String := "java/util/Arrays"
abbrev cJ3_fill : ByteArray := prog_9_method_109_code
def yJ3_fill : MethodName := ⟨RJ3, "fill", "([BB)V"⟩
def dkwJ3_fill_0 : List UInt8 := [3, 61, 42, 190, 62, 28, 29, 162, 0, 13, 42, 28, 27, 84, 132, 2, 1, 167, 255, 244, 177]
abbrev dktJ3_fill_0 : List UInt8 := dkwJ3_fill_0 ++ []
theorem dksJ3_fill_0 : cJ3_fill.data.toList.drop 0 = dktJ3_fill_0 := by decide +kernel
theorem dJ3_fill_0 : decode cJ3_fill 0 = .ok (.iconst 0, 1) := dk_3 (dk_at dksJ3_fill_0 0 rfl rfl)
theorem dJ3_fill_1 : decode cJ3_fill 1 = .ok (.istore_n 2, 1) := dk_61 (dk_at dksJ3_fill_0 1 rfl rfl)
theorem dJ3_fill_2 : decode cJ3_fill 2 = .ok (.aload_n 0, 1) := dk_42 (dk_at dksJ3_fill_0 2 rfl rfl)
theorem dJ3_fill_3 : decode cJ3_fill 3 = .ok (.arraylength, 1) := dk_190 (dk_at dksJ3_fill_0 3 rfl rfl)
theorem dJ3_fill_4 : decode cJ3_fill 4 = .ok (.istore_n 3, 1) := dk_62 (dk_at dksJ3_fill_0 4 rfl rfl)
theorem dJ3_fill_5 : decode cJ3_fill 5 = .ok (.iload_n 2, 1) := dk_28 (dk_at dksJ3_fill_0 5 rfl rfl)
theorem dJ3_fill_6 : decode cJ3_fill 6 = .ok (.iload_n 3, 1) := dk_29 (dk_at dksJ3_fill_0 6 rfl rfl)
theorem dJ3_fill_7 : decode cJ3_fill 7 = .ok (.if_icmp .ge 13, 3) := dk_162 0 13 (dk_at dksJ3_fill_0 7 rfl rfl)
theorem dJ3_fill_10 : decode cJ3_fill 10 = .ok (.aload_n 0, 1) := dk_42 (dk_at dksJ3_fill_0 10 rfl rfl)
theorem dJ3_fill_11 : decode cJ3_fill 11 = .ok (.iload_n 2, 1) := dk_28 (dk_at dksJ3_fill_0 11 rfl rfl)
theorem dJ3_fill_12 : decode cJ3_fill 12 = .ok (.iload_n 1, 1) := dk_27 (dk_at dksJ3_fill_0 12 rfl rfl)
theorem dJ3_fill_13 : decode cJ3_fill 13 = .ok (.bastore, 1) := dk_84 (dk_at dksJ3_fill_0 13 rfl rfl)
theorem dJ3_fill_14 : decode cJ3_fill 14 = .ok (.iinc 2 1, 3) := dk_132 2 1 (dk_at dksJ3_fill_0 14 rfl rfl)
theorem dJ3_fill_17 : decode cJ3_fill 17 = .ok (.goto (-12), 3) := dk_167 255 244 (dk_at dksJ3_fill_0 17 rfl rfl)
theorem dJ3_fill_20 : decode cJ3_fill 20 = .ok (.return_, 1) := dk_177 (dk_at dksJ3_fill_0 20 rfl rfl)
theorem q21 : (Jvm.Cond.initialized "java/util/Arrays") ∈ lw_all := lw_g (lw_at lw_m1 6 rfl) rfl
theorem q113 : (Jvm.Cond.static ({ cls := "java/util/Arrays", name := "fill", desc := "([BB)V" } : Jvm.MethodName)) ∈ lw_all := lw_g (lw_at lw_m1 98 rfl) rfl
theorem q114 : (Jvm.Cond.code ({ cls := "java/util/Arrays", name := "fill", desc := "([BB)V" } : Jvm.MethodName) prog_9_method_109_code (4 : Nat) (Option.none : Option Jvm.ClassFile.FieldType)) ∈ lw_all := lw_g (lw_at lw_m1 99 rfl) rfl

/-! java/lang/StringLatin1 -/
set_option maxRecDepth 100000
def RJ4 : String := "java/lang/StringLatin1"
abbrev cJ4_charAt : ByteArray := prog_7_method_2_code
def yJ4_charAt : MethodName := ⟨RJ4, "charAt", "([BI)C"⟩
def dkwJ4_charAt_0 : List UInt8 := [27, 42, 190, 184, 0, 9, 42, 27, 51, 17, 0, 255, 126, 146, 172]
abbrev dktJ4_charAt_0 : List UInt8 := dkwJ4_charAt_0 ++ []
theorem dksJ4_charAt_0 : cJ4_charAt.data.toList.drop 0 = dktJ4_charAt_0 := by decide +kernel
theorem dJ4_charAt_0 : decode cJ4_charAt 0 = .ok (.iload_n 1, 1) := dk_27 (dk_at dksJ4_charAt_0 0 rfl rfl)
theorem dJ4_charAt_1 : decode cJ4_charAt 1 = .ok (.aload_n 0, 1) := dk_42 (dk_at dksJ4_charAt_0 1 rfl rfl)
theorem dJ4_charAt_2 : decode cJ4_charAt 2 = .ok (.arraylength, 1) := dk_190 (dk_at dksJ4_charAt_0 2 rfl rfl)
theorem dJ4_charAt_3 : decode cJ4_charAt 3 = .ok (.invokestatic 9, 3) := dk_184 0 9 (dk_at dksJ4_charAt_0 3 rfl rfl)
theorem dJ4_charAt_6 : decode cJ4_charAt 6 = .ok (.aload_n 0, 1) := dk_42 (dk_at dksJ4_charAt_0 6 rfl rfl)
theorem dJ4_charAt_7 : decode cJ4_charAt 7 = .ok (.iload_n 1, 1) := dk_27 (dk_at dksJ4_charAt_0 7 rfl rfl)
theorem dJ4_charAt_8 : decode cJ4_charAt 8 = .ok (.baload, 1) := dk_51 (dk_at dksJ4_charAt_0 8 rfl rfl)
theorem dJ4_charAt_9 : decode cJ4_charAt 9 = .ok (.sipush 255, 3) := dk_17 0 255 (dk_at dksJ4_charAt_0 9 rfl rfl)
theorem dJ4_charAt_12 : decode cJ4_charAt 12 = .ok (.iand, 1) := dk_126 (dk_at dksJ4_charAt_0 12 rfl rfl)
theorem dJ4_charAt_13 : decode cJ4_charAt 13 = .ok (.i2c, 1) := dk_146 (dk_at dksJ4_charAt_0 13 rfl rfl)
theorem dJ4_charAt_14 : decode cJ4_charAt 14 = .ok (.ireturn, 1) := dk_172 (dk_at dksJ4_charAt_0 14 rfl rfl)
theorem q23 : (Jvm.Cond.initialized "java/lang/StringLatin1") ∈ lw_all := lw_g (lw_at lw_m1 8 rfl) rfl
theorem q174 : (Jvm.Cond.static ({ cls := "java/lang/StringLatin1", name := "charAt", desc := "([BI)C" } : Jvm.MethodName)) ∈ lw_all := lw_g (lw_at lw_m1 159 rfl) rfl
theorem q175 : (Jvm.Cond.code ({ cls := "java/lang/StringLatin1", name := "charAt", desc := "([BI)C" } : Jvm.MethodName) prog_7_method_2_code (2 : Nat) (Option.some Jvm.ClassFile.FieldType.char)) ∈ lw_all := lw_g (lw_at lw_m1 160 rfl) rfl
theorem q176 : (Jvm.Cond.methodLink "java/lang/StringLatin1" (9 : Nat) ({ cls := "java/lang/String", name := "checkIndex", desc := "(II)V" } : Jvm.MethodName)) ∈ lw_all := lw_g (lw_at lw_m1 161 rfl) rfl
end
section
/-! PlacementDesk -/
set_option maxRecDepth 100000
def RX0 : String := "PlacementDesk"
def TX0 : u_T := fun k => match k with
  | 0 => ("PlacementDesk", "word", "[C", true)
  | 1 => ("PlacementDesk", "sheet", "LDefaultPlacement;", false)
  | _ => ("PlacementDesk", "side", "I", false)
def tyX0 : Nat → FieldType := fun k => match k with
  | 0 => .array .char
  | 1 => .object "DefaultPlacement"
  | _ => .int
abbrev wsX00 : List Cond := u_ws RX0 TX0 3
theorem nmX0 : ∀ a, a < 3 → ∀ b, b < 3 → a ≠ b → (TX0 a).2.1 ≠ (TX0 b).2.1 := by decide +kernel
theorem tyX0_ok : ∀ k, k < 3 → parseFieldDescriptor (TX0 k).2.2.1 = some (tyX0 k) := by decide +kernel
abbrev cX0_init : ByteArray := prog_2_method_1_code
def yX0_init : MethodName := ⟨RX0, "<init>", "()V"⟩
def dkwX0_init_1 : List UInt8 := [188, 5, 183, 0, 17, 16, 8, 16, 8, 183, 0, 20, 181, 0, 23, 42, 16, 8, 181, 0, 27, 177]
abbrev dktX0_init_1 : List UInt8 := dkwX0_init_1 ++ []
def dkwX0_init_0 : List UInt8 := [42, 183, 0, 1, 42, 16, 72, 188, 5, 181, 0, 7, 42, 187, 0, 13, 89, 187, 0, 15, 89, 16, 72]
abbrev dktX0_init_0 : List UInt8 := dkwX0_init_0 ++ dktX0_init_1
theorem dksX0_init_0 : cX0_init.data.toList.drop 0 = dktX0_init_0 := by decide +kernel
theorem dksX0_init_1 : cX0_init.data.toList.drop 23 = dktX0_init_1 := dk_seg dksX0_init_0 23 rfl rfl
theorem dX0_init_0 : decode cX0_init 0 = .ok (.aload_n 0, 1) := dk_42 (dk_at dksX0_init_0 0 rfl rfl)
theorem dX0_init_1 : decode cX0_init 1 = .ok (.invokespecial 1, 3) := dk_183 0 1 (dk_at dksX0_init_0 1 rfl rfl)
theorem dX0_init_4 : decode cX0_init 4 = .ok (.aload_n 0, 1) := dk_42 (dk_at dksX0_init_0 4 rfl rfl)
theorem dX0_init_5 : decode cX0_init 5 = .ok (.bipush 72, 2) := dk_16 72 (dk_at dksX0_init_0 5 rfl rfl)
theorem dX0_init_7 : decode cX0_init 7 = .ok (.newarray .char, 2) := dk_188_5 (dk_at dksX0_init_0 7 rfl rfl)
theorem dX0_init_9 : decode cX0_init 9 = .ok (.putfield 7, 3) := dk_181 0 7 (dk_at dksX0_init_0 9 rfl rfl)
theorem dX0_init_12 : decode cX0_init 12 = .ok (.aload_n 0, 1) := dk_42 (dk_at dksX0_init_0 12 rfl rfl)
theorem dX0_init_13 : decode cX0_init 13 = .ok (.new 13, 3) := dk_187 0 13 (dk_at dksX0_init_0 13 rfl rfl)
theorem dX0_init_16 : decode cX0_init 16 = .ok (.dup, 1) := dk_89 (dk_at dksX0_init_0 16 rfl rfl)
theorem dX0_init_17 : decode cX0_init 17 = .ok (.new 15, 3) := dk_187 0 15 (dk_at dksX0_init_0 17 rfl rfl)
theorem dX0_init_20 : decode cX0_init 20 = .ok (.dup, 1) := dk_89 (dk_at dksX0_init_0 20 rfl rfl)
theorem dX0_init_21 : decode cX0_init 21 = .ok (.bipush 72, 2) := dk_16 72 (dk_at dksX0_init_0 21 rfl rfl)
theorem dX0_init_23 : decode cX0_init 23 = .ok (.newarray .char, 2) := dk_188_5 (dk_at dksX0_init_1 0 rfl rfl)
theorem dX0_init_25 : decode cX0_init 25 = .ok (.invokespecial 17, 3) := dk_183 0 17 (dk_at dksX0_init_1 2 rfl rfl)
theorem dX0_init_28 : decode cX0_init 28 = .ok (.bipush 8, 2) := dk_16 8 (dk_at dksX0_init_1 5 rfl rfl)
theorem dX0_init_30 : decode cX0_init 30 = .ok (.bipush 8, 2) := dk_16 8 (dk_at dksX0_init_1 7 rfl rfl)
theorem dX0_init_32 : decode cX0_init 32 = .ok (.invokespecial 20, 3) := dk_183 0 20 (dk_at dksX0_init_1 9 rfl rfl)
theorem dX0_init_35 : decode cX0_init 35 = .ok (.putfield 23, 3) := dk_181 0 23 (dk_at dksX0_init_1 12 rfl rfl)
theorem dX0_init_38 : decode cX0_init 38 = .ok (.aload_n 0, 1) := dk_42 (dk_at dksX0_init_1 15 rfl rfl)
theorem dX0_init_39 : decode cX0_init 39 = .ok (.bipush 8, 2) := dk_16 8 (dk_at dksX0_init_1 16 rfl rfl)
theorem dX0_init_41 : decode cX0_init 41 = .ok (.putfield 27, 3) := dk_181 0 27 (dk_at dksX0_init_1 18 rfl rfl)
theorem dX0_init_44 : decode cX0_init 44 = .ok (.return_, 1) := dk_177 (dk_at dksX0_init_1 21 rfl rfl)
abbrev cX0_put : ByteArray := prog_2_method_2_code
def yX0_put : MethodName := ⟨RX0, "put", "(II)V"⟩
def dkwX0_put_0 : List UInt8 := [42, 180, 0, 7, 27, 18, 31, 126, 16, 72, 112, 28, 17, 0, 255, 126, 146, 85, 177]
abbrev dktX0_put_0 : List UInt8 := dkwX0_put_0 ++ []
theorem dksX0_put_0 : cX0_put.data.toList.drop 0 = dktX0_put_0 := by decide +kernel
theorem dX0_put_0 : decode cX0_put 0 = .ok (.aload_n 0, 1) := dk_42 (dk_at dksX0_put_0 0 rfl rfl)
theorem dX0_put_1 : decode cX0_put 1 = .ok (.getfield 7, 3) := dk_180 0 7 (dk_at dksX0_put_0 1 rfl rfl)
theorem dX0_put_4 : decode cX0_put 4 = .ok (.iload_n 1, 1) := dk_27 (dk_at dksX0_put_0 4 rfl rfl)
theorem dX0_put_5 : decode cX0_put 5 = .ok (.ldc 31, 2) := dk_18 31 (dk_at dksX0_put_0 5 rfl rfl)
theorem dX0_put_7 : decode cX0_put 7 = .ok (.iand, 1) := dk_126 (dk_at dksX0_put_0 7 rfl rfl)
theorem dX0_put_8 : decode cX0_put 8 = .ok (.bipush 72, 2) := dk_16 72 (dk_at dksX0_put_0 8 rfl rfl)
theorem dX0_put_10 : decode cX0_put 10 = .ok (.irem, 1) := dk_112 (dk_at dksX0_put_0 10 rfl rfl)
theorem dX0_put_11 : decode cX0_put 11 = .ok (.iload_n 2, 1) := dk_28 (dk_at dksX0_put_0 11 rfl rfl)
theorem dX0_put_12 : decode cX0_put 12 = .ok (.sipush 255, 3) := dk_17 0 255 (dk_at dksX0_put_0 12 rfl rfl)
theorem dX0_put_15 : decode cX0_put 15 = .ok (.iand, 1) := dk_126 (dk_at dksX0_put_0 15 rfl rfl)
theorem dX0_put_16 : decode cX0_put 16 = .ok (.i2c, 1) := dk_146 (dk_at dksX0_put_0 16 rfl rfl)
theorem dX0_put_17 : decode cX0_put 17 = .ok (.castore, 1) := dk_85 (dk_at dksX0_put_0 17 rfl rfl)
theorem dX0_put_18 : decode cX0_put 18 = .ok (.return_, 1) := dk_177 (dk_at dksX0_put_0 18 rfl rfl)
abbrev cX0_place : ByteArray := prog_2_method_3_code
def yX0_place : MethodName := ⟨RX0, "place", "(I)V"⟩
def dkwX0_place_3 : List UInt8 := [180, 0, 23, 182, 0, 32, 177]
abbrev dktX0_place_3 : List UInt8 := dkwX0_place_3 ++ []
def dkwX0_place_2 : List UInt8 := [42, 180, 0, 7, 183, 0, 17, 42, 180, 0, 27, 42, 180, 0, 27, 183, 0, 20, 181, 0, 23, 42]
abbrev dktX0_place_2 : List UInt8 := dkwX0_place_2 ++ dktX0_place_3
def dkwX0_place_1 : List UInt8 := [28, 5, 160, 0, 8, 16, 12, 167, 0, 5, 16, 14, 181, 0, 27, 42, 187, 0, 13, 89, 187, 0, 15, 89]
abbrev dktX0_place_1 : List UInt8 := dkwX0_place_1 ++ dktX0_place_2
def dkwX0_place_0 : List UInt8 := [27, 6, 126, 61, 42, 28, 154, 0, 8, 16, 8, 167, 0, 25, 28, 4, 160, 0, 8, 16, 10, 167, 0, 15]
abbrev dktX0_place_0 : List UInt8 := dkwX0_place_0 ++ dktX0_place_1
theorem dksX0_place_0 : cX0_place.data.toList.drop 0 = dktX0_place_0 := by decide +kernel
theorem dksX0_place_1 : cX0_place.data.toList.drop 24 = dktX0_place_1 := dk_seg dksX0_place_0 24 rfl rfl
theorem dksX0_place_2 : cX0_place.data.toList.drop 48 = dktX0_place_2 := dk_seg dksX0_place_1 24 rfl rfl
theorem dksX0_place_3 : cX0_place.data.toList.drop 70 = dktX0_place_3 := dk_seg dksX0_place_2 22 rfl rfl
theorem dX0_place_0 : decode cX0_place 0 = .ok (.iload_n 1, 1) := dk_27 (dk_at dksX0_place_0 0 rfl rfl)
theorem dX0_place_1 : decode cX0_place 1 = .ok (.iconst 3, 1) := dk_6 (dk_at dksX0_place_0 1 rfl rfl)
theorem dX0_place_2 : decode cX0_place 2 = .ok (.iand, 1) := dk_126 (dk_at dksX0_place_0 2 rfl rfl)
theorem dX0_place_3 : decode cX0_place 3 = .ok (.istore_n 2, 1) := dk_61 (dk_at dksX0_place_0 3 rfl rfl)
theorem dX0_place_4 : decode cX0_place 4 = .ok (.aload_n 0, 1) := dk_42 (dk_at dksX0_place_0 4 rfl rfl)
theorem dX0_place_5 : decode cX0_place 5 = .ok (.iload_n 2, 1) := dk_28 (dk_at dksX0_place_0 5 rfl rfl)
theorem dX0_place_6 : decode cX0_place 6 = .ok (.ifCond .ne 8, 3) := dk_154 0 8 (dk_at dksX0_place_0 6 rfl rfl)
theorem dX0_place_9 : decode cX0_place 9 = .ok (.bipush 8, 2) := dk_16 8 (dk_at dksX0_place_0 9 rfl rfl)
theorem dX0_place_11 : decode cX0_place 11 = .ok (.goto 25, 3) := dk_167 0 25 (dk_at dksX0_place_0 11 rfl rfl)
theorem dX0_place_14 : decode cX0_place 14 = .ok (.iload_n 2, 1) := dk_28 (dk_at dksX0_place_0 14 rfl rfl)
theorem dX0_place_15 : decode cX0_place 15 = .ok (.iconst 1, 1) := dk_4 (dk_at dksX0_place_0 15 rfl rfl)
theorem dX0_place_16 : decode cX0_place 16 = .ok (.if_icmp .ne 8, 3) := dk_160 0 8 (dk_at dksX0_place_0 16 rfl rfl)
theorem dX0_place_19 : decode cX0_place 19 = .ok (.bipush 10, 2) := dk_16 10 (dk_at dksX0_place_0 19 rfl rfl)
theorem dX0_place_21 : decode cX0_place 21 = .ok (.goto 15, 3) := dk_167 0 15 (dk_at dksX0_place_0 21 rfl rfl)
theorem dX0_place_24 : decode cX0_place 24 = .ok (.iload_n 2, 1) := dk_28 (dk_at dksX0_place_1 0 rfl rfl)
theorem dX0_place_25 : decode cX0_place 25 = .ok (.iconst 2, 1) := dk_5 (dk_at dksX0_place_1 1 rfl rfl)
theorem dX0_place_26 : decode cX0_place 26 = .ok (.if_icmp .ne 8, 3) := dk_160 0 8 (dk_at dksX0_place_1 2 rfl rfl)
theorem dX0_place_29 : decode cX0_place 29 = .ok (.bipush 12, 2) := dk_16 12 (dk_at dksX0_place_1 5 rfl rfl)
theorem dX0_place_31 : decode cX0_place 31 = .ok (.goto 5, 3) := dk_167 0 5 (dk_at dksX0_place_1 7 rfl rfl)
theorem dX0_place_34 : decode cX0_place 34 = .ok (.bipush 14, 2) := dk_16 14 (dk_at dksX0_place_1 10 rfl rfl)
theorem dX0_place_36 : decode cX0_place 36 = .ok (.putfield 27, 3) := dk_181 0 27 (dk_at dksX0_place_1 12 rfl rfl)
theorem dX0_place_39 : decode cX0_place 39 = .ok (.aload_n 0, 1) := dk_42 (dk_at dksX0_place_1 15 rfl rfl)
theorem dX0_place_40 : decode cX0_place 40 = .ok (.new 13, 3) := dk_187 0 13 (dk_at dksX0_place_1 16 rfl rfl)
theorem dX0_place_43 : decode cX0_place 43 = .ok (.dup, 1) := dk_89 (dk_at dksX0_place_1 19 rfl rfl)
theorem dX0_place_44 : decode cX0_place 44 = .ok (.new 15, 3) := dk_187 0 15 (dk_at dksX0_place_1 20 rfl rfl)
theorem dX0_place_47 : decode cX0_place 47 = .ok (.dup, 1) := dk_89 (dk_at dksX0_place_1 23 rfl rfl)
theorem dX0_place_48 : decode cX0_place 48 = .ok (.aload_n 0, 1) := dk_42 (dk_at dksX0_place_2 0 rfl rfl)
theorem dX0_place_49 : decode cX0_place 49 = .ok (.getfield 7, 3) := dk_180 0 7 (dk_at dksX0_place_2 1 rfl rfl)
theorem dX0_place_52 : decode cX0_place 52 = .ok (.invokespecial 17, 3) := dk_183 0 17 (dk_at dksX0_place_2 4 rfl rfl)
theorem dX0_place_55 : decode cX0_place 55 = .ok (.aload_n 0, 1) := dk_42 (dk_at dksX0_place_2 7 rfl rfl)
theorem dX0_place_56 : decode cX0_place 56 = .ok (.getfield 27, 3) := dk_180 0 27 (dk_at dksX0_place_2 8 rfl rfl)
theorem dX0_place_59 : decode cX0_place 59 = .ok (.aload_n 0, 1) := dk_42 (dk_at dksX0_place_2 11 rfl rfl)
theorem dX0_place_60 : decode cX0_place 60 = .ok (.getfield 27, 3) := dk_180 0 27 (dk_at dksX0_place_2 12 rfl rfl)
theorem dX0_place_63 : decode cX0_place 63 = .ok (.invokespecial 20, 3) := dk_183 0 20 (dk_at dksX0_place_2 15 rfl rfl)
theorem dX0_place_66 : decode cX0_place 66 = .ok (.putfield 23, 3) := dk_181 0 23 (dk_at dksX0_place_2 18 rfl rfl)
theorem dX0_place_69 : decode cX0_place 69 = .ok (.aload_n 0, 1) := dk_42 (dk_at dksX0_place_2 21 rfl rfl)
theorem dX0_place_70 : decode cX0_place 70 = .ok (.getfield 23, 3) := dk_180 0 23 (dk_at dksX0_place_3 0 rfl rfl)
theorem dX0_place_73 : decode cX0_place 73 = .ok (.invokevirtual 32, 3) := dk_182 0 32 (dk_at dksX0_place_3 3 rfl rfl)
theorem dX0_place_76 : decode cX0_place 76 = .ok (.return_, 1) := dk_177 (dk_at dksX0_place_3 6 rfl rfl)
abbrev cX0_bit : ByteArray := prog_2_method_4_code
def yX0_bit : MethodName := ⟨RX0, "bit", "(II)Z"⟩
def dkwX0_bit_1 : List UInt8 := [182, 0, 35, 172]
abbrev dktX0_bit_1 : List UInt8 := dkwX0_bit_1 ++ []
def dkwX0_bit_0 : List UInt8 := [42, 180, 0, 23, 27, 18, 31, 126, 42, 180, 0, 27, 112, 28, 18, 31, 126, 42, 180, 0, 27, 112]
abbrev dktX0_bit_0 : List UInt8 := dkwX0_bit_0 ++ dktX0_bit_1
theorem dksX0_bit_0 : cX0_bit.data.toList.drop 0 = dktX0_bit_0 := by decide +kernel
theorem dksX0_bit_1 : cX0_bit.data.toList.drop 22 = dktX0_bit_1 := dk_seg dksX0_bit_0 22 rfl rfl
theorem dX0_bit_0 : decode cX0_bit 0 = .ok (.aload_n 0, 1) := dk_42 (dk_at dksX0_bit_0 0 rfl rfl)
theorem dX0_bit_1 : decode cX0_bit 1 = .ok (.getfield 23, 3) := dk_180 0 23 (dk_at dksX0_bit_0 1 rfl rfl)
theorem dX0_bit_4 : decode cX0_bit 4 = .ok (.iload_n 1, 1) := dk_27 (dk_at dksX0_bit_0 4 rfl rfl)
theorem dX0_bit_5 : decode cX0_bit 5 = .ok (.ldc 31, 2) := dk_18 31 (dk_at dksX0_bit_0 5 rfl rfl)
theorem dX0_bit_7 : decode cX0_bit 7 = .ok (.iand, 1) := dk_126 (dk_at dksX0_bit_0 7 rfl rfl)
theorem dX0_bit_8 : decode cX0_bit 8 = .ok (.aload_n 0, 1) := dk_42 (dk_at dksX0_bit_0 8 rfl rfl)
theorem dX0_bit_9 : decode cX0_bit 9 = .ok (.getfield 27, 3) := dk_180 0 27 (dk_at dksX0_bit_0 9 rfl rfl)
theorem dX0_bit_12 : decode cX0_bit 12 = .ok (.irem, 1) := dk_112 (dk_at dksX0_bit_0 12 rfl rfl)
theorem dX0_bit_13 : decode cX0_bit 13 = .ok (.iload_n 2, 1) := dk_28 (dk_at dksX0_bit_0 13 rfl rfl)
theorem dX0_bit_14 : decode cX0_bit 14 = .ok (.ldc 31, 2) := dk_18 31 (dk_at dksX0_bit_0 14 rfl rfl)
theorem dX0_bit_16 : decode cX0_bit 16 = .ok (.iand, 1) := dk_126 (dk_at dksX0_bit_0 16 rfl rfl)
theorem dX0_bit_17 : decode cX0_bit 17 = .ok (.aload_n 0, 1) := dk_42 (dk_at dksX0_bit_0 17 rfl rfl)
theorem dX0_bit_18 : decode cX0_bit 18 = .ok (.getfield 27, 3) := dk_180 0 27 (dk_at dksX0_bit_0 18 rfl rfl)
theorem dX0_bit_21 : decode cX0_bit 21 = .ok (.irem, 1) := dk_112 (dk_at dksX0_bit_0 21 rfl rfl)
theorem dX0_bit_22 : decode cX0_bit 22 = .ok (.invokevirtual 35, 3) := dk_182 0 35 (dk_at dksX0_bit_1 0 rfl rfl)
theorem dX0_bit_25 : decode cX0_bit 25 = .ok (.ireturn, 1) := dk_172 (dk_at dksX0_bit_1 3 rfl rfl)
abbrev cX0_side : ByteArray := prog_2_method_5_code
def yX0_side : MethodName := ⟨RX0, "side", "()I"⟩
theorem dX0_side_0 : decode cX0_side 0 = .ok (.aload_n 0, 1) := by decide +kernel
theorem dX0_side_1 : decode cX0_side 1 = .ok (.getfield 27, 3) := by decide +kernel
theorem dX0_side_4 : decode cX0_side 4 = .ok (.ireturn, 1) := by decide +kernel
theorem q16 : (Jvm.Cond.initialized "PlacementDesk") ∈ lw_all := lw_g (lw_at lw_m1 1 rfl) rfl
theorem q25 : (Jvm.Cond.instantiable "PlacementDesk" (3 : Nat)) ∈ lw_all := lw_g (lw_at lw_m1 10 rfl) rfl
theorem q27 : (Jvm.Cond.instanceMethod ({ cls := "PlacementDesk", name := "<init>", desc := "()V" } : Jvm.MethodName)) ∈ lw_all := lw_g (lw_at lw_m1 12 rfl) rfl
theorem q28 : (Jvm.Cond.code ({ cls := "PlacementDesk", name := "<init>", desc := "()V" } : Jvm.MethodName) prog_2_method_1_code (1 : Nat) (Option.none : Option Jvm.ClassFile.FieldType)) ∈ lw_all := lw_g (lw_at lw_m1 13 rfl) rfl
theorem q29 : (Jvm.Cond.methodLink "PlacementDesk" (1 : Nat) ({ cls := "java/lang/Object", name := "<init>", desc := "()V" } : Jvm.MethodName)) ∈ lw_all := lw_g (lw_at lw_m1 14 rfl) rfl
theorem q32 : (Jvm.Cond.classLink "PlacementDesk" (13 : Nat) "DefaultPlacement") ∈ lw_all := lw_g (lw_at lw_m1 17 rfl) rfl
theorem q34 : (Jvm.Cond.classLink "PlacementDesk" (15 : Nat) "java/lang/String") ∈ lw_all := lw_g (lw_at lw_m1 19 rfl) rfl
theorem q36 : (Jvm.Cond.methodLink "PlacementDesk" (17 : Nat) ({ cls := "java/lang/String", name := "<init>", desc := "([C)V" } : Jvm.MethodName)) ∈ lw_all := lw_g (lw_at lw_m1 21 rfl) rfl
theorem q108 : (Jvm.Cond.methodLink "PlacementDesk" (20 : Nat) ({ cls := "DefaultPlacement", name := "<init>", desc := "(Ljava/lang/CharSequence;II)V" } : Jvm.MethodName)) ∈ lw_all := lw_g (lw_at lw_m1 93 rfl) rfl
theorem q128 : (Jvm.Cond.fieldLink "PlacementDesk" (7 : Nat) "PlacementDesk" "word" "[C") ∈ lw_all := lw_g (lw_at lw_m1 113 rfl) rfl
theorem q129 : (Jvm.Cond.fieldLink "PlacementDesk" (23 : Nat) "PlacementDesk" "sheet" "LDefaultPlacement;") ∈ lw_all := lw_g (lw_at lw_m1 114 rfl) rfl
theorem q130 : (Jvm.Cond.fieldLink "PlacementDesk" (27 : Nat) "PlacementDesk" "side" "I") ∈ lw_all := lw_g (lw_at lw_m1 115 rfl) rfl
theorem q131 : (Jvm.Cond.laysFinal "PlacementDesk" "PlacementDesk" "word" "[C") ∈ lw_all := lw_g (lw_at lw_m1 116 rfl) rfl
theorem q132 : (Jvm.Cond.soleField "PlacementDesk" "word") ∈ lw_all := lw_g (lw_at lw_m1 117 rfl) rfl
theorem q133 : (Jvm.Cond.lays "PlacementDesk" "PlacementDesk" "sheet" "LDefaultPlacement;") ∈ lw_all := lw_g (lw_at lw_m1 118 rfl) rfl
theorem q134 : (Jvm.Cond.soleField "PlacementDesk" "sheet") ∈ lw_all := lw_g (lw_at lw_m1 119 rfl) rfl
theorem q135 : (Jvm.Cond.lays "PlacementDesk" "PlacementDesk" "side" "I") ∈ lw_all := lw_g (lw_at lw_m1 120 rfl) rfl
theorem q136 : (Jvm.Cond.soleField "PlacementDesk" "side") ∈ lw_all := lw_g (lw_at lw_m1 121 rfl) rfl
theorem q137 : (Jvm.Cond.superclass "PlacementDesk" "java/lang/Object") ∈ lw_all := lw_g (lw_at lw_m1 122 rfl) rfl
theorem q139 : (Jvm.Cond.instanceMethod ({ cls := "PlacementDesk", name := "put", desc := "(II)V" } : Jvm.MethodName)) ∈ lw_all := lw_g (lw_at lw_m1 124 rfl) rfl
theorem q140 : (Jvm.Cond.selects "PlacementDesk" ({ cls := "PlacementDesk", name := "put", desc := "(II)V" } : Jvm.MethodName) ({ cls := "PlacementDesk", name := "put", desc := "(II)V" } : Jvm.MethodName)) ∈ lw_all := lw_g (lw_at lw_m1 125 rfl) rfl
theorem q141 : (Jvm.Cond.code ({ cls := "PlacementDesk", name := "put", desc := "(II)V" } : Jvm.MethodName) prog_2_method_2_code (3 : Nat) (Option.none : Option Jvm.ClassFile.FieldType)) ∈ lw_all := lw_g (lw_at lw_m1 126 rfl) rfl
theorem q142 : (Jvm.Cond.constant "PlacementDesk" (31 : Nat) (2147483647 : Int32)) ∈ lw_all := lw_g (lw_at lw_m1 127 rfl) rfl
theorem q144 : (Jvm.Cond.instanceMethod ({ cls := "PlacementDesk", name := "place", desc := "(I)V" } : Jvm.MethodName)) ∈ lw_all := lw_g (lw_at lw_m1 129 rfl) rfl
theorem q145 : (Jvm.Cond.selects "PlacementDesk" ({ cls := "PlacementDesk", name := "place", desc := "(I)V" } : Jvm.MethodName) ({ cls := "PlacementDesk", name := "place", desc := "(I)V" } : Jvm.MethodName)) ∈ lw_all := lw_g (lw_at lw_m1 130 rfl) rfl
theorem q146 : (Jvm.Cond.code ({ cls := "PlacementDesk", name := "place", desc := "(I)V" } : Jvm.MethodName) prog_2_method_3_code (3 : Nat) (Option.none : Option Jvm.ClassFile.FieldType)) ∈ lw_all := lw_g (lw_at lw_m1 131 rfl) rfl
theorem q147 : (Jvm.Cond.methodLink "PlacementDesk" (32 : Nat) ({ cls := "DefaultPlacement", name := "place", desc := "()V" } : Jvm.MethodName)) ∈ lw_all := lw_g (lw_at lw_m1 132 rfl) rfl
theorem q214 : (Jvm.Cond.instanceMethod ({ cls := "PlacementDesk", name := "bit", desc := "(II)Z" } : Jvm.MethodName)) ∈ lw_all := lw_g (lw_at lw_m1 199 rfl) rfl
theorem q215 : (Jvm.Cond.selects "PlacementDesk" ({ cls := "PlacementDesk", name := "bit", desc := "(II)Z" } : Jvm.MethodName) ({ cls := "PlacementDesk", name := "bit", desc := "(II)Z" } : Jvm.MethodName)) ∈ lw_all := lw_g (lw_at lw_m1 200 rfl) rfl
theorem q216 : (Jvm.Cond.code ({ cls := "PlacementDesk", name := "bit", desc := "(II)Z" } : Jvm.MethodName) prog_2_method_4_code (3 : Nat) (Option.some Jvm.ClassFile.FieldType.boolean)) ∈ lw_all := lw_g (lw_at lw_m1 201 rfl) rfl
theorem q217 : (Jvm.Cond.methodLink "PlacementDesk" (35 : Nat) ({ cls := "DefaultPlacement", name := "getBit", desc := "(II)Z" } : Jvm.MethodName)) ∈ lw_all := lw_g (lw_at lw_m1 202 rfl) rfl
theorem q222 : (Jvm.Cond.instanceMethod ({ cls := "PlacementDesk", name := "side", desc := "()I" } : Jvm.MethodName)) ∈ lw_all := lw_g (lw_at lw_m1 207 rfl) rfl
theorem q223 : (Jvm.Cond.selects "PlacementDesk" ({ cls := "PlacementDesk", name := "side", desc := "()I" } : Jvm.MethodName) ({ cls := "PlacementDesk", name := "side", desc := "()I" } : Jvm.MethodName)) ∈ lw_all := lw_g (lw_at lw_m1 208 rfl) rfl
theorem q224 : (Jvm.Cond.code ({ cls := "PlacementDesk", name := "side", desc := "()I" } : Jvm.MethodName) prog_2_method_5_code (1 : Nat) (Option.some Jvm.ClassFile.FieldType.int)) ∈ lw_all := lw_g (lw_at lw_m1 209 rfl) rfl
theorem in_X0 : ∀ w ∈ wsX00, w ∈ lw_all := lw_in wsX00 [131, 133, 135] (by decide +kernel) (by decide +kernel)

/-! DefaultPlacement -/
set_option maxRecDepth 100000
def RX1 : String := "DefaultPlacement"
def TX1 : u_T := fun k => match k with
  | 0 => ("DefaultPlacement", "codewords", "Ljava/lang/CharSequence;", true)
  | 1 => ("DefaultPlacement", "numrows", "I", true)
  | 2 => ("DefaultPlacement", "numcols", "I", true)
  | _ => ("DefaultPlacement", "bits", "[B", true)
def tyX1 : Nat → FieldType := fun k => match k with
  | 0 => .object "java/lang/CharSequence"
  | 1 => .int
  | 2 => .int
  | _ => .array .byte
abbrev wsX10 : List Cond := u_ws RX1 TX1 4
theorem nmX1 : ∀ a, a < 4 → ∀ b, b < 4 → a ≠ b → (TX1 a).2.1 ≠ (TX1 b).2.1 := by decide +kernel
theorem tyX1_ok : ∀ k, k < 4 → parseFieldDescriptor (TX1 k).2.2.1 = some (tyX1 k) := by decide +kernel
abbrev cX1_init : ByteArray := prog_1_method_1_code
def yX1_init : MethodName := ⟨RX1, "<init>", "(Ljava/lang/CharSequence;II)V"⟩
def dkwX1_init_1 : List UInt8 := [188, 8, 181, 0, 20, 42, 180, 0, 20, 2, 184, 0, 24, 177]
abbrev dktX1_init_1 : List UInt8 := dkwX1_init_1 ++ []
def dkwX1_init_0 : List UInt8 := [42, 183, 0, 1, 42, 43, 181, 0, 7, 42, 28, 181, 0, 13, 42, 29, 181, 0, 17, 42, 28, 29, 104]
abbrev dktX1_init_0 : List UInt8 := dkwX1_init_0 ++ dktX1_init_1
theorem dksX1_init_0 : cX1_init.data.toList.drop 0 = dktX1_init_0 := by decide +kernel
theorem dksX1_init_1 : cX1_init.data.toList.drop 23 = dktX1_init_1 := dk_seg dksX1_init_0 23 rfl rfl
theorem dX1_init_0 : decode cX1_init 0 = .ok (.aload_n 0, 1) := dk_42 (dk_at dksX1_init_0 0 rfl rfl)
theorem dX1_init_1 : decode cX1_init 1 = .ok (.invokespecial 1, 3) := dk_183 0 1 (dk_at dksX1_init_0 1 rfl rfl)
theorem dX1_init_4 : decode cX1_init 4 = .ok (.aload_n 0, 1) := dk_42 (dk_at dksX1_init_0 4 rfl rfl)
theorem dX1_init_5 : decode cX1_init 5 = .ok (.aload_n 1, 1) := dk_43 (dk_at dksX1_init_0 5 rfl rfl)
theorem dX1_init_6 : decode cX1_init 6 = .ok (.putfield 7, 3) := dk_181 0 7 (dk_at dksX1_init_0 6 rfl rfl)
theorem dX1_init_9 : decode cX1_init 9 = .ok (.aload_n 0, 1) := dk_42 (dk_at dksX1_init_0 9 rfl rfl)
theorem dX1_init_10 : decode cX1_init 10 = .ok (.iload_n 2, 1) := dk_28 (dk_at dksX1_init_0 10 rfl rfl)
theorem dX1_init_11 : decode cX1_init 11 = .ok (.putfield 13, 3) := dk_181 0 13 (dk_at dksX1_init_0 11 rfl rfl)
theorem dX1_init_14 : decode cX1_init 14 = .ok (.aload_n 0, 1) := dk_42 (dk_at dksX1_init_0 14 rfl rfl)
theorem dX1_init_15 : decode cX1_init 15 = .ok (.iload_n 3, 1) := dk_29 (dk_at dksX1_init_0 15 rfl rfl)
theorem dX1_init_16 : decode cX1_init 16 = .ok (.putfield 17, 3) := dk_181 0 17 (dk_at dksX1_init_0 16 rfl rfl)
theorem dX1_init_19 : decode cX1_init 19 = .ok (.aload_n 0, 1) := dk_42 (dk_at dksX1_init_0 19 rfl rfl)
theorem dX1_init_20 : decode cX1_init 20 = .ok (.iload_n 2, 1) := dk_28 (dk_at dksX1_init_0 20 rfl rfl)
theorem dX1_init_21 : decode cX1_init 21 = .ok (.iload_n 3, 1) := dk_29 (dk_at dksX1_init_0 21 rfl rfl)
theorem dX1_init_22 : decode cX1_init 22 = .ok (.imul, 1) := dk_104 (dk_at dksX1_init_0 22 rfl rfl)
theorem dX1_init_23 : decode cX1_init 23 = .ok (.newarray .byte, 2) := dk_188_8 (dk_at dksX1_init_1 0 rfl rfl)
theorem dX1_init_25 : decode cX1_init 25 = .ok (.putfield 20, 3) := dk_181 0 20 (dk_at dksX1_init_1 2 rfl rfl)
theorem dX1_init_28 : decode cX1_init 28 = .ok (.aload_n 0, 1) := dk_42 (dk_at dksX1_init_1 5 rfl rfl)
theorem dX1_init_29 : decode cX1_init 29 = .ok (.getfield 20, 3) := dk_180 0 20 (dk_at dksX1_init_1 6 rfl rfl)
theorem dX1_init_32 : decode cX1_init 32 = .ok (.iconst (-1), 1) := dk_2 (dk_at dksX1_init_1 9 rfl rfl)
theorem dX1_init_33 : decode cX1_init 33 = .ok (.invokestatic 24, 3) := dk_184 0 24 (dk_at dksX1_init_1 10 rfl rfl)
theorem dX1_init_36 : decode cX1_init 36 = .ok (.return_, 1) := dk_177 (dk_at dksX1_init_1 13 rfl rfl)
abbrev cX1_place : ByteArray := prog_1_method_5_code
def yX1_place : MethodName := ⟨RX1, "place", "()V"⟩
def dkwX1_place_13 : List UInt8 := [182, 0, 51, 177]
abbrev dktX1_place_13 : List UInt8 := dkwX1_place_13 ++ []
def dkwX1_place_12 : List UInt8 := [180, 0, 17, 4, 100, 4, 182, 0, 51, 42, 42, 180, 0, 13, 5, 100, 42, 180, 0, 17, 5, 100, 4]
abbrev dktX1_place_12 : List UInt8 := dkwX1_place_12 ++ dktX1_place_13
def dkwX1_place_11 : List UInt8 := [4, 100, 42, 180, 0, 17, 4, 100, 182, 0, 43, 153, 0, 37, 42, 42, 180, 0, 13, 4, 100, 42]
abbrev dktX1_place_11 : List UInt8 := dkwX1_place_11 ++ dktX1_place_12
def dkwX1_place_10 : List UInt8 := [132, 3, 1, 28, 42, 180, 0, 17, 161, 255, 24, 29, 42, 180, 0, 13, 161, 255, 16, 42, 42, 180, 0, 13]
abbrev dktX1_place_10 : List UInt8 := dkwX1_place_10 ++ dktX1_place_11
def dkwX1_place_9 : List UInt8 := [182, 0, 47, 132, 2, 2, 132, 3, 254, 28, 42, 180, 0, 17, 162, 0, 7, 29, 156, 255, 210, 132, 2, 3]
abbrev dktX1_place_9 : List UInt8 := dkwX1_place_9 ++ dktX1_place_10
def dkwX1_place_8 : List UInt8 := [180, 0, 13, 162, 0, 22, 42, 29, 28, 182, 0, 43, 153, 0, 13, 42, 28, 29, 27, 132, 1, 1]
abbrev dktX1_place_8 : List UInt8 := dkwX1_place_8 ++ dktX1_place_9
def dkwX1_place_7 : List UInt8 := [155, 0, 11, 29, 42, 180, 0, 13, 161, 255, 210, 132, 2, 1, 132, 3, 3, 28, 155, 0, 30, 29, 42]
abbrev dktX1_place_7 : List UInt8 := dkwX1_place_7 ++ dktX1_place_8
def dkwX1_place_6 : List UInt8 := [182, 0, 43, 153, 0, 13, 42, 28, 29, 27, 132, 1, 1, 182, 0, 47, 132, 2, 254, 132, 3, 2, 28]
abbrev dktX1_place_6 : List UInt8 := dkwX1_place_6 ++ dktX1_place_7
def dkwX1_place_5 : List UInt8 := [27, 132, 1, 1, 182, 0, 40, 28, 42, 180, 0, 17, 162, 0, 26, 29, 155, 0, 22, 42, 29, 28]
abbrev dktX1_place_5 : List UInt8 := dkwX1_place_5 ++ dktX1_place_6
def dkwX1_place_4 : List UInt8 := [180, 0, 17, 7, 96, 160, 0, 26, 29, 5, 160, 0, 21, 42, 180, 0, 13, 16, 8, 112, 154, 0, 11, 42]
abbrev dktX1_place_4 : List UInt8 := dkwX1_place_4 ++ dktX1_place_5
def dkwX1_place_3 : List UInt8 := [154, 0, 22, 42, 180, 0, 13, 16, 8, 112, 7, 160, 0, 11, 42, 27, 132, 1, 1, 182, 0, 37, 28, 42]
abbrev dktX1_place_3 : List UInt8 := dkwX1_place_3 ++ dktX1_place_4
def dkwX1_place_2 : List UInt8 := [153, 0, 11, 42, 27, 132, 1, 1, 182, 0, 34, 28, 42, 180, 0, 17, 5, 100, 160, 0, 26, 29]
abbrev dktX1_place_2 : List UInt8 := dkwX1_place_2 ++ dktX1_place_3
def dkwX1_place_1 : List UInt8 := [182, 0, 30, 28, 42, 180, 0, 17, 5, 100, 160, 0, 24, 29, 154, 0, 20, 42, 180, 0, 13, 7, 112]
abbrev dktX1_place_1 : List UInt8 := dkwX1_place_1 ++ dktX1_place_2
def dkwX1_place_0 : List UInt8 := [3, 60, 7, 61, 3, 62, 28, 42, 180, 0, 17, 160, 0, 15, 29, 154, 0, 11, 42, 27, 132, 1, 1]
abbrev dktX1_place_0 : List UInt8 := dkwX1_place_0 ++ dktX1_place_1
theorem dksX1_place_0 : cX1_place.data.toList.drop 0 = dktX1_place_0 := by decide +kernel
theorem dksX1_place_1 : cX1_place.data.toList.drop 23 = dktX1_place_1 := dk_seg dksX1_place_0 23 rfl rfl
theorem dksX1_place_2 : cX1_place.data.toList.drop 46 = dktX1_place_2 := dk_seg dksX1_place_1 23 rfl rfl
theorem dksX1_place_3 : cX1_place.data.toList.drop 68 = dktX1_place_3 := dk_seg dksX1_place_2 22 rfl rfl
theorem dksX1_place_4 : cX1_place.data.toList.drop 92 = dktX1_place_4 := dk_seg dksX1_place_3 24 rfl rfl
theorem dksX1_place_5 : cX1_place.data.toList.drop 116 = dktX1_place_5 := dk_seg dksX1_place_4 24 rfl rfl
theorem dksX1_place_6 : cX1_place.data.toList.drop 138 = dktX1_place_6 := dk_seg dksX1_place_5 22 rfl rfl
theorem dksX1_place_7 : cX1_place.data.toList.drop 161 = dktX1_place_7 := dk_seg dksX1_place_6 23 rfl rfl
theorem dksX1_place_8 : cX1_place.data.toList.drop 184 = dktX1_place_8 := dk_seg dksX1_place_7 23 rfl rfl
theorem dksX1_place_9 : cX1_place.data.toList.drop 206 = dktX1_place_9 := dk_seg dksX1_place_8 22 rfl rfl
theorem dksX1_place_10 : cX1_place.data.toList.drop 230 = dktX1_place_10 := dk_seg dksX1_place_9 24 rfl rfl
theorem dksX1_place_11 : cX1_place.data.toList.drop 254 = dktX1_place_11 := dk_seg dksX1_place_10 24 rfl rfl
theorem dksX1_place_12 : cX1_place.data.toList.drop 276 = dktX1_place_12 := dk_seg dksX1_place_11 22 rfl rfl
theorem dksX1_place_13 : cX1_place.data.toList.drop 299 = dktX1_place_13 := dk_seg dksX1_place_12 23 rfl rfl
theorem dX1_place_0 : decode cX1_place 0 = .ok (.iconst 0, 1) := dk_3 (dk_at dksX1_place_0 0 rfl rfl)
theorem dX1_place_1 : decode cX1_place 1 = .ok (.istore_n 1, 1) := dk_60 (dk_at dksX1_place_0 1 rfl rfl)
theorem dX1_place_2 : decode cX1_place 2 = .ok (.iconst 4, 1) := dk_7 (dk_at dksX1_place_0 2 rfl rfl)
theorem dX1_place_3 : decode cX1_place 3 = .ok (.istore_n 2, 1) := dk_61 (dk_at dksX1_place_0 3 rfl rfl)
theorem dX1_place_4 : decode cX1_place 4 = .ok (.iconst 0, 1) := dk_3 (dk_at dksX1_place_0 4 rfl rfl)
theorem dX1_place_5 : decode cX1_place 5 = .ok (.istore_n 3, 1) := dk_62 (dk_at dksX1_place_0 5 rfl rfl)
theorem dX1_place_6 : decode cX1_place 6 = .ok (.iload_n 2, 1) := dk_28 (dk_at dksX1_place_0 6 rfl rfl)
theorem dX1_place_7 : decode cX1_place 7 = .ok (.aload_n 0, 1) := dk_42 (dk_at dksX1_place_0 7 rfl rfl)
theorem dX1_place_8 : decode cX1_place 8 = .ok (.getfield 17, 3) := dk_180 0 17 (dk_at dksX1_place_0 8 rfl rfl)
theorem dX1_place_11 : decode cX1_place 11 = .ok (.if_icmp .ne 15, 3) := dk_160 0 15 (dk_at dksX1_place_0 11 rfl rfl)
theorem dX1_place_14 : decode cX1_place 14 = .ok (.iload_n 3, 1) := dk_29 (dk_at dksX1_place_0 14 rfl rfl)
theorem dX1_place_15 : decode cX1_place 15 = .ok (.ifCond .ne 11, 3) := dk_154 0 11 (dk_at dksX1_place_0 15 rfl rfl)
theorem dX1_place_18 : decode cX1_place 18 = .ok (.aload_n 0, 1) := dk_42 (dk_at dksX1_place_0 18 rfl rfl)
theorem dX1_place_19 : decode cX1_place 19 = .ok (.iload_n 1, 1) := dk_27 (dk_at dksX1_place_0 19 rfl rfl)
theorem dX1_place_20 : decode cX1_place 20 = .ok (.iinc 1 1, 3) := dk_132 1 1 (dk_at dksX1_place_0 20 rfl rfl)
theorem dX1_place_23 : decode cX1_place 23 = .ok (.invokevirtual 30, 3) := dk_182 0 30 (dk_at dksX1_place_1 0 rfl rfl)
theorem dX1_place_26 : decode cX1_place 26 = .ok (.iload_n 2, 1) := dk_28 (dk_at dksX1_place_1 3 rfl rfl)
theorem dX1_place_27 : decode cX1_place 27 = .ok (.aload_n 0, 1) := dk_42 (dk_at dksX1_place_1 4 rfl rfl)
theorem dX1_place_28 : decode cX1_place 28 = .ok (.getfield 17, 3) := dk_180 0 17 (dk_at dksX1_place_1 5 rfl rfl)
theorem dX1_place_31 : decode cX1_place 31 = .ok (.iconst 2, 1) := dk_5 (dk_at dksX1_place_1 8 rfl rfl)
theorem dX1_place_32 : decode cX1_place 32 = .ok (.isub, 1) := dk_100 (dk_at dksX1_place_1 9 rfl rfl)
theorem dX1_place_33 : decode cX1_place 33 = .ok (.if_icmp .ne 24, 3) := dk_160 0 24 (dk_at dksX1_place_1 10 rfl rfl)
theorem dX1_place_36 : decode cX1_place 36 = .ok (.iload_n 3, 1) := dk_29 (dk_at dksX1_place_1 13 rfl rfl)
theorem dX1_place_37 : decode cX1_place 37 = .ok (.ifCond .ne 20, 3) := dk_154 0 20 (dk_at dksX1_place_1 14 rfl rfl)
theorem dX1_place_40 : decode cX1_place 40 = .ok (.aload_n 0, 1) := dk_42 (dk_at dksX1_place_1 17 rfl rfl)
theorem dX1_place_41 : decode cX1_place 41 = .ok (.getfield 13, 3) := dk_180 0 13 (dk_at dksX1_place_1 18 rfl rfl)
theorem dX1_place_44 : decode cX1_place 44 = .ok (.iconst 4, 1) := dk_7 (dk_at dksX1_place_1 21 rfl rfl)
theorem dX1_place_45 : decode cX1_place 45 = .ok (.irem, 1) := dk_112 (dk_at dksX1_place_1 22 rfl rfl)
theorem dX1_place_46 : decode cX1_place 46 = .ok (.ifCond .eq 11, 3) := dk_153 0 11 (dk_at dksX1_place_2 0 rfl rfl)
theorem dX1_place_49 : decode cX1_place 49 = .ok (.aload_n 0, 1) := dk_42 (dk_at dksX1_place_2 3 rfl rfl)
theorem dX1_place_50 : decode cX1_place 50 = .ok (.iload_n 1, 1) := dk_27 (dk_at dksX1_place_2 4 rfl rfl)
theorem dX1_place_51 : decode cX1_place 51 = .ok (.iinc 1 1, 3) := dk_132 1 1 (dk_at dksX1_place_2 5 rfl rfl)
theorem dX1_place_54 : decode cX1_place 54 = .ok (.invokevirtual 34, 3) := dk_182 0 34 (dk_at dksX1_place_2 8 rfl rfl)
theorem dX1_place_57 : decode cX1_place 57 = .ok (.iload_n 2, 1) := dk_28 (dk_at dksX1_place_2 11 rfl rfl)
theorem dX1_place_58 : decode cX1_place 58 = .ok (.aload_n 0, 1) := dk_42 (dk_at dksX1_place_2 12 rfl rfl)
theorem dX1_place_59 : decode cX1_place 59 = .ok (.getfield 17, 3) := dk_180 0 17 (dk_at dksX1_place_2 13 rfl rfl)
theorem dX1_place_62 : decode cX1_place 62 = .ok (.iconst 2, 1) := dk_5 (dk_at dksX1_place_2 16 rfl rfl)
theorem dX1_place_63 : decode cX1_place 63 = .ok (.isub, 1) := dk_100 (dk_at dksX1_place_2 17 rfl rfl)
theorem dX1_place_64 : decode cX1_place 64 = .ok (.if_icmp .ne 26, 3) := dk_160 0 26 (dk_at dksX1_place_2 18 rfl rfl)
theorem dX1_place_67 : decode cX1_place 67 = .ok (.iload_n 3, 1) := dk_29 (dk_at dksX1_place_2 21 rfl rfl)
theorem dX1_place_68 : decode cX1_place 68 = .ok (.ifCond .ne 22, 3) := dk_154 0 22 (dk_at dksX1_place_3 0 rfl rfl)
theorem dX1_place_71 : decode cX1_place 71 = .ok (.aload_n 0, 1) := dk_42 (dk_at dksX1_place_3 3 rfl rfl)
theorem dX1_place_72 : decode cX1_place 72 = .ok (.getfield 13, 3) := dk_180 0 13 (dk_at dksX1_place_3 4 rfl rfl)
theorem dX1_place_75 : decode cX1_place 75 = .ok (.bipush 8, 2) := dk_16 8 (dk_at dksX1_place_3 7 rfl rfl)
theorem dX1_place_77 : decode cX1_place 77 = .ok (.irem, 1) := dk_112 (dk_at dksX1_place_3 9 rfl rfl)
theorem dX1_place_78 : decode cX1_place 78 = .ok (.iconst 4, 1) := dk_7 (dk_at dksX1_place_3 10 rfl rfl)
theorem dX1_place_79 : decode cX1_place 79 = .ok (.if_icmp .ne 11, 3) := dk_160 0 11 (dk_at dksX1_place_3 11 rfl rfl)
theorem dX1_place_82 : decode cX1_place 82 = .ok (.aload_n 0, 1) := dk_42 (dk_at dksX1_place_3 14 rfl rfl)
theorem dX1_place_83 : decode cX1_place 83 = .ok (.iload_n 1, 1) := dk_27 (dk_at dksX1_place_3 15 rfl rfl)
theorem dX1_place_84 : decode cX1_place 84 = .ok (.iinc 1 1, 3) := dk_132 1 1 (dk_at dksX1_place_3 16 rfl rfl)
theorem dX1_place_87 : decode cX1_place 87 = .ok (.invokevirtual 37, 3) := dk_182 0 37 (dk_at dksX1_place_3 19 rfl rfl)
theorem dX1_place_90 : decode cX1_place 90 = .ok (.iload_n 2, 1) := dk_28 (dk_at dksX1_place_3 22 rfl rfl)
theorem dX1_place_91 : decode cX1_place 91 = .ok (.aload_n 0, 1) := dk_42 (dk_at dksX1_place_3 23 rfl rfl)
theorem dX1_place_92 : decode cX1_place 92 = .ok (.getfield 17, 3) := dk_180 0 17 (dk_at dksX1_place_4 0 rfl rfl)
theorem dX1_place_95 : decode cX1_place 95 = .ok (.iconst 4, 1) := dk_7 (dk_at dksX1_place_4 3 rfl rfl)
theorem dX1_place_96 : decode cX1_place 96 = .ok (.iadd, 1) := dk_96 (dk_at dksX1_place_4 4 rfl rfl)
theorem dX1_place_97 : decode cX1_place 97 = .ok (.if_icmp .ne 26, 3) := dk_160 0 26 (dk_at dksX1_place_4 5 rfl rfl)
theorem dX1_place_100 : decode cX1_place 100 = .ok (.iload_n 3, 1) := dk_29 (dk_at dksX1_place_4 8 rfl rfl)
theorem dX1_place_101 : decode cX1_place 101 = .ok (.iconst 2, 1) := dk_5 (dk_at dksX1_place_4 9 rfl rfl)
theorem dX1_place_102 : decode cX1_place 102 = .ok (.if_icmp .ne 21, 3) := dk_160 0 21 (dk_at dksX1_place_4 10 rfl rfl)
theorem dX1_place_105 : decode cX1_place 105 = .ok (.aload_n 0, 1) := dk_42 (dk_at dksX1_place_4 13 rfl rfl)
theorem dX1_place_106 : decode cX1_place 106 = .ok (.getfield 13, 3) := dk_180 0 13 (dk_at dksX1_place_4 14 rfl rfl)
theorem dX1_place_109 : decode cX1_place 109 = .ok (.bipush 8, 2) := dk_16 8 (dk_at dksX1_place_4 17 rfl rfl)
theorem dX1_place_111 : decode cX1_place 111 = .ok (.irem, 1) := dk_112 (dk_at dksX1_place_4 19 rfl rfl)
theorem dX1_place_112 : decode cX1_place 112 = .ok (.ifCond .ne 11, 3) := dk_154 0 11 (dk_at dksX1_place_4 20 rfl rfl)
theorem dX1_place_115 : decode cX1_place 115 = .ok (.aload_n 0, 1) := dk_42 (dk_at dksX1_place_4 23 rfl rfl)
theorem dX1_place_116 : decode cX1_place 116 = .ok (.iload_n 1, 1) := dk_27 (dk_at dksX1_place_5 0 rfl rfl)
theorem dX1_place_117 : decode cX1_place 117 = .ok (.iinc 1 1, 3) := dk_132 1 1 (dk_at dksX1_place_5 1 rfl rfl)
theorem dX1_place_120 : decode cX1_place 120 = .ok (.invokevirtual 40, 3) := dk_182 0 40 (dk_at dksX1_place_5 4 rfl rfl)
theorem dX1_place_123 : decode cX1_place 123 = .ok (.iload_n 2, 1) := dk_28 (dk_at dksX1_place_5 7 rfl rfl)
theorem dX1_place_124 : decode cX1_place 124 = .ok (.aload_n 0, 1) := dk_42 (dk_at dksX1_place_5 8 rfl rfl)
theorem dX1_place_125 : decode cX1_place 125 = .ok (.getfield 17, 3) := dk_180 0 17 (dk_at dksX1_place_5 9 rfl rfl)
theorem dX1_place_128 : decode cX1_place 128 = .ok (.if_icmp .ge 26, 3) := dk_162 0 26 (dk_at dksX1_place_5 12 rfl rfl)
theorem dX1_place_131 : decode cX1_place 131 = .ok (.iload_n 3, 1) := dk_29 (dk_at dksX1_place_5 15 rfl rfl)
theorem dX1_place_132 : decode cX1_place 132 = .ok (.ifCond .lt 22, 3) := dk_155 0 22 (dk_at dksX1_place_5 16 rfl rfl)
theorem dX1_place_135 : decode cX1_place 135 = .ok (.aload_n 0, 1) := dk_42 (dk_at dksX1_place_5 19 rfl rfl)
theorem dX1_place_136 : decode cX1_place 136 = .ok (.iload_n 3, 1) := dk_29 (dk_at dksX1_place_5 20 rfl rfl)
theorem dX1_place_137 : decode cX1_place 137 = .ok (.iload_n 2, 1) := dk_28 (dk_at dksX1_place_5 21 rfl rfl)
theorem dX1_place_138 : decode cX1_place 138 = .ok (.invokevirtual 43, 3) := dk_182 0 43 (dk_at dksX1_place_6 0 rfl rfl)
theorem dX1_place_141 : decode cX1_place 141 = .ok (.ifCond .eq 13, 3) := dk_153 0 13 (dk_at dksX1_place_6 3 rfl rfl)
theorem dX1_place_144 : decode cX1_place 144 = .ok (.aload_n 0, 1) := dk_42 (dk_at dksX1_place_6 6 rfl rfl)
theorem dX1_place_145 : decode cX1_place 145 = .ok (.iload_n 2, 1) := dk_28 (dk_at dksX1_place_6 7 rfl rfl)
theorem dX1_place_146 : decode cX1_place 146 = .ok (.iload_n 3, 1) := dk_29 (dk_at dksX1_place_6 8 rfl rfl)
theorem dX1_place_147 : decode cX1_place 147 = .ok (.iload_n 1, 1) := dk_27 (dk_at dksX1_place_6 9 rfl rfl)
theorem dX1_place_148 : decode cX1_place 148 = .ok (.iinc 1 1, 3) := dk_132 1 1 (dk_at dksX1_place_6 10 rfl rfl)
theorem dX1_place_151 : decode cX1_place 151 = .ok (.invokevirtual 47, 3) := dk_182 0 47 (dk_at dksX1_place_6 13 rfl rfl)
theorem dX1_place_154 : decode cX1_place 154 = .ok (.iinc 2 (-2), 3) := dk_132 2 254 (dk_at dksX1_place_6 16 rfl rfl)
theorem dX1_place_157 : decode cX1_place 157 = .ok (.iinc 3 2, 3) := dk_132 3 2 (dk_at dksX1_place_6 19 rfl rfl)
theorem dX1_place_160 : decode cX1_place 160 = .ok (.iload_n 2, 1) := dk_28 (dk_at dksX1_place_6 22 rfl rfl)
theorem dX1_place_161 : decode cX1_place 161 = .ok (.ifCond .lt 11, 3) := dk_155 0 11 (dk_at dksX1_place_7 0 rfl rfl)
theorem dX1_place_164 : decode cX1_place 164 = .ok (.iload_n 3, 1) := dk_29 (dk_at dksX1_place_7 3 rfl rfl)
theorem dX1_place_165 : decode cX1_place 165 = .ok (.aload_n 0, 1) := dk_42 (dk_at dksX1_place_7 4 rfl rfl)
theorem dX1_place_166 : decode cX1_place 166 = .ok (.getfield 13, 3) := dk_180 0 13 (dk_at dksX1_place_7 5 rfl rfl)
theorem dX1_place_169 : decode cX1_place 169 = .ok (.if_icmp .lt (-46), 3) := dk_161 255 210 (dk_at dksX1_place_7 8 rfl rfl)
theorem dX1_place_172 : decode cX1_place 172 = .ok (.iinc 2 1, 3) := dk_132 2 1 (dk_at dksX1_place_7 11 rfl rfl)
theorem dX1_place_175 : decode cX1_place 175 = .ok (.iinc 3 3, 3) := dk_132 3 3 (dk_at dksX1_place_7 14 rfl rfl)
theorem dX1_place_178 : decode cX1_place 178 = .ok (.iload_n 2, 1) := dk_28 (dk_at dksX1_place_7 17 rfl rfl)
theorem dX1_place_179 : decode cX1_place 179 = .ok (.ifCond .lt 30, 3) := dk_155 0 30 (dk_at dksX1_place_7 18 rfl rfl)
theorem dX1_place_182 : decode cX1_place 182 = .ok (.iload_n 3, 1) := dk_29 (dk_at dksX1_place_7 21 rfl rfl)
theorem dX1_place_183 : decode cX1_place 183 = .ok (.aload_n 0, 1) := dk_42 (dk_at dksX1_place_7 22 rfl rfl)
theorem dX1_place_184 : decode cX1_place 184 = .ok (.getfield 13, 3) := dk_180 0 13 (dk_at dksX1_place_8 0 rfl rfl)
theorem dX1_place_187 : decode cX1_place 187 = .ok (.if_icmp .ge 22, 3) := dk_162 0 22 (dk_at dksX1_place_8 3 rfl rfl)
theorem dX1_place_190 : decode cX1_place 190 = .ok (.aload_n 0, 1) := dk_42 (dk_at dksX1_place_8 6 rfl rfl)
theorem dX1_place_191 : decode cX1_place 191 = .ok (.iload_n 3, 1) := dk_29 (dk_at dksX1_place_8 7 rfl rfl)
theorem dX1_place_192 : decode cX1_place 192 = .ok (.iload_n 2, 1) := dk_28 (dk_at dksX1_place_8 8 rfl rfl)
theorem dX1_place_193 : decode cX1_place 193 = .ok (.invokevirtual 43, 3) := dk_182 0 43 (dk_at dksX1_place_8 9 rfl rfl)
theorem dX1_place_196 : decode cX1_place 196 = .ok (.ifCond .eq 13, 3) := dk_153 0 13 (dk_at dksX1_place_8 12 rfl rfl)
theorem dX1_place_199 : decode cX1_place 199 = .ok (.aload_n 0, 1) := dk_42 (dk_at dksX1_place_8 15 rfl rfl)
theorem dX1_place_200 : decode cX1_place 200 = .ok (.iload_n 2, 1) := dk_28 (dk_at dksX1_place_8 16 rfl rfl)
theorem dX1_place_201 : decode cX1_place 201 = .ok (.iload_n 3, 1) := dk_29 (dk_at dksX1_place_8 17 rfl rfl)
theorem dX1_place_202 : decode cX1_place 202 = .ok (.iload_n 1, 1) := dk_27 (dk_at dksX1_place_8 18 rfl rfl)
theorem dX1_place_203 : decode cX1_place 203 = .ok (.iinc 1 1, 3) := dk_132 1 1 (dk_at dksX1_place_8 19 rfl rfl)
theorem dX1_place_206 : decode cX1_place 206 = .ok (.invokevirtual 47, 3) := dk_182 0 47 (dk_at dksX1_place_9 0 rfl rfl)
theorem dX1_place_209 : decode cX1_place 209 = .ok (.iinc 2 2, 3) := dk_132 2 2 (dk_at dksX1_place_9 3 rfl rfl)
theorem dX1_place_212 : decode cX1_place 212 = .ok (.iinc 3 (-2), 3) := dk_132 3 254 (dk_at dksX1_place_9 6 rfl rfl)
theorem dX1_place_215 : decode cX1_place 215 = .ok (.iload_n 2, 1) := dk_28 (dk_at dksX1_place_9 9 rfl rfl)
theorem dX1_place_216 : decode cX1_place 216 = .ok (.aload_n 0, 1) := dk_42 (dk_at dksX1_place_9 10 rfl rfl)
theorem dX1_place_217 : decode cX1_place 217 = .ok (.getfield 17, 3) := dk_180 0 17 (dk_at dksX1_place_9 11 rfl rfl)
theorem dX1_place_220 : decode cX1_place 220 = .ok (.if_icmp .ge 7, 3) := dk_162 0 7 (dk_at dksX1_place_9 14 rfl rfl)
theorem dX1_place_223 : decode cX1_place 223 = .ok (.iload_n 3, 1) := dk_29 (dk_at dksX1_place_9 17 rfl rfl)
theorem dX1_place_224 : decode cX1_place 224 = .ok (.ifCond .ge (-46), 3) := dk_156 255 210 (dk_at dksX1_place_9 18 rfl rfl)
theorem dX1_place_227 : decode cX1_place 227 = .ok (.iinc 2 3, 3) := dk_132 2 3 (dk_at dksX1_place_9 21 rfl rfl)
theorem dX1_place_230 : decode cX1_place 230 = .ok (.iinc 3 1, 3) := dk_132 3 1 (dk_at dksX1_place_10 0 rfl rfl)
theorem dX1_place_233 : decode cX1_place 233 = .ok (.iload_n 2, 1) := dk_28 (dk_at dksX1_place_10 3 rfl rfl)
theorem dX1_place_234 : decode cX1_place 234 = .ok (.aload_n 0, 1) := dk_42 (dk_at dksX1_place_10 4 rfl rfl)
theorem dX1_place_235 : decode cX1_place 235 = .ok (.getfield 17, 3) := dk_180 0 17 (dk_at dksX1_place_10 5 rfl rfl)
theorem dX1_place_238 : decode cX1_place 238 = .ok (.if_icmp .lt (-232), 3) := dk_161 255 24 (dk_at dksX1_place_10 8 rfl rfl)
theorem dX1_place_241 : decode cX1_place 241 = .ok (.iload_n 3, 1) := dk_29 (dk_at dksX1_place_10 11 rfl rfl)
theorem dX1_place_242 : decode cX1_place 242 = .ok (.aload_n 0, 1) := dk_42 (dk_at dksX1_place_10 12 rfl rfl)
theorem dX1_place_243 : decode cX1_place 243 = .ok (.getfield 13, 3) := dk_180 0 13 (dk_at dksX1_place_10 13 rfl rfl)
theorem dX1_place_246 : decode cX1_place 246 = .ok (.if_icmp .lt (-240), 3) := dk_161 255 16 (dk_at dksX1_place_10 16 rfl rfl)
theorem dX1_place_249 : decode cX1_place 249 = .ok (.aload_n 0, 1) := dk_42 (dk_at dksX1_place_10 19 rfl rfl)
theorem dX1_place_250 : decode cX1_place 250 = .ok (.aload_n 0, 1) := dk_42 (dk_at dksX1_place_10 20 rfl rfl)
theorem dX1_place_251 : decode cX1_place 251 = .ok (.getfield 13, 3) := dk_180 0 13 (dk_at dksX1_place_10 21 rfl rfl)
theorem dX1_place_254 : decode cX1_place 254 = .ok (.iconst 1, 1) := dk_4 (dk_at dksX1_place_11 0 rfl rfl)
theorem dX1_place_255 : decode cX1_place 255 = .ok (.isub, 1) := dk_100 (dk_at dksX1_place_11 1 rfl rfl)
theorem dX1_place_256 : decode cX1_place 256 = .ok (.aload_n 0, 1) := dk_42 (dk_at dksX1_place_11 2 rfl rfl)
theorem dX1_place_257 : decode cX1_place 257 = .ok (.getfield 17, 3) := dk_180 0 17 (dk_at dksX1_place_11 3 rfl rfl)
theorem dX1_place_260 : decode cX1_place 260 = .ok (.iconst 1, 1) := dk_4 (dk_at dksX1_place_11 6 rfl rfl)
theorem dX1_place_261 : decode cX1_place 261 = .ok (.isub, 1) := dk_100 (dk_at dksX1_place_11 7 rfl rfl)
theorem dX1_place_262 : decode cX1_place 262 = .ok (.invokevirtual 43, 3) := dk_182 0 43 (dk_at dksX1_place_11 8 rfl rfl)
theorem dX1_place_265 : decode cX1_place 265 = .ok (.ifCond .eq 37, 3) := dk_153 0 37 (dk_at dksX1_place_11 11 rfl rfl)
theorem dX1_place_268 : decode cX1_place 268 = .ok (.aload_n 0, 1) := dk_42 (dk_at dksX1_place_11 14 rfl rfl)
theorem dX1_place_269 : decode cX1_place 269 = .ok (.aload_n 0, 1) := dk_42 (dk_at dksX1_place_11 15 rfl rfl)
theorem dX1_place_270 : decode cX1_place 270 = .ok (.getfield 13, 3) := dk_180 0 13 (dk_at dksX1_place_11 16 rfl rfl)
theorem dX1_place_273 : decode cX1_place 273 = .ok (.iconst 1, 1) := dk_4 (dk_at dksX1_place_11 19 rfl rfl)
theorem dX1_place_274 : decode cX1_place 274 = .ok (.isub, 1) := dk_100 (dk_at dksX1_place_11 20 rfl rfl)
theorem dX1_place_275 : decode cX1_place 275 = .ok (.aload_n 0, 1) := dk_42 (dk_at dksX1_place_11 21 rfl rfl)
theorem dX1_place_276 : decode cX1_place 276 = .ok (.getfield 17, 3) := dk_180 0 17 (dk_at dksX1_place_12 0 rfl rfl)
theorem dX1_place_279 : decode cX1_place 279 = .ok (.iconst 1, 1) := dk_4 (dk_at dksX1_place_12 3 rfl rfl)
theorem dX1_place_280 : decode cX1_place 280 = .ok (.isub, 1) := dk_100 (dk_at dksX1_place_12 4 rfl rfl)
theorem dX1_place_281 : decode cX1_place 281 = .ok (.iconst 1, 1) := dk_4 (dk_at dksX1_place_12 5 rfl rfl)
theorem dX1_place_282 : decode cX1_place 282 = .ok (.invokevirtual 51, 3) := dk_182 0 51 (dk_at dksX1_place_12 6 rfl rfl)
theorem dX1_place_285 : decode cX1_place 285 = .ok (.aload_n 0, 1) := dk_42 (dk_at dksX1_place_12 9 rfl rfl)
theorem dX1_place_286 : decode cX1_place 286 = .ok (.aload_n 0, 1) := dk_42 (dk_at dksX1_place_12 10 rfl rfl)
theorem dX1_place_287 : decode cX1_place 287 = .ok (.getfield 13, 3) := dk_180 0 13 (dk_at dksX1_place_12 11 rfl rfl)
theorem dX1_place_290 : decode cX1_place 290 = .ok (.iconst 2, 1) := dk_5 (dk_at dksX1_place_12 14 rfl rfl)
theorem dX1_place_291 : decode cX1_place 291 = .ok (.isub, 1) := dk_100 (dk_at dksX1_place_12 15 rfl rfl)
theorem dX1_place_292 : decode cX1_place 292 = .ok (.aload_n 0, 1) := dk_42 (dk_at dksX1_place_12 16 rfl rfl)
theorem dX1_place_293 : decode cX1_place 293 = .ok (.getfield 17, 3) := dk_180 0 17 (dk_at dksX1_place_12 17 rfl rfl)
theorem dX1_place_296 : decode cX1_place 296 = .ok (.iconst 2, 1) := dk_5 (dk_at dksX1_place_12 20 rfl rfl)
theorem dX1_place_297 : decode cX1_place 297 = .ok (.isub, 1) := dk_100 (dk_at dksX1_place_12 21 rfl rfl)
theorem dX1_place_298 : decode cX1_place 298 = .ok (.iconst 1, 1) := dk_4 (dk_at dksX1_place_12 22 rfl rfl)
theorem dX1_place_299 : decode cX1_place 299 = .ok (.invokevirtual 51, 3) := dk_182 0 51 (dk_at dksX1_place_13 0 rfl rfl)
theorem dX1_place_302 : decode cX1_place 302 = .ok (.return_, 1) := dk_177 (dk_at dksX1_place_13 3 rfl rfl)
abbrev cX1_corner1 : ByteArray := prog_1_method_8_code
def yX1_corner1 : MethodName := ⟨RX1, "corner1", "(I)V"⟩
def dkwX1_corner1_4 : List UInt8 := [42, 180, 0, 13, 4, 100, 27, 16, 8, 182, 0, 61, 177]
abbrev dktX1_corner1_4 : List UInt8 := dkwX1_corner1_4 ++ []
def dkwX1_corner1_3 : List UInt8 := [4, 100, 27, 16, 6, 182, 0, 61, 42, 5, 42, 180, 0, 13, 4, 100, 27, 16, 7, 182, 0, 61, 42, 6]
abbrev dktX1_corner1_3 : List UInt8 := dkwX1_corner1_3 ++ dktX1_corner1_4
def dkwX1_corner1_2 : List UInt8 := [27, 7, 182, 0, 61, 42, 3, 42, 180, 0, 13, 4, 100, 27, 8, 182, 0, 61, 42, 4, 42, 180, 0, 13]
abbrev dktX1_corner1_2 : List UInt8 := dkwX1_corner1_2 ++ dktX1_corner1_3
def dkwX1_corner1_1 : List UInt8 := [182, 0, 61, 42, 42, 180, 0, 17, 4, 100, 5, 27, 6, 182, 0, 61, 42, 3, 42, 180, 0, 13, 5, 100]
abbrev dktX1_corner1_1 : List UInt8 := dkwX1_corner1_1 ++ dktX1_corner1_2
def dkwX1_corner1_0 : List UInt8 := [42, 42, 180, 0, 17, 4, 100, 3, 27, 4, 182, 0, 61, 42, 42, 180, 0, 17, 4, 100, 4, 27, 5]
abbrev dktX1_corner1_0 : List UInt8 := dkwX1_corner1_0 ++ dktX1_corner1_1
theorem dksX1_corner1_0 : cX1_corner1.data.toList.drop 0 = dktX1_corner1_0 := by decide +kernel
theorem dksX1_corner1_1 : cX1_corner1.data.toList.drop 23 = dktX1_corner1_1 := dk_seg dksX1_corner1_0 23 rfl rfl
theorem dksX1_corner1_2 : cX1_corner1.data.toList.drop 47 = dktX1_corner1_2 := dk_seg dksX1_corner1_1 24 rfl rfl
theorem dksX1_corner1_3 : cX1_corner1.data.toList.drop 71 = dktX1_corner1_3 := dk_seg dksX1_corner1_2 24 rfl rfl
theorem dksX1_corner1_4 : cX1_corner1.data.toList.drop 95 = dktX1_corner1_4 := dk_seg dksX1_corner1_3 24 rfl rfl
theorem dX1_corner1_0 : decode cX1_corner1 0 = .ok (.aload_n 0, 1) := dk_42 (dk_at dksX1_corner1_0 0 rfl rfl)
theorem dX1_corner1_1 : decode cX1_corner1 1 = .ok (.aload_n 0, 1) := dk_42 (dk_at dksX1_corner1_0 1 rfl rfl)
theorem dX1_corner1_2 : decode cX1_corner1 2 = .ok (.getfield 17, 3) := dk_180 0 17 (dk_at dksX1_corner1_0 2 rfl rfl)
theorem dX1_corner1_5 : decode cX1_corner1 5 = .ok (.iconst 1, 1) := dk_4 (dk_at dksX1_corner1_0 5 rfl rfl)
theorem dX1_corner1_6 : decode cX1_corner1 6 = .ok (.isub, 1) := dk_100 (dk_at dksX1_corner1_0 6 rfl rfl)
theorem dX1_corner1_7 : decode cX1_corner1 7 = .ok (.iconst 0, 1) := dk_3 (dk_at dksX1_corner1_0 7 rfl rfl)
theorem dX1_corner1_8 : decode cX1_corner1 8 = .ok (.iload_n 1, 1) := dk_27 (dk_at dksX1_corner1_0 8 rfl rfl)
theorem dX1_corner1_9 : decode cX1_corner1 9 = .ok (.iconst 1, 1) := dk_4 (dk_at dksX1_corner1_0 9 rfl rfl)
theorem dX1_corner1_10 : decode cX1_corner1 10 = .ok (.invokevirtual 61, 3) := dk_182 0 61 (dk_at dksX1_corner1_0 10 rfl rfl)
theorem dX1_corner1_13 : decode cX1_corner1 13 = .ok (.aload_n 0, 1) := dk_42 (dk_at dksX1_corner1_0 13 rfl rfl)
theorem dX1_corner1_14 : decode cX1_corner1 14 = .ok (.aload_n 0, 1) := dk_42 (dk_at dksX1_corner1_0 14 rfl rfl)
theorem dX1_corner1_15 : decode cX1_corner1 15 = .ok (.getfield 17, 3) := dk_180 0 17 (dk_at dksX1_corner1_0 15 rfl rfl)
theorem dX1_corner1_18 : decode cX1_corner1 18 = .ok (.iconst 1, 1) := dk_4 (dk_at dksX1_corner1_0 18 rfl rfl)
theorem dX1_corner1_19 : decode cX1_corner1 19 = .ok (.isub, 1) := dk_100 (dk_at dksX1_corner1_0 19 rfl rfl)
theorem dX1_corner1_20 : decode cX1_corner1 20 = .ok (.iconst 1, 1) := dk_4 (dk_at dksX1_corner1_0 20 rfl rfl)
theorem dX1_corner1_21 : decode cX1_corner1 21 = .ok (.iload_n 1, 1) := dk_27 (dk_at dksX1_corner1_0 21 rfl rfl)
theorem dX1_corner1_22 : decode cX1_corner1 22 = .ok (.iconst 2, 1) := dk_5 (dk_at dksX1_corner1_0 22 rfl rfl)
theorem dX1_corner1_23 : decode cX1_corner1 23 = .ok (.invokevirtual 61, 3) := dk_182 0 61 (dk_at dksX1_corner1_1 0 rfl rfl)
theorem dX1_corner1_26 : decode cX1_corner1 26 = .ok (.aload_n 0, 1) := dk_42 (dk_at dksX1_corner1_1 3 rfl rfl)
theorem dX1_corner1_27 : decode cX1_corner1 27 = .ok (.aload_n 0, 1) := dk_42 (dk_at dksX1_corner1_1 4 rfl rfl)
theorem dX1_corner1_28 : decode cX1_corner1 28 = .ok (.getfield 17, 3) := dk_180 0 17 (dk_at dksX1_corner1_1 5 rfl rfl)
theorem dX1_corner1_31 : decode cX1_corner1 31 = .ok (.iconst 1, 1) := dk_4 (dk_at dksX1_corner1_1 8 rfl rfl)
theorem dX1_corner1_32 : decode cX1_corner1 32 = .ok (.isub, 1) := dk_100 (dk_at dksX1_corner1_1 9 rfl rfl)
theorem dX1_corner1_33 : decode cX1_corner1 33 = .ok (.iconst 2, 1) := dk_5 (dk_at dksX1_corner1_1 10 rfl rfl)
theorem dX1_corner1_34 : decode cX1_corner1 34 = .ok (.iload_n 1, 1) := dk_27 (dk_at dksX1_corner1_1 11 rfl rfl)
theorem dX1_corner1_35 : decode cX1_corner1 35 = .ok (.iconst 3, 1) := dk_6 (dk_at dksX1_corner1_1 12 rfl rfl)
theorem dX1_corner1_36 : decode cX1_corner1 36 = .ok (.invokevirtual 61, 3) := dk_182 0 61 (dk_at dksX1_corner1_1 13 rfl rfl)
theorem dX1_corner1_39 : decode cX1_corner1 39 = .ok (.aload_n 0, 1) := dk_42 (dk_at dksX1_corner1_1 16 rfl rfl)
theorem dX1_corner1_40 : decode cX1_corner1 40 = .ok (.iconst 0, 1) := dk_3 (dk_at dksX1_corner1_1 17 rfl rfl)
theorem dX1_corner1_41 : decode cX1_corner1 41 = .ok (.aload_n 0, 1) := dk_42 (dk_at dksX1_corner1_1 18 rfl rfl)
theorem dX1_corner1_42 : decode cX1_corner1 42 = .ok (.getfield 13, 3) := dk_180 0 13 (dk_at dksX1_corner1_1 19 rfl rfl)
theorem dX1_corner1_45 : decode cX1_corner1 45 = .ok (.iconst 2, 1) := dk_5 (dk_at dksX1_corner1_1 22 rfl rfl)
theorem dX1_corner1_46 : decode cX1_corner1 46 = .ok (.isub, 1) := dk_100 (dk_at dksX1_corner1_1 23 rfl rfl)
theorem dX1_corner1_47 : decode cX1_corner1 47 = .ok (.iload_n 1, 1) := dk_27 (dk_at dksX1_corner1_2 0 rfl rfl)
theorem dX1_corner1_48 : decode cX1_corner1 48 = .ok (.iconst 4, 1) := dk_7 (dk_at dksX1_corner1_2 1 rfl rfl)
theorem dX1_corner1_49 : decode cX1_corner1 49 = .ok (.invokevirtual 61, 3) := dk_182 0 61 (dk_at dksX1_corner1_2 2 rfl rfl)
theorem dX1_corner1_52 : decode cX1_corner1 52 = .ok (.aload_n 0, 1) := dk_42 (dk_at dksX1_corner1_2 5 rfl rfl)
theorem dX1_corner1_53 : decode cX1_corner1 53 = .ok (.iconst 0, 1) := dk_3 (dk_at dksX1_corner1_2 6 rfl rfl)
theorem dX1_corner1_54 : decode cX1_corner1 54 = .ok (.aload_n 0, 1) := dk_42 (dk_at dksX1_corner1_2 7 rfl rfl)
theorem dX1_corner1_55 : decode cX1_corner1 55 = .ok (.getfield 13, 3) := dk_180 0 13 (dk_at dksX1_corner1_2 8 rfl rfl)
theorem dX1_corner1_58 : decode cX1_corner1 58 = .ok (.iconst 1, 1) := dk_4 (dk_at dksX1_corner1_2 11 rfl rfl)
theorem dX1_corner1_59 : decode cX1_corner1 59 = .ok (.isub, 1) := dk_100 (dk_at dksX1_corner1_2 12 rfl rfl)
theorem dX1_corner1_60 : decode cX1_corner1 60 = .ok (.iload_n 1, 1) := dk_27 (dk_at dksX1_corner1_2 13 rfl rfl)
theorem dX1_corner1_61 : decode cX1_corner1 61 = .ok (.iconst 5, 1) := dk_8 (dk_at dksX1_corner1_2 14 rfl rfl)
theorem dX1_corner1_62 : decode cX1_corner1 62 = .ok (.invokevirtual 61, 3) := dk_182 0 61 (dk_at dksX1_corner1_2 15 rfl rfl)
theorem dX1_corner1_65 : decode cX1_corner1 65 = .ok (.aload_n 0, 1) := dk_42 (dk_at dksX1_corner1_2 18 rfl rfl)
theorem dX1_corner1_66 : decode cX1_corner1 66 = .ok (.iconst 1, 1) := dk_4 (dk_at dksX1_corner1_2 19 rfl rfl)
theorem dX1_corner1_67 : decode cX1_corner1 67 = .ok (.aload_n 0, 1) := dk_42 (dk_at dksX1_corner1_2 20 rfl rfl)
theorem dX1_corner1_68 : decode cX1_corner1 68 = .ok (.getfield 13, 3) := dk_180 0 13 (dk_at dksX1_corner1_2 21 rfl rfl)
theorem dX1_corner1_71 : decode cX1_corner1 71 = .ok (.iconst 1, 1) := dk_4 (dk_at dksX1_corner1_3 0 rfl rfl)
theorem dX1_corner1_72 : decode cX1_corner1 72 = .ok (.isub, 1) := dk_100 (dk_at dksX1_corner1_3 1 rfl rfl)
theorem dX1_corner1_73 : decode cX1_corner1 73 = .ok (.iload_n 1, 1) := dk_27 (dk_at dksX1_corner1_3 2 rfl rfl)
theorem dX1_corner1_74 : decode cX1_corner1 74 = .ok (.bipush 6, 2) := dk_16 6 (dk_at dksX1_corner1_3 3 rfl rfl)
theorem dX1_corner1_76 : decode cX1_corner1 76 = .ok (.invokevirtual 61, 3) := dk_182 0 61 (dk_at dksX1_corner1_3 5 rfl rfl)
theorem dX1_corner1_79 : decode cX1_corner1 79 = .ok (.aload_n 0, 1) := dk_42 (dk_at dksX1_corner1_3 8 rfl rfl)
theorem dX1_corner1_80 : decode cX1_corner1 80 = .ok (.iconst 2, 1) := dk_5 (dk_at dksX1_corner1_3 9 rfl rfl)
theorem dX1_corner1_81 : decode cX1_corner1 81 = .ok (.aload_n 0, 1) := dk_42 (dk_at dksX1_corner1_3 10 rfl rfl)
theorem dX1_corner1_82 : decode cX1_corner1 82 = .ok (.getfield 13, 3) := dk_180 0 13 (dk_at dksX1_corner1_3 11 rfl rfl)
theorem dX1_corner1_85 : decode cX1_corner1 85 = .ok (.iconst 1, 1) := dk_4 (dk_at dksX1_corner1_3 14 rfl rfl)
theorem dX1_corner1_86 : decode cX1_corner1 86 = .ok (.isub, 1) := dk_100 (dk_at dksX1_corner1_3 15 rfl rfl)
theorem dX1_corner1_87 : decode cX1_corner1 87 = .ok (.iload_n 1, 1) := dk_27 (dk_at dksX1_corner1_3 16 rfl rfl)
theorem dX1_corner1_88 : decode cX1_corner1 88 = .ok (.bipush 7, 2) := dk_16 7 (dk_at dksX1_corner1_3 17 rfl rfl)
theorem dX1_corner1_90 : decode cX1_corner1 90 = .ok (.invokevirtual 61, 3) := dk_182 0 61 (dk_at dksX1_corner1_3 19 rfl rfl)
theorem dX1_corner1_93 : decode cX1_corner1 93 = .ok (.aload_n 0, 1) := dk_42 (dk_at dksX1_corner1_3 22 rfl rfl)
theorem dX1_corner1_94 : decode cX1_corner1 94 = .ok (.iconst 3, 1) := dk_6 (dk_at dksX1_corner1_3 23 rfl rfl)
theorem dX1_corner1_95 : decode cX1_corner1 95 = .ok (.aload_n 0, 1) := dk_42 (dk_at dksX1_corner1_4 0 rfl rfl)
theorem dX1_corner1_96 : decode cX1_corner1 96 = .ok (.getfield 13, 3) := dk_180 0 13 (dk_at dksX1_corner1_4 1 rfl rfl)
theorem dX1_corner1_99 : decode cX1_corner1 99 = .ok (.iconst 1, 1) := dk_4 (dk_at dksX1_corner1_4 4 rfl rfl)
theorem dX1_corner1_100 : decode cX1_corner1 100 = .ok (.isub, 1) := dk_100 (dk_at dksX1_corner1_4 5 rfl rfl)
theorem dX1_corner1_101 : decode cX1_corner1 101 = .ok (.iload_n 1, 1) := dk_27 (dk_at dksX1_corner1_4 6 rfl rfl)
theorem dX1_corner1_102 : decode cX1_corner1 102 = .ok (.bipush 8, 2) := dk_16 8 (dk_at dksX1_corner1_4 7 rfl rfl)
theorem dX1_corner1_104 : decode cX1_corner1 104 = .ok (.invokevirtual 61, 3) := dk_182 0 61 (dk_at dksX1_corner1_4 9 rfl rfl)
theorem dX1_corner1_107 : decode cX1_corner1 107 = .ok (.return_, 1) := dk_177 (dk_at dksX1_corner1_4 12 rfl rfl)
abbrev cX1_module : ByteArray := prog_1_method_6_code
def yX1_module : MethodName := ⟨RX1, "module", "(IIII)V"⟩
def dkwX1_module_3 : List UInt8 := [54, 5, 42, 28, 27, 21, 5, 153, 0, 7, 4, 167, 0, 4, 3, 182, 0, 51, 177]
abbrev dktX1_module_3 : List UInt8 := dkwX1_module_3 ++ []
def dkwX1_module_2 : List UInt8 := [96, 60, 42, 180, 0, 7, 29, 185, 0, 55, 2, 0, 54, 5, 21, 5, 4, 16, 8, 21, 4, 100, 120, 126]
abbrev dktX1_module_2 : List UInt8 := dkwX1_module_2 ++ dktX1_module_3
def dkwX1_module_1 : List UInt8 := [61, 28, 156, 0, 24, 28, 42, 180, 0, 13, 96, 61, 27, 7, 42, 180, 0, 13, 7, 96, 16, 8, 112, 100]
abbrev dktX1_module_1 : List UInt8 := dkwX1_module_1 ++ dktX1_module_2
def dkwX1_module_0 : List UInt8 := [27, 156, 0, 24, 27, 42, 180, 0, 17, 96, 60, 28, 7, 42, 180, 0, 17, 7, 96, 16, 8, 112, 100, 96]
abbrev dktX1_module_0 : List UInt8 := dkwX1_module_0 ++ dktX1_module_1
theorem dksX1_module_0 : cX1_module.data.toList.drop 0 = dktX1_module_0 := by decide +kernel
theorem dksX1_module_1 : cX1_module.data.toList.drop 24 = dktX1_module_1 := dk_seg dksX1_module_0 24 rfl rfl
theorem dksX1_module_2 : cX1_module.data.toList.drop 48 = dktX1_module_2 := dk_seg dksX1_module_1 24 rfl rfl
theorem dksX1_module_3 : cX1_module.data.toList.drop 72 = dktX1_module_3 := dk_seg dksX1_module_2 24 rfl rfl
theorem dX1_module_0 : decode cX1_module 0 = .ok (.iload_n 1, 1) := dk_27 (dk_at dksX1_module_0 0 rfl rfl)
theorem dX1_module_1 : decode cX1_module 1 = .ok (.ifCond .ge 24, 3) := dk_156 0 24 (dk_at dksX1_module_0 1 rfl rfl)
theorem dX1_module_4 : decode cX1_module 4 = .ok (.iload_n 1, 1) := dk_27 (dk_at dksX1_module_0 4 rfl rfl)
theorem dX1_module_5 : decode cX1_module 5 = .ok (.aload_n 0, 1) := dk_42 (dk_at dksX1_module_0 5 rfl rfl)
theorem dX1_module_6 : decode cX1_module 6 = .ok (.getfield 17, 3) := dk_180 0 17 (dk_at dksX1_module_0 6 rfl rfl)
theorem dX1_module_9 : decode cX1_module 9 = .ok (.iadd, 1) := dk_96 (dk_at dksX1_module_0 9 rfl rfl)
theorem dX1_module_10 : decode cX1_module 10 = .ok (.istore_n 1, 1) := dk_60 (dk_at dksX1_module_0 10 rfl rfl)
theorem dX1_module_11 : decode cX1_module 11 = .ok (.iload_n 2, 1) := dk_28 (dk_at dksX1_module_0 11 rfl rfl)
theorem dX1_module_12 : decode cX1_module 12 = .ok (.iconst 4, 1) := dk_7 (dk_at dksX1_module_0 12 rfl rfl)
theorem dX1_module_13 : decode cX1_module 13 = .ok (.aload_n 0, 1) := dk_42 (dk_at dksX1_module_0 13 rfl rfl)
theorem dX1_module_14 : decode cX1_module 14 = .ok (.getfield 17, 3) := dk_180 0 17 (dk_at dksX1_module_0 14 rfl rfl)
theorem dX1_module_17 : decode cX1_module 17 = .ok (.iconst 4, 1) := dk_7 (dk_at dksX1_module_0 17 rfl rfl)
theorem dX1_module_18 : decode cX1_module 18 = .ok (.iadd, 1) := dk_96 (dk_at dksX1_module_0 18 rfl rfl)
theorem dX1_module_19 : decode cX1_module 19 = .ok (.bipush 8, 2) := dk_16 8 (dk_at dksX1_module_0 19 rfl rfl)
theorem dX1_module_21 : decode cX1_module 21 = .ok (.irem, 1) := dk_112 (dk_at dksX1_module_0 21 rfl rfl)
theorem dX1_module_22 : decode cX1_module 22 = .ok (.isub, 1) := dk_100 (dk_at dksX1_module_0 22 rfl rfl)
theorem dX1_module_23 : decode cX1_module 23 = .ok (.iadd, 1) := dk_96 (dk_at dksX1_module_0 23 rfl rfl)
theorem dX1_module_24 : decode cX1_module 24 = .ok (.istore_n 2, 1) := dk_61 (dk_at dksX1_module_1 0 rfl rfl)
theorem dX1_module_25 : decode cX1_module 25 = .ok (.iload_n 2, 1) := dk_28 (dk_at dksX1_module_1 1 rfl rfl)
theorem dX1_module_26 : decode cX1_module 26 = .ok (.ifCond .ge 24, 3) := dk_156 0 24 (dk_at dksX1_module_1 2 rfl rfl)
theorem dX1_module_29 : decode cX1_module 29 = .ok (.iload_n 2, 1) := dk_28 (dk_at dksX1_module_1 5 rfl rfl)
theorem dX1_module_30 : decode cX1_module 30 = .ok (.aload_n 0, 1) := dk_42 (dk_at dksX1_module_1 6 rfl rfl)
theorem dX1_module_31 : decode cX1_module 31 = .ok (.getfield 13, 3) := dk_180 0 13 (dk_at dksX1_module_1 7 rfl rfl)
theorem dX1_module_34 : decode cX1_module 34 = .ok (.iadd, 1) := dk_96 (dk_at dksX1_module_1 10 rfl rfl)
theorem dX1_module_35 : decode cX1_module 35 = .ok (.istore_n 2, 1) := dk_61 (dk_at dksX1_module_1 11 rfl rfl)
theorem dX1_module_36 : decode cX1_module 36 = .ok (.iload_n 1, 1) := dk_27 (dk_at dksX1_module_1 12 rfl rfl)
theorem dX1_module_37 : decode cX1_module 37 = .ok (.iconst 4, 1) := dk_7 (dk_at dksX1_module_1 13 rfl rfl)
theorem dX1_module_38 : decode cX1_module 38 = .ok (.aload_n 0, 1) := dk_42 (dk_at dksX1_module_1 14 rfl rfl)
theorem dX1_module_39 : decode cX1_module 39 = .ok (.getfield 13, 3) := dk_180 0 13 (dk_at dksX1_module_1 15 rfl rfl)
theorem dX1_module_42 : decode cX1_module 42 = .ok (.iconst 4, 1) := dk_7 (dk_at dksX1_module_1 18 rfl rfl)
theorem dX1_module_43 : decode cX1_module 43 = .ok (.iadd, 1) := dk_96 (dk_at dksX1_module_1 19 rfl rfl)
theorem dX1_module_44 : decode cX1_module 44 = .ok (.bipush 8, 2) := dk_16 8 (dk_at dksX1_module_1 20 rfl rfl)
theorem dX1_module_46 : decode cX1_module 46 = .ok (.irem, 1) := dk_112 (dk_at dksX1_module_1 22 rfl rfl)
theorem dX1_module_47 : decode cX1_module 47 = .ok (.isub, 1) := dk_100 (dk_at dksX1_module_1 23 rfl rfl)
theorem dX1_module_48 : decode cX1_module 48 = .ok (.iadd, 1) := dk_96 (dk_at dksX1_module_2 0 rfl rfl)
theorem dX1_module_49 : decode cX1_module 49 = .ok (.istore_n 1, 1) := dk_60 (dk_at dksX1_module_2 1 rfl rfl)
theorem dX1_module_50 : decode cX1_module 50 = .ok (.aload_n 0, 1) := dk_42 (dk_at dksX1_module_2 2 rfl rfl)
theorem dX1_module_51 : decode cX1_module 51 = .ok (.getfield 7, 3) := dk_180 0 7 (dk_at dksX1_module_2 3 rfl rfl)
theorem dX1_module_54 : decode cX1_module 54 = .ok (.iload_n 3, 1) := dk_29 (dk_at dksX1_module_2 6 rfl rfl)
theorem dX1_module_55 : decode cX1_module 55 = .ok (.invokeinterface 55 2, 5) := by decide +kernel
theorem dX1_module_60 : decode cX1_module 60 = .ok (.istore 5, 2) := dk_54 5 (dk_at dksX1_module_2 12 rfl rfl)
theorem dX1_module_62 : decode cX1_module 62 = .ok (.iload 5, 2) := dk_21 5 (dk_at dksX1_module_2 14 rfl rfl)
theorem dX1_module_64 : decode cX1_module 64 = .ok (.iconst 1, 1) := dk_4 (dk_at dksX1_module_2 16 rfl rfl)
theorem dX1_module_65 : decode cX1_module 65 = .ok (.bipush 8, 2) := dk_16 8 (dk_at dksX1_module_2 17 rfl rfl)
theorem dX1_module_67 : decode cX1_module 67 = .ok (.iload 4, 2) := dk_21 4 (dk_at dksX1_module_2 19 rfl rfl)
theorem dX1_module_69 : decode cX1_module 69 = .ok (.isub, 1) := dk_100 (dk_at dksX1_module_2 21 rfl rfl)
theorem dX1_module_70 : decode cX1_module 70 = .ok (.ishl, 1) := dk_120 (dk_at dksX1_module_2 22 rfl rfl)
theorem dX1_module_71 : decode cX1_module 71 = .ok (.iand, 1) := dk_126 (dk_at dksX1_module_2 23 rfl rfl)
theorem dX1_module_72 : decode cX1_module 72 = .ok (.istore 5, 2) := dk_54 5 (dk_at dksX1_module_3 0 rfl rfl)
theorem dX1_module_74 : decode cX1_module 74 = .ok (.aload_n 0, 1) := dk_42 (dk_at dksX1_module_3 2 rfl rfl)
theorem dX1_module_75 : decode cX1_module 75 = .ok (.iload_n 2, 1) := dk_28 (dk_at dksX1_module_3 3 rfl rfl)
theorem dX1_module_76 : decode cX1_module 76 = .ok (.iload_n 1, 1) := dk_27 (dk_at dksX1_module_3 4 rfl rfl)
theorem dX1_module_77 : decode cX1_module 77 = .ok (.iload 5, 2) := dk_21 5 (dk_at dksX1_module_3 5 rfl rfl)
theorem dX1_module_79 : decode cX1_module 79 = .ok (.ifCond .eq 7, 3) := dk_153 0 7 (dk_at dksX1_module_3 7 rfl rfl)
theorem dX1_module_82 : decode cX1_module 82 = .ok (.iconst 1, 1) := dk_4 (dk_at dksX1_module_3 10 rfl rfl)
theorem dX1_module_83 : decode cX1_module 83 = .ok (.goto 4, 3) := dk_167 0 4 (dk_at dksX1_module_3 11 rfl rfl)
theorem dX1_module_86 : decode cX1_module 86 = .ok (.iconst 0, 1) := dk_3 (dk_at dksX1_module_3 14 rfl rfl)
theorem dX1_module_87 : decode cX1_module 87 = .ok (.invokevirtual 51, 3) := dk_182 0 51 (dk_at dksX1_module_3 15 rfl rfl)
theorem dX1_module_90 : decode cX1_module 90 = .ok (.return_, 1) := dk_177 (dk_at dksX1_module_3 18 rfl rfl)
abbrev cX1_setBit : ByteArray := prog_1_method_3_code
def yX1_setBit : MethodName := ⟨RX1, "setBit", "(IIZ)V"⟩
def dkwX1_setBit_0 : List UInt8 := [42, 180, 0, 20, 28, 42, 180, 0, 13, 104, 27, 96, 29, 153, 0, 7, 4, 167, 0, 4, 3, 145, 84, 177]
abbrev dktX1_setBit_0 : List UInt8 := dkwX1_setBit_0 ++ []
theorem dksX1_setBit_0 : cX1_setBit.data.toList.drop 0 = dktX1_setBit_0 := by decide +kernel
theorem dX1_setBit_0 : decode cX1_setBit 0 = .ok (.aload_n 0, 1) := dk_42 (dk_at dksX1_setBit_0 0 rfl rfl)
theorem dX1_setBit_1 : decode cX1_setBit 1 = .ok (.getfield 20, 3) := dk_180 0 20 (dk_at dksX1_setBit_0 1 rfl rfl)
theorem dX1_setBit_4 : decode cX1_setBit 4 = .ok (.iload_n 2, 1) := dk_28 (dk_at dksX1_setBit_0 4 rfl rfl)
theorem dX1_setBit_5 : decode cX1_setBit 5 = .ok (.aload_n 0, 1) := dk_42 (dk_at dksX1_setBit_0 5 rfl rfl)
theorem dX1_setBit_6 : decode cX1_setBit 6 = .ok (.getfield 13, 3) := dk_180 0 13 (dk_at dksX1_setBit_0 6 rfl rfl)
theorem dX1_setBit_9 : decode cX1_setBit 9 = .ok (.imul, 1) := dk_104 (dk_at dksX1_setBit_0 9 rfl rfl)
theorem dX1_setBit_10 : decode cX1_setBit 10 = .ok (.iload_n 1, 1) := dk_27 (dk_at dksX1_setBit_0 10 rfl rfl)
theorem dX1_setBit_11 : decode cX1_setBit 11 = .ok (.iadd, 1) := dk_96 (dk_at dksX1_setBit_0 11 rfl rfl)
theorem dX1_setBit_12 : decode cX1_setBit 12 = .ok (.iload_n 3, 1) := dk_29 (dk_at dksX1_setBit_0 12 rfl rfl)
theorem dX1_setBit_13 : decode cX1_setBit 13 = .ok (.ifCond .eq 7, 3) := dk_153 0 7 (dk_at dksX1_setBit_0 13 rfl rfl)
theorem dX1_setBit_16 : decode cX1_setBit 16 = .ok (.iconst 1, 1) := dk_4 (dk_at dksX1_setBit_0 16 rfl rfl)
theorem dX1_setBit_17 : decode cX1_setBit 17 = .ok (.goto 4, 3) := dk_167 0 4 (dk_at dksX1_setBit_0 17 rfl rfl)
theorem dX1_setBit_20 : decode cX1_setBit 20 = .ok (.iconst 0, 1) := dk_3 (dk_at dksX1_setBit_0 20 rfl rfl)
theorem dX1_setBit_21 : decode cX1_setBit 21 = .ok (.i2b, 1) := dk_145 (dk_at dksX1_setBit_0 21 rfl rfl)
theorem dX1_setBit_22 : decode cX1_setBit 22 = .ok (.bastore, 1) := dk_84 (dk_at dksX1_setBit_0 22 rfl rfl)
theorem dX1_setBit_23 : decode cX1_setBit 23 = .ok (.return_, 1) := dk_177 (dk_at dksX1_setBit_0 23 rfl rfl)
abbrev cX1_corner2 : ByteArray := prog_1_method_9_code
def yX1_corner2 : MethodName := ⟨RX1, "corner2", "(I)V"⟩
def dkwX1_corner2_4 : List UInt8 := [42, 180, 0, 13, 4, 100, 27, 16, 8, 182, 0, 61, 177]
abbrev dktX1_corner2_4 : List UInt8 := dkwX1_corner2_4 ++ []
def dkwX1_corner2_3 : List UInt8 := [5, 100, 27, 16, 6, 182, 0, 61, 42, 3, 42, 180, 0, 13, 4, 100, 27, 16, 7, 182, 0, 61, 42, 4]
abbrev dktX1_corner2_3 : List UInt8 := dkwX1_corner2_3 ++ dktX1_corner2_4
def dkwX1_corner2_2 : List UInt8 := [27, 7, 182, 0, 61, 42, 3, 42, 180, 0, 13, 6, 100, 27, 8, 182, 0, 61, 42, 3, 42, 180, 0, 13]
abbrev dktX1_corner2_2 : List UInt8 := dkwX1_corner2_2 ++ dktX1_corner2_3
def dkwX1_corner2_1 : List UInt8 := [182, 0, 61, 42, 42, 180, 0, 17, 4, 100, 3, 27, 6, 182, 0, 61, 42, 3, 42, 180, 0, 13, 7, 100]
abbrev dktX1_corner2_1 : List UInt8 := dkwX1_corner2_1 ++ dktX1_corner2_2
def dkwX1_corner2_0 : List UInt8 := [42, 42, 180, 0, 17, 6, 100, 3, 27, 4, 182, 0, 61, 42, 42, 180, 0, 17, 5, 100, 3, 27, 5]
abbrev dktX1_corner2_0 : List UInt8 := dkwX1_corner2_0 ++ dktX1_corner2_1
theorem dksX1_corner2_0 : cX1_corner2.data.toList.drop 0 = dktX1_corner2_0 := by decide +kernel
theorem dksX1_corner2_1 : cX1_corner2.data.toList.drop 23 = dktX1_corner2_1 := dk_seg dksX1_corner2_0 23 rfl rfl
theorem dksX1_corner2_2 : cX1_corner2.data.toList.drop 47 = dktX1_corner2_2 := dk_seg dksX1_corner2_1 24 rfl rfl
theorem dksX1_corner2_3 : cX1_corner2.data.toList.drop 71 = dktX1_corner2_3 := dk_seg dksX1_corner2_2 24 rfl rfl
theorem dksX1_corner2_4 : cX1_corner2.data.toList.drop 95 = dktX1_corner2_4 := dk_seg dksX1_corner2_3 24 rfl rfl
theorem dX1_corner2_0 : decode cX1_corner2 0 = .ok (.aload_n 0, 1) := dk_42 (dk_at dksX1_corner2_0 0 rfl rfl)
theorem dX1_corner2_1 : decode cX1_corner2 1 = .ok (.aload_n 0, 1) := dk_42 (dk_at dksX1_corner2_0 1 rfl rfl)
theorem dX1_corner2_2 : decode cX1_corner2 2 = .ok (.getfield 17, 3) := dk_180 0 17 (dk_at dksX1_corner2_0 2 rfl rfl)
theorem dX1_corner2_5 : decode cX1_corner2 5 = .ok (.iconst 3, 1) := dk_6 (dk_at dksX1_corner2_0 5 rfl rfl)
theorem dX1_corner2_6 : decode cX1_corner2 6 = .ok (.isub, 1) := dk_100 (dk_at dksX1_corner2_0 6 rfl rfl)
theorem dX1_corner2_7 : decode cX1_corner2 7 = .ok (.iconst 0, 1) := dk_3 (dk_at dksX1_corner2_0 7 rfl rfl)
theorem dX1_corner2_8 : decode cX1_corner2 8 = .ok (.iload_n 1, 1) := dk_27 (dk_at dksX1_corner2_0 8 rfl rfl)
theorem dX1_corner2_9 : decode cX1_corner2 9 = .ok (.iconst 1, 1) := dk_4 (dk_at dksX1_corner2_0 9 rfl rfl)
theorem dX1_corner2_10 : decode cX1_corner2 10 = .ok (.invokevirtual 61, 3) := dk_182 0 61 (dk_at dksX1_corner2_0 10 rfl rfl)
theorem dX1_corner2_13 : decode cX1_corner2 13 = .ok (.aload_n 0, 1) := dk_42 (dk_at dksX1_corner2_0 13 rfl rfl)
theorem dX1_corner2_14 : decode cX1_corner2 14 = .ok (.aload_n 0, 1) := dk_42 (dk_at dksX1_corner2_0 14 rfl rfl)
theorem dX1_corner2_15 : decode cX1_corner2 15 = .ok (.getfield 17, 3) := dk_180 0 17 (dk_at dksX1_corner2_0 15 rfl rfl)
theorem dX1_corner2_18 : decode cX1_corner2 18 = .ok (.iconst 2, 1) := dk_5 (dk_at dksX1_corner2_0 18 rfl rfl)
theorem dX1_corner2_19 : decode cX1_corner2 19 = .ok (.isub, 1) := dk_100 (dk_at dksX1_corner2_0 19 rfl rfl)
theorem dX1_corner2_20 : decode cX1_corner2 20 = .ok (.iconst 0, 1) := dk_3 (dk_at dksX1_corner2_0 20 rfl rfl)
theorem dX1_corner2_21 : decode cX1_corner2 21 = .ok (.iload_n 1, 1) := dk_27 (dk_at dksX1_corner2_0 21 rfl rfl)
theorem dX1_corner2_22 : decode cX1_corner2 22 = .ok (.iconst 2, 1) := dk_5 (dk_at dksX1_corner2_0 22 rfl rfl)
theorem dX1_corner2_23 : decode cX1_corner2 23 = .ok (.invokevirtual 61, 3) := dk_182 0 61 (dk_at dksX1_corner2_1 0 rfl rfl)
theorem dX1_corner2_26 : decode cX1_corner2 26 = .ok (.aload_n 0, 1) := dk_42 (dk_at dksX1_corner2_1 3 rfl rfl)
theorem dX1_corner2_27 : decode cX1_corner2 27 = .ok (.aload_n 0, 1) := dk_42 (dk_at dksX1_corner2_1 4 rfl rfl)
theorem dX1_corner2_28 : decode cX1_corner2 28 = .ok (.getfield 17, 3) := dk_180 0 17 (dk_at dksX1_corner2_1 5 rfl rfl)
theorem dX1_corner2_31 : decode cX1_corner2 31 = .ok (.iconst 1, 1) := dk_4 (dk_at dksX1_corner2_1 8 rfl rfl)
theorem dX1_corner2_32 : decode cX1_corner2 32 = .ok (.isub, 1) := dk_100 (dk_at dksX1_corner2_1 9 rfl rfl)
theorem dX1_corner2_33 : decode cX1_corner2 33 = .ok (.iconst 0, 1) := dk_3 (dk_at dksX1_corner2_1 10 rfl rfl)
theorem dX1_corner2_34 : decode cX1_corner2 34 = .ok (.iload_n 1, 1) := dk_27 (dk_at dksX1_corner2_1 11 rfl rfl)
theorem dX1_corner2_35 : decode cX1_corner2 35 = .ok (.iconst 3, 1) := dk_6 (dk_at dksX1_corner2_1 12 rfl rfl)
theorem dX1_corner2_36 : decode cX1_corner2 36 = .ok (.invokevirtual 61, 3) := dk_182 0 61 (dk_at dksX1_corner2_1 13 rfl rfl)
theorem dX1_corner2_39 : decode cX1_corner2 39 = .ok (.aload_n 0, 1) := dk_42 (dk_at dksX1_corner2_1 16 rfl rfl)
theorem dX1_corner2_40 : decode cX1_corner2 40 = .ok (.iconst 0, 1) := dk_3 (dk_at dksX1_corner2_1 17 rfl rfl)
theorem dX1_corner2_41 : decode cX1_corner2 41 = .ok (.aload_n 0, 1) := dk_42 (dk_at dksX1_corner2_1 18 rfl rfl)
theorem dX1_corner2_42 : decode cX1_corner2 42 = .ok (.getfield 13, 3) := dk_180 0 13 (dk_at dksX1_corner2_1 19 rfl rfl)
theorem dX1_corner2_45 : decode cX1_corner2 45 = .ok (.iconst 4, 1) := dk_7 (dk_at dksX1_corner2_1 22 rfl rfl)
theorem dX1_corner2_46 : decode cX1_corner2 46 = .ok (.isub, 1) := dk_100 (dk_at dksX1_corner2_1 23 rfl rfl)
theorem dX1_corner2_47 : decode cX1_corner2 47 = .ok (.iload_n 1, 1) := dk_27 (dk_at dksX1_corner2_2 0 rfl rfl)
theorem dX1_corner2_48 : decode cX1_corner2 48 = .ok (.iconst 4, 1) := dk_7 (dk_at dksX1_corner2_2 1 rfl rfl)
theorem dX1_corner2_49 : decode cX1_corner2 49 = .ok (.invokevirtual 61, 3) := dk_182 0 61 (dk_at dksX1_corner2_2 2 rfl rfl)
theorem dX1_corner2_52 : decode cX1_corner2 52 = .ok (.aload_n 0, 1) := dk_42 (dk_at dksX1_corner2_2 5 rfl rfl)
theorem dX1_corner2_53 : decode cX1_corner2 53 = .ok (.iconst 0, 1) := dk_3 (dk_at dksX1_corner2_2 6 rfl rfl)
theorem dX1_corner2_54 : decode cX1_corner2 54 = .ok (.aload_n 0, 1) := dk_42 (dk_at dksX1_corner2_2 7 rfl rfl)
theorem dX1_corner2_55 : decode cX1_corner2 55 = .ok (.getfield 13, 3) := dk_180 0 13 (dk_at dksX1_corner2_2 8 rfl rfl)
theorem dX1_corner2_58 : decode cX1_corner2 58 = .ok (.iconst 3, 1) := dk_6 (dk_at dksX1_corner2_2 11 rfl rfl)
theorem dX1_corner2_59 : decode cX1_corner2 59 = .ok (.isub, 1) := dk_100 (dk_at dksX1_corner2_2 12 rfl rfl)
theorem dX1_corner2_60 : decode cX1_corner2 60 = .ok (.iload_n 1, 1) := dk_27 (dk_at dksX1_corner2_2 13 rfl rfl)
theorem dX1_corner2_61 : decode cX1_corner2 61 = .ok (.iconst 5, 1) := dk_8 (dk_at dksX1_corner2_2 14 rfl rfl)
theorem dX1_corner2_62 : decode cX1_corner2 62 = .ok (.invokevirtual 61, 3) := dk_182 0 61 (dk_at dksX1_corner2_2 15 rfl rfl)
theorem dX1_corner2_65 : decode cX1_corner2 65 = .ok (.aload_n 0, 1) := dk_42 (dk_at dksX1_corner2_2 18 rfl rfl)
theorem dX1_corner2_66 : decode cX1_corner2 66 = .ok (.iconst 0, 1) := dk_3 (dk_at dksX1_corner2_2 19 rfl rfl)
theorem dX1_corner2_67 : decode cX1_corner2 67 = .ok (.aload_n 0, 1) := dk_42 (dk_at dksX1_corner2_2 20 rfl rfl)
theorem dX1_corner2_68 : decode cX1_corner2 68 = .ok (.getfield 13, 3) := dk_180 0 13 (dk_at dksX1_corner2_2 21 rfl rfl)
theorem dX1_corner2_71 : decode cX1_corner2 71 = .ok (.iconst 2, 1) := dk_5 (dk_at dksX1_corner2_3 0 rfl rfl)
theorem dX1_corner2_72 : decode cX1_corner2 72 = .ok (.isub, 1) := dk_100 (dk_at dksX1_corner2_3 1 rfl rfl)
theorem dX1_corner2_73 : decode cX1_corner2 73 = .ok (.iload_n 1, 1) := dk_27 (dk_at dksX1_corner2_3 2 rfl rfl)
theorem dX1_corner2_74 : decode cX1_corner2 74 = .ok (.bipush 6, 2) := dk_16 6 (dk_at dksX1_corner2_3 3 rfl rfl)
theorem dX1_corner2_76 : decode cX1_corner2 76 = .ok (.invokevirtual 61, 3) := dk_182 0 61 (dk_at dksX1_corner2_3 5 rfl rfl)
theorem dX1_corner2_79 : decode cX1_corner2 79 = .ok (.aload_n 0, 1) := dk_42 (dk_at dksX1_corner2_3 8 rfl rfl)
theorem dX1_corner2_80 : decode cX1_corner2 80 = .ok (.iconst 0, 1) := dk_3 (dk_at dksX1_corner2_3 9 rfl rfl)
theorem dX1_corner2_81 : decode cX1_corner2 81 = .ok (.aload_n 0, 1) := dk_42 (dk_at dksX1_corner2_3 10 rfl rfl)
theorem dX1_corner2_82 : decode cX1_corner2 82 = .ok (.getfield 13, 3) := dk_180 0 13 (dk_at dksX1_corner2_3 11 rfl rfl)
theorem dX1_corner2_85 : decode cX1_corner2 85 = .ok (.iconst 1, 1) := dk_4 (dk_at dksX1_corner2_3 14 rfl rfl)
theorem dX1_corner2_86 : decode cX1_corner2 86 = .ok (.isub, 1) := dk_100 (dk_at dksX1_corner2_3 15 rfl rfl)
theorem dX1_corner2_87 : decode cX1_corner2 87 = .ok (.iload_n 1, 1) := dk_27 (dk_at dksX1_corner2_3 16 rfl rfl)
theorem dX1_corner2_88 : decode cX1_corner2 88 = .ok (.bipush 7, 2) := dk_16 7 (dk_at dksX1_corner2_3 17 rfl rfl)
theorem dX1_corner2_90 : decode cX1_corner2 90 = .ok (.invokevirtual 61, 3) := dk_182 0 61 (dk_at dksX1_corner2_3 19 rfl rfl)
theorem dX1_corner2_93 : decode cX1_corner2 93 = .ok (.aload_n 0, 1) := dk_42 (dk_at dksX1_corner2_3 22 rfl rfl)
theorem dX1_corner2_94 : decode cX1_corner2 94 = .ok (.iconst 1, 1) := dk_4 (dk_at dksX1_corner2_3 23 rfl rfl)
theorem dX1_corner2_95 : decode cX1_corner2 95 = .ok (.aload_n 0, 1) := dk_42 (dk_at dksX1_corner2_4 0 rfl rfl)
theorem dX1_corner2_96 : decode cX1_corner2 96 = .ok (.getfield 13, 3) := dk_180 0 13 (dk_at dksX1_corner2_4 1 rfl rfl)
theorem dX1_corner2_99 : decode cX1_corner2 99 = .ok (.iconst 1, 1) := dk_4 (dk_at dksX1_corner2_4 4 rfl rfl)
theorem dX1_corner2_100 : decode cX1_corner2 100 = .ok (.isub, 1) := dk_100 (dk_at dksX1_corner2_4 5 rfl rfl)
theorem dX1_corner2_101 : decode cX1_corner2 101 = .ok (.iload_n 1, 1) := dk_27 (dk_at dksX1_corner2_4 6 rfl rfl)
theorem dX1_corner2_102 : decode cX1_corner2 102 = .ok (.bipush 8, 2) := dk_16 8 (dk_at dksX1_corner2_4 7 rfl rfl)
theorem dX1_corner2_104 : decode cX1_corner2 104 = .ok (.invokevirtual 61, 3) := dk_182 0 61 (dk_at dksX1_corner2_4 9 rfl rfl)
theorem dX1_corner2_107 : decode cX1_corner2 107 = .ok (.return_, 1) := dk_177 (dk_at dksX1_corner2_4 12 rfl rfl)
abbrev cX1_corner3 : ByteArray := prog_1_method_10_code
def yX1_corner3 : MethodName := ⟨RX1, "corner3", "(I)V"⟩
def dkwX1_corner3_4 : List UInt8 := [42, 180, 0, 13, 4, 100, 27, 16, 8, 182, 0, 61, 177]
abbrev dktX1_corner3_4 : List UInt8 := dkwX1_corner3_4 ++ []
def dkwX1_corner3_3 : List UInt8 := [4, 100, 27, 16, 6, 182, 0, 61, 42, 5, 42, 180, 0, 13, 4, 100, 27, 16, 7, 182, 0, 61, 42, 6]
abbrev dktX1_corner3_3 : List UInt8 := dkwX1_corner3_3 ++ dktX1_corner3_4
def dkwX1_corner3_2 : List UInt8 := [27, 7, 182, 0, 61, 42, 3, 42, 180, 0, 13, 4, 100, 27, 8, 182, 0, 61, 42, 4, 42, 180, 0, 13]
abbrev dktX1_corner3_2 : List UInt8 := dkwX1_corner3_2 ++ dktX1_corner3_3
def dkwX1_corner3_1 : List UInt8 := [182, 0, 61, 42, 42, 180, 0, 17, 4, 100, 3, 27, 6, 182, 0, 61, 42, 3, 42, 180, 0, 13, 5, 100]
abbrev dktX1_corner3_1 : List UInt8 := dkwX1_corner3_1 ++ dktX1_corner3_2
def dkwX1_corner3_0 : List UInt8 := [42, 42, 180, 0, 17, 6, 100, 3, 27, 4, 182, 0, 61, 42, 42, 180, 0, 17, 5, 100, 3, 27, 5]
abbrev dktX1_corner3_0 : List UInt8 := dkwX1_corner3_0 ++ dktX1_corner3_1
theorem dksX1_corner3_0 : cX1_corner3.data.toList.drop 0 = dktX1_corner3_0 := by decide +kernel
theorem dksX1_corner3_1 : cX1_corner3.data.toList.drop 23 = dktX1_corner3_1 := dk_seg dksX1_corner3_0 23 rfl rfl
theorem dksX1_corner3_2 : cX1_corner3.data.toList.drop 47 = dktX1_corner3_2 := dk_seg dksX1_corner3_1 24 rfl rfl
theorem dksX1_corner3_3 : cX1_corner3.data.toList.drop 71 = dktX1_corner3_3 := dk_seg dksX1_corner3_2 24 rfl rfl
theorem dksX1_corner3_4 : cX1_corner3.data.toList.drop 95 = dktX1_corner3_4 := dk_seg dksX1_corner3_3 24 rfl rfl
theorem dX1_corner3_0 : decode cX1_corner3 0 = .ok (.aload_n 0, 1) := dk_42 (dk_at dksX1_corner3_0 0 rfl rfl)
theorem dX1_corner3_1 : decode cX1_corner3 1 = .ok (.aload_n 0, 1) := dk_42 (dk_at dksX1_corner3_0 1 rfl rfl)
theorem dX1_corner3_2 : decode cX1_corner3 2 = .ok (.getfield 17, 3) := dk_180 0 17 (dk_at dksX1_corner3_0 2 rfl rfl)
theorem dX1_corner3_5 : decode cX1_corner3 5 = .ok (.iconst 3, 1) := dk_6 (dk_at dksX1_corner3_0 5 rfl rfl)
theorem dX1_corner3_6 : decode cX1_corner3 6 = .ok (.isub, 1) := dk_100 (dk_at dksX1_corner3_0 6 rfl rfl)
theorem dX1_corner3_7 : decode cX1_corner3 7 = .ok (.iconst 0, 1) := dk_3 (dk_at dksX1_corner3_0 7 rfl rfl)
theorem dX1_corner3_8 : decode cX1_corner3 8 = .ok (.iload_n 1, 1) := dk_27 (dk_at dksX1_corner3_0 8 rfl rfl)
theorem dX1_corner3_9 : decode cX1_corner3 9 = .ok (.iconst 1, 1) := dk_4 (dk_at dksX1_corner3_0 9 rfl rfl)
theorem dX1_corner3_10 : decode cX1_corner3 10 = .ok (.invokevirtual 61, 3) := dk_182 0 61 (dk_at dksX1_corner3_0 10 rfl rfl)
theorem dX1_corner3_13 : decode cX1_corner3 13 = .ok (.aload_n 0, 1) := dk_42 (dk_at dksX1_corner3_0 13 rfl rfl)
theorem dX1_corner3_14 : decode cX1_corner3 14 = .ok (.aload_n 0, 1) := dk_42 (dk_at dksX1_corner3_0 14 rfl rfl)
theorem dX1_corner3_15 : decode cX1_corner3 15 = .ok (.getfield 17, 3) := dk_180 0 17 (dk_at dksX1_corner3_0 15 rfl rfl)
theorem dX1_corner3_18 : decode cX1_corner3 18 = .ok (.iconst 2, 1) := dk_5 (dk_at dksX1_corner3_0 18 rfl rfl)
theorem dX1_corner3_19 : decode cX1_corner3 19 = .ok (.isub, 1) := dk_100 (dk_at dksX1_corner3_0 19 rfl rfl)
theorem dX1_corner3_20 : decode cX1_corner3 20 = .ok (.iconst 0, 1) := dk_3 (dk_at dksX1_corner3_0 20 rfl rfl)
theorem dX1_corner3_21 : decode cX1_corner3 21 = .ok (.iload_n 1, 1) := dk_27 (dk_at dksX1_corner3_0 21 rfl rfl)
theorem dX1_corner3_22 : decode cX1_corner3 22 = .ok (.iconst 2, 1) := dk_5 (dk_at dksX1_corner3_0 22 rfl rfl)
theorem dX1_corner3_23 : decode cX1_corner3 23 = .ok (.invokevirtual 61, 3) := dk_182 0 61 (dk_at dksX1_corner3_1 0 rfl rfl)
theorem dX1_corner3_26 : decode cX1_corner3 26 = .ok (.aload_n 0, 1) := dk_42 (dk_at dksX1_corner3_1 3 rfl rfl)
theorem dX1_corner3_27 : decode cX1_corner3 27 = .ok (.aload_n 0, 1) := dk_42 (dk_at dksX1_corner3_1 4 rfl rfl)
theorem dX1_corner3_28 : decode cX1_corner3 28 = .ok (.getfield 17, 3) := dk_180 0 17 (dk_at dksX1_corner3_1 5 rfl rfl)
theorem dX1_corner3_31 : decode cX1_corner3 31 = .ok (.iconst 1, 1) := dk_4 (dk_at dksX1_corner3_1 8 rfl rfl)
theorem dX1_corner3_32 : decode cX1_corner3 32 = .ok (.isub, 1) := dk_100 (dk_at dksX1_corner3_1 9 rfl rfl)
theorem dX1_corner3_33 : decode cX1_corner3 33 = .ok (.iconst 0, 1) := dk_3 (dk_at dksX1_corner3_1 10 rfl rfl)
theorem dX1_corner3_34 : decode cX1_corner3 34 = .ok (.iload_n 1, 1) := dk_27 (dk_at dksX1_corner3_1 11 rfl rfl)
theorem dX1_corner3_35 : decode cX1_corner3 35 = .ok (.iconst 3, 1) := dk_6 (dk_at dksX1_corner3_1 12 rfl rfl)
theorem dX1_corner3_36 : decode cX1_corner3 36 = .ok (.invokevirtual 61, 3) := dk_182 0 61 (dk_at dksX1_corner3_1 13 rfl rfl)
theorem dX1_corner3_39 : decode cX1_corner3 39 = .ok (.aload_n 0, 1) := dk_42 (dk_at dksX1_corner3_1 16 rfl rfl)
theorem dX1_corner3_40 : decode cX1_corner3 40 = .ok (.iconst 0, 1) := dk_3 (dk_at dksX1_corner3_1 17 rfl rfl)
theorem dX1_corner3_41 : decode cX1_corner3 41 = .ok (.aload_n 0, 1) := dk_42 (dk_at dksX1_corner3_1 18 rfl rfl)
theorem dX1_corner3_42 : decode cX1_corner3 42 = .ok (.getfield 13, 3) := dk_180 0 13 (dk_at dksX1_corner3_1 19 rfl rfl)
theorem dX1_corner3_45 : decode cX1_corner3 45 = .ok (.iconst 2, 1) := dk_5 (dk_at dksX1_corner3_1 22 rfl rfl)
theorem dX1_corner3_46 : decode cX1_corner3 46 = .ok (.isub, 1) := dk_100 (dk_at dksX1_corner3_1 23 rfl rfl)
theorem dX1_corner3_47 : decode cX1_corner3 47 = .ok (.iload_n 1, 1) := dk_27 (dk_at dksX1_corner3_2 0 rfl rfl)
theorem dX1_corner3_48 : decode cX1_corner3 48 = .ok (.iconst 4, 1) := dk_7 (dk_at dksX1_corner3_2 1 rfl rfl)
theorem dX1_corner3_49 : decode cX1_corner3 49 = .ok (.invokevirtual 61, 3) := dk_182 0 61 (dk_at dksX1_corner3_2 2 rfl rfl)
theorem dX1_corner3_52 : decode cX1_corner3 52 = .ok (.aload_n 0, 1) := dk_42 (dk_at dksX1_corner3_2 5 rfl rfl)
theorem dX1_corner3_53 : decode cX1_corner3 53 = .ok (.iconst 0, 1) := dk_3 (dk_at dksX1_corner3_2 6 rfl rfl)
theorem dX1_corner3_54 : decode cX1_corner3 54 = .ok (.aload_n 0, 1) := dk_42 (dk_at dksX1_corner3_2 7 rfl rfl)
theorem dX1_corner3_55 : decode cX1_corner3 55 = .ok (.getfield 13, 3) := dk_180 0 13 (dk_at dksX1_corner3_2 8 rfl rfl)
theorem dX1_corner3_58 : decode cX1_corner3 58 = .ok (.iconst 1, 1) := dk_4 (dk_at dksX1_corner3_2 11 rfl rfl)
theorem dX1_corner3_59 : decode cX1_corner3 59 = .ok (.isub, 1) := dk_100 (dk_at dksX1_corner3_2 12 rfl rfl)
theorem dX1_corner3_60 : decode cX1_corner3 60 = .ok (.iload_n 1, 1) := dk_27 (dk_at dksX1_corner3_2 13 rfl rfl)
theorem dX1_corner3_61 : decode cX1_corner3 61 = .ok (.iconst 5, 1) := dk_8 (dk_at dksX1_corner3_2 14 rfl rfl)
theorem dX1_corner3_62 : decode cX1_corner3 62 = .ok (.invokevirtual 61, 3) := dk_182 0 61 (dk_at dksX1_corner3_2 15 rfl rfl)
theorem dX1_corner3_65 : decode cX1_corner3 65 = .ok (.aload_n 0, 1) := dk_42 (dk_at dksX1_corner3_2 18 rfl rfl)
theorem dX1_corner3_66 : decode cX1_corner3 66 = .ok (.iconst 1, 1) := dk_4 (dk_at dksX1_corner3_2 19 rfl rfl)
theorem dX1_corner3_67 : decode cX1_corner3 67 = .ok (.aload_n 0, 1) := dk_42 (dk_at dksX1_corner3_2 20 rfl rfl)
theorem dX1_corner3_68 : decode cX1_corner3 68 = .ok (.getfield 13, 3) := dk_180 0 13 (dk_at dksX1_corner3_2 21 rfl rfl)
theorem dX1_corner3_71 : decode cX1_corner3 71 = .ok (.iconst 1, 1) := dk_4 (dk_at dksX1_corner3_3 0 rfl rfl)
theorem dX1_corner3_72 : decode cX1_corner3 72 = .ok (.isub, 1) := dk_100 (dk_at dksX1_corner3_3 1 rfl rfl)
theorem dX1_corner3_73 : decode cX1_corner3 73 = .ok (.iload_n 1, 1) := dk_27 (dk_at dksX1_corner3_3 2 rfl rfl)
theorem dX1_corner3_74 : decode cX1_corner3 74 = .ok (.bipush 6, 2) := dk_16 6 (dk_at dksX1_corner3_3 3 rfl rfl)
theorem dX1_corner3_76 : decode cX1_corner3 76 = .ok (.invokevirtual 61, 3) := dk_182 0 61 (dk_at dksX1_corner3_3 5 rfl rfl)
theorem dX1_corner3_79 : decode cX1_corner3 79 = .ok (.aload_n 0, 1) := dk_42 (dk_at dksX1_corner3_3 8 rfl rfl)
theorem dX1_corner3_80 : decode cX1_corner3 80 = .ok (.iconst 2, 1) := dk_5 (dk_at dksX1_corner3_3 9 rfl rfl)
theorem dX1_corner3_81 : decode cX1_corner3 81 = .ok (.aload_n 0, 1) := dk_42 (dk_at dksX1_corner3_3 10 rfl rfl)
theorem dX1_corner3_82 : decode cX1_corner3 82 = .ok (.getfield 13, 3) := dk_180 0 13 (dk_at dksX1_corner3_3 11 rfl rfl)
theorem dX1_corner3_85 : decode cX1_corner3 85 = .ok (.iconst 1, 1) := dk_4 (dk_at dksX1_corner3_3 14 rfl rfl)
theorem dX1_corner3_86 : decode cX1_corner3 86 = .ok (.isub, 1) := dk_100 (dk_at dksX1_corner3_3 15 rfl rfl)
theorem dX1_corner3_87 : decode cX1_corner3 87 = .ok (.iload_n 1, 1) := dk_27 (dk_at dksX1_corner3_3 16 rfl rfl)
theorem dX1_corner3_88 : decode cX1_corner3 88 = .ok (.bipush 7, 2) := dk_16 7 (dk_at dksX1_corner3_3 17 rfl rfl)
theorem dX1_corner3_90 : decode cX1_corner3 90 = .ok (.invokevirtual 61, 3) := dk_182 0 61 (dk_at dksX1_corner3_3 19 rfl rfl)
theorem dX1_corner3_93 : decode cX1_corner3 93 = .ok (.aload_n 0, 1) := dk_42 (dk_at dksX1_corner3_3 22 rfl rfl)
theorem dX1_corner3_94 : decode cX1_corner3 94 = .ok (.iconst 3, 1) := dk_6 (dk_at dksX1_corner3_3 23 rfl rfl)
theorem dX1_corner3_95 : decode cX1_corner3 95 = .ok (.aload_n 0, 1) := dk_42 (dk_at dksX1_corner3_4 0 rfl rfl)
theorem dX1_corner3_96 : decode cX1_corner3 96 = .ok (.getfield 13, 3) := dk_180 0 13 (dk_at dksX1_corner3_4 1 rfl rfl)
theorem dX1_corner3_99 : decode cX1_corner3 99 = .ok (.iconst 1, 1) := dk_4 (dk_at dksX1_corner3_4 4 rfl rfl)
theorem dX1_corner3_100 : decode cX1_corner3 100 = .ok (.isub, 1) := dk_100 (dk_at dksX1_corner3_4 5 rfl rfl)
theorem dX1_corner3_101 : decode cX1_corner3 101 = .ok (.iload_n 1, 1) := dk_27 (dk_at dksX1_corner3_4 6 rfl rfl)
theorem dX1_corner3_102 : decode cX1_corner3 102 = .ok (.bipush 8, 2) := dk_16 8 (dk_at dksX1_corner3_4 7 rfl rfl)
theorem dX1_corner3_104 : decode cX1_corner3 104 = .ok (.invokevirtual 61, 3) := dk_182 0 61 (dk_at dksX1_corner3_4 9 rfl rfl)
theorem dX1_corner3_107 : decode cX1_corner3 107 = .ok (.return_, 1) := dk_177 (dk_at dksX1_corner3_4 12 rfl rfl)
abbrev cX1_corner4 : ByteArray := prog_1_method_11_code
def yX1_corner4 : MethodName := ⟨RX1, "corner4", "(I)V"⟩
def dkwX1_corner4_4 : List UInt8 := [182, 0, 61, 42, 4, 42, 180, 0, 13, 4, 100, 27, 16, 8, 182, 0, 61, 177]
abbrev dktX1_corner4_4 : List UInt8 := dkwX1_corner4_4 ++ []
def dkwX1_corner4_3 : List UInt8 := [4, 42, 180, 0, 13, 6, 100, 27, 16, 6, 182, 0, 61, 42, 4, 42, 180, 0, 13, 5, 100, 27, 16, 7]
abbrev dktX1_corner4_3 : List UInt8 := dkwX1_corner4_3 ++ dktX1_corner4_4
def dkwX1_corner4_2 : List UInt8 := [180, 0, 13, 5, 100, 27, 7, 182, 0, 61, 42, 3, 42, 180, 0, 13, 4, 100, 27, 8, 182, 0, 61, 42]
abbrev dktX1_corner4_2 : List UInt8 := dkwX1_corner4_2 ++ dktX1_corner4_3
def dkwX1_corner4_1 : List UInt8 := [4, 100, 27, 5, 182, 0, 61, 42, 3, 42, 180, 0, 13, 6, 100, 27, 6, 182, 0, 61, 42, 3, 42]
abbrev dktX1_corner4_1 : List UInt8 := dkwX1_corner4_1 ++ dktX1_corner4_2
def dkwX1_corner4_0 : List UInt8 := [42, 42, 180, 0, 17, 4, 100, 3, 27, 4, 182, 0, 61, 42, 42, 180, 0, 17, 4, 100, 42, 180, 0, 13]
abbrev dktX1_corner4_0 : List UInt8 := dkwX1_corner4_0 ++ dktX1_corner4_1
theorem dksX1_corner4_0 : cX1_corner4.data.toList.drop 0 = dktX1_corner4_0 := by decide +kernel
theorem dksX1_corner4_1 : cX1_corner4.data.toList.drop 24 = dktX1_corner4_1 := dk_seg dksX1_corner4_0 24 rfl rfl
theorem dksX1_corner4_2 : cX1_corner4.data.toList.drop 47 = dktX1_corner4_2 := dk_seg dksX1_corner4_1 23 rfl rfl
theorem dksX1_corner4_3 : cX1_corner4.data.toList.drop 71 = dktX1_corner4_3 := dk_seg dksX1_corner4_2 24 rfl rfl
theorem dksX1_corner4_4 : cX1_corner4.data.toList.drop 95 = dktX1_corner4_4 := dk_seg dksX1_corner4_3 24 rfl rfl
theorem dX1_corner4_0 : decode cX1_corner4 0 = .ok (.aload_n 0, 1) := dk_42 (dk_at dksX1_corner4_0 0 rfl rfl)
theorem dX1_corner4_1 : decode cX1_corner4 1 = .ok (.aload_n 0, 1) := dk_42 (dk_at dksX1_corner4_0 1 rfl rfl)
theorem dX1_corner4_2 : decode cX1_corner4 2 = .ok (.getfield 17, 3) := dk_180 0 17 (dk_at dksX1_corner4_0 2 rfl rfl)
theorem dX1_corner4_5 : decode cX1_corner4 5 = .ok (.iconst 1, 1) := dk_4 (dk_at dksX1_corner4_0 5 rfl rfl)
theorem dX1_corner4_6 : decode cX1_corner4 6 = .ok (.isub, 1) := dk_100 (dk_at dksX1_corner4_0 6 rfl rfl)
theorem dX1_corner4_7 : decode cX1_corner4 7 = .ok (.iconst 0, 1) := dk_3 (dk_at dksX1_corner4_0 7 rfl rfl)
theorem dX1_corner4_8 : decode cX1_corner4 8 = .ok (.iload_n 1, 1) := dk_27 (dk_at dksX1_corner4_0 8 rfl rfl)
theorem dX1_corner4_9 : decode cX1_corner4 9 = .ok (.iconst 1, 1) := dk_4 (dk_at dksX1_corner4_0 9 rfl rfl)
theorem dX1_corner4_10 : decode cX1_corner4 10 = .ok (.invokevirtual 61, 3) := dk_182 0 61 (dk_at dksX1_corner4_0 10 rfl rfl)
theorem dX1_corner4_13 : decode cX1_corner4 13 = .ok (.aload_n 0, 1) := dk_42 (dk_at dksX1_corner4_0 13 rfl rfl)
theorem dX1_corner4_14 : decode cX1_corner4 14 = .ok (.aload_n 0, 1) := dk_42 (dk_at dksX1_corner4_0 14 rfl rfl)
theorem dX1_corner4_15 : decode cX1_corner4 15 = .ok (.getfield 17, 3) := dk_180 0 17 (dk_at dksX1_corner4_0 15 rfl rfl)
theorem dX1_corner4_18 : decode cX1_corner4 18 = .ok (.iconst 1, 1) := dk_4 (dk_at dksX1_corner4_0 18 rfl rfl)
theorem dX1_corner4_19 : decode cX1_corner4 19 = .ok (.isub, 1) := dk_100 (dk_at dksX1_corner4_0 19 rfl rfl)
theorem dX1_corner4_20 : decode cX1_corner4 20 = .ok (.aload_n 0, 1) := dk_42 (dk_at dksX1_corner4_0 20 rfl rfl)
theorem dX1_corner4_21 : decode cX1_corner4 21 = .ok (.getfield 13, 3) := dk_180 0 13 (dk_at dksX1_corner4_0 21 rfl rfl)
theorem dX1_corner4_24 : decode cX1_corner4 24 = .ok (.iconst 1, 1) := dk_4 (dk_at dksX1_corner4_1 0 rfl rfl)
theorem dX1_corner4_25 : decode cX1_corner4 25 = .ok (.isub, 1) := dk_100 (dk_at dksX1_corner4_1 1 rfl rfl)
theorem dX1_corner4_26 : decode cX1_corner4 26 = .ok (.iload_n 1, 1) := dk_27 (dk_at dksX1_corner4_1 2 rfl rfl)
theorem dX1_corner4_27 : decode cX1_corner4 27 = .ok (.iconst 2, 1) := dk_5 (dk_at dksX1_corner4_1 3 rfl rfl)
theorem dX1_corner4_28 : decode cX1_corner4 28 = .ok (.invokevirtual 61, 3) := dk_182 0 61 (dk_at dksX1_corner4_1 4 rfl rfl)
theorem dX1_corner4_31 : decode cX1_corner4 31 = .ok (.aload_n 0, 1) := dk_42 (dk_at dksX1_corner4_1 7 rfl rfl)
theorem dX1_corner4_32 : decode cX1_corner4 32 = .ok (.iconst 0, 1) := dk_3 (dk_at dksX1_corner4_1 8 rfl rfl)
theorem dX1_corner4_33 : decode cX1_corner4 33 = .ok (.aload_n 0, 1) := dk_42 (dk_at dksX1_corner4_1 9 rfl rfl)
theorem dX1_corner4_34 : decode cX1_corner4 34 = .ok (.getfield 13, 3) := dk_180 0 13 (dk_at dksX1_corner4_1 10 rfl rfl)
theorem dX1_corner4_37 : decode cX1_corner4 37 = .ok (.iconst 3, 1) := dk_6 (dk_at dksX1_corner4_1 13 rfl rfl)
theorem dX1_corner4_38 : decode cX1_corner4 38 = .ok (.isub, 1) := dk_100 (dk_at dksX1_corner4_1 14 rfl rfl)
theorem dX1_corner4_39 : decode cX1_corner4 39 = .ok (.iload_n 1, 1) := dk_27 (dk_at dksX1_corner4_1 15 rfl rfl)
theorem dX1_corner4_40 : decode cX1_corner4 40 = .ok (.iconst 3, 1) := dk_6 (dk_at dksX1_corner4_1 16 rfl rfl)
theorem dX1_corner4_41 : decode cX1_corner4 41 = .ok (.invokevirtual 61, 3) := dk_182 0 61 (dk_at dksX1_corner4_1 17 rfl rfl)
theorem dX1_corner4_44 : decode cX1_corner4 44 = .ok (.aload_n 0, 1) := dk_42 (dk_at dksX1_corner4_1 20 rfl rfl)
theorem dX1_corner4_45 : decode cX1_corner4 45 = .ok (.iconst 0, 1) := dk_3 (dk_at dksX1_corner4_1 21 rfl rfl)
theorem dX1_corner4_46 : decode cX1_corner4 46 = .ok (.aload_n 0, 1) := dk_42 (dk_at dksX1_corner4_1 22 rfl rfl)
theorem dX1_corner4_47 : decode cX1_corner4 47 = .ok (.getfield 13, 3) := dk_180 0 13 (dk_at dksX1_corner4_2 0 rfl rfl)
theorem dX1_corner4_50 : decode cX1_corner4 50 = .ok (.iconst 2, 1) := dk_5 (dk_at dksX1_corner4_2 3 rfl rfl)
theorem dX1_corner4_51 : decode cX1_corner4 51 = .ok (.isub, 1) := dk_100 (dk_at dksX1_corner4_2 4 rfl rfl)
theorem dX1_corner4_52 : decode cX1_corner4 52 = .ok (.iload_n 1, 1) := dk_27 (dk_at dksX1_corner4_2 5 rfl rfl)
theorem dX1_corner4_53 : decode cX1_corner4 53 = .ok (.iconst 4, 1) := dk_7 (dk_at dksX1_corner4_2 6 rfl rfl)
theorem dX1_corner4_54 : decode cX1_corner4 54 = .ok (.invokevirtual 61, 3) := dk_182 0 61 (dk_at dksX1_corner4_2 7 rfl rfl)
theorem dX1_corner4_57 : decode cX1_corner4 57 = .ok (.aload_n 0, 1) := dk_42 (dk_at dksX1_corner4_2 10 rfl rfl)
theorem dX1_corner4_58 : decode cX1_corner4 58 = .ok (.iconst 0, 1) := dk_3 (dk_at dksX1_corner4_2 11 rfl rfl)
theorem dX1_corner4_59 : decode cX1_corner4 59 = .ok (.aload_n 0, 1) := dk_42 (dk_at dksX1_corner4_2 12 rfl rfl)
theorem dX1_corner4_60 : decode cX1_corner4 60 = .ok (.getfield 13, 3) := dk_180 0 13 (dk_at dksX1_corner4_2 13 rfl rfl)
theorem dX1_corner4_63 : decode cX1_corner4 63 = .ok (.iconst 1, 1) := dk_4 (dk_at dksX1_corner4_2 16 rfl rfl)
theorem dX1_corner4_64 : decode cX1_corner4 64 = .ok (.isub, 1) := dk_100 (dk_at dksX1_corner4_2 17 rfl rfl)
theorem dX1_corner4_65 : decode cX1_corner4 65 = .ok (.iload_n 1, 1) := dk_27 (dk_at dksX1_corner4_2 18 rfl rfl)
theorem dX1_corner4_66 : decode cX1_corner4 66 = .ok (.iconst 5, 1) := dk_8 (dk_at dksX1_corner4_2 19 rfl rfl)
theorem dX1_corner4_67 : decode cX1_corner4 67 = .ok (.invokevirtual 61, 3) := dk_182 0 61 (dk_at dksX1_corner4_2 20 rfl rfl)
theorem dX1_corner4_70 : decode cX1_corner4 70 = .ok (.aload_n 0, 1) := dk_42 (dk_at dksX1_corner4_2 23 rfl rfl)
theorem dX1_corner4_71 : decode cX1_corner4 71 = .ok (.iconst 1, 1) := dk_4 (dk_at dksX1_corner4_3 0 rfl rfl)
theorem dX1_corner4_72 : decode cX1_corner4 72 = .ok (.aload_n 0, 1) := dk_42 (dk_at dksX1_corner4_3 1 rfl rfl)
theorem dX1_corner4_73 : decode cX1_corner4 73 = .ok (.getfield 13, 3) := dk_180 0 13 (dk_at dksX1_corner4_3 2 rfl rfl)
theorem dX1_corner4_76 : decode cX1_corner4 76 = .ok (.iconst 3, 1) := dk_6 (dk_at dksX1_corner4_3 5 rfl rfl)
theorem dX1_corner4_77 : decode cX1_corner4 77 = .ok (.isub, 1) := dk_100 (dk_at dksX1_corner4_3 6 rfl rfl)
theorem dX1_corner4_78 : decode cX1_corner4 78 = .ok (.iload_n 1, 1) := dk_27 (dk_at dksX1_corner4_3 7 rfl rfl)
theorem dX1_corner4_79 : decode cX1_corner4 79 = .ok (.bipush 6, 2) := dk_16 6 (dk_at dksX1_corner4_3 8 rfl rfl)
theorem dX1_corner4_81 : decode cX1_corner4 81 = .ok (.invokevirtual 61, 3) := dk_182 0 61 (dk_at dksX1_corner4_3 10 rfl rfl)
theorem dX1_corner4_84 : decode cX1_corner4 84 = .ok (.aload_n 0, 1) := dk_42 (dk_at dksX1_corner4_3 13 rfl rfl)
theorem dX1_corner4_85 : decode cX1_corner4 85 = .ok (.iconst 1, 1) := dk_4 (dk_at dksX1_corner4_3 14 rfl rfl)
theorem dX1_corner4_86 : decode cX1_corner4 86 = .ok (.aload_n 0, 1) := dk_42 (dk_at dksX1_corner4_3 15 rfl rfl)
theorem dX1_corner4_87 : decode cX1_corner4 87 = .ok (.getfield 13, 3) := dk_180 0 13 (dk_at dksX1_corner4_3 16 rfl rfl)
theorem dX1_corner4_90 : decode cX1_corner4 90 = .ok (.iconst 2, 1) := dk_5 (dk_at dksX1_corner4_3 19 rfl rfl)
theorem dX1_corner4_91 : decode cX1_corner4 91 = .ok (.isub, 1) := dk_100 (dk_at dksX1_corner4_3 20 rfl rfl)
theorem dX1_corner4_92 : decode cX1_corner4 92 = .ok (.iload_n 1, 1) := dk_27 (dk_at dksX1_corner4_3 21 rfl rfl)
theorem dX1_corner4_93 : decode cX1_corner4 93 = .ok (.bipush 7, 2) := dk_16 7 (dk_at dksX1_corner4_3 22 rfl rfl)
theorem dX1_corner4_95 : decode cX1_corner4 95 = .ok (.invokevirtual 61, 3) := dk_182 0 61 (dk_at dksX1_corner4_4 0 rfl rfl)
theorem dX1_corner4_98 : decode cX1_corner4 98 = .ok (.aload_n 0, 1) := dk_42 (dk_at dksX1_corner4_4 3 rfl rfl)
theorem dX1_corner4_99 : decode cX1_corner4 99 = .ok (.iconst 1, 1) := dk_4 (dk_at dksX1_corner4_4 4 rfl rfl)
theorem dX1_corner4_100 : decode cX1_corner4 100 = .ok (.aload_n 0, 1) := dk_42 (dk_at dksX1_corner4_4 5 rfl rfl)
theorem dX1_corner4_101 : decode cX1_corner4 101 = .ok (.getfield 13, 3) := dk_180 0 13 (dk_at dksX1_corner4_4 6 rfl rfl)
theorem dX1_corner4_104 : decode cX1_corner4 104 = .ok (.iconst 1, 1) := dk_4 (dk_at dksX1_corner4_4 9 rfl rfl)
theorem dX1_corner4_105 : decode cX1_corner4 105 = .ok (.isub, 1) := dk_100 (dk_at dksX1_corner4_4 10 rfl rfl)
theorem dX1_corner4_106 : decode cX1_corner4 106 = .ok (.iload_n 1, 1) := dk_27 (dk_at dksX1_corner4_4 11 rfl rfl)
theorem dX1_corner4_107 : decode cX1_corner4 107 = .ok (.bipush 8, 2) := dk_16 8 (dk_at dksX1_corner4_4 12 rfl rfl)
theorem dX1_corner4_109 : decode cX1_corner4 109 = .ok (.invokevirtual 61, 3) := dk_182 0 61 (dk_at dksX1_corner4_4 14 rfl rfl)
theorem dX1_corner4_112 : decode cX1_corner4 112 = .ok (.return_, 1) := dk_177 (dk_at dksX1_corner4_4 17 rfl rfl)
abbrev cX1_noBit : ByteArray := prog_1_method_4_code
def yX1_noBit : MethodName := ⟨RX1, "noBit", "(II)Z"⟩
def dkwX1_noBit_0 : List UInt8 := [42, 180, 0, 20, 28, 42, 180, 0, 13, 104, 27, 96, 51, 156, 0, 7, 4, 167, 0, 4, 3, 172]
abbrev dktX1_noBit_0 : List UInt8 := dkwX1_noBit_0 ++ []
theorem dksX1_noBit_0 : cX1_noBit.data.toList.drop 0 = dktX1_noBit_0 := by decide +kernel
theorem dX1_noBit_0 : decode cX1_noBit 0 = .ok (.aload_n 0, 1) := dk_42 (dk_at dksX1_noBit_0 0 rfl rfl)
theorem dX1_noBit_1 : decode cX1_noBit 1 = .ok (.getfield 20, 3) := dk_180 0 20 (dk_at dksX1_noBit_0 1 rfl rfl)
theorem dX1_noBit_4 : decode cX1_noBit 4 = .ok (.iload_n 2, 1) := dk_28 (dk_at dksX1_noBit_0 4 rfl rfl)
theorem dX1_noBit_5 : decode cX1_noBit 5 = .ok (.aload_n 0, 1) := dk_42 (dk_at dksX1_noBit_0 5 rfl rfl)
theorem dX1_noBit_6 : decode cX1_noBit 6 = .ok (.getfield 13, 3) := dk_180 0 13 (dk_at dksX1_noBit_0 6 rfl rfl)
theorem dX1_noBit_9 : decode cX1_noBit 9 = .ok (.imul, 1) := dk_104 (dk_at dksX1_noBit_0 9 rfl rfl)
theorem dX1_noBit_10 : decode cX1_noBit 10 = .ok (.iload_n 1, 1) := dk_27 (dk_at dksX1_noBit_0 10 rfl rfl)
theorem dX1_noBit_11 : decode cX1_noBit 11 = .ok (.iadd, 1) := dk_96 (dk_at dksX1_noBit_0 11 rfl rfl)
theorem dX1_noBit_12 : decode cX1_noBit 12 = .ok (.baload, 1) := dk_51 (dk_at dksX1_noBit_0 12 rfl rfl)
theorem dX1_noBit_13 : decode cX1_noBit 13 = .ok (.ifCond .ge 7, 3) := dk_156 0 7 (dk_at dksX1_noBit_0 13 rfl rfl)
theorem dX1_noBit_16 : decode cX1_noBit 16 = .ok (.iconst 1, 1) := dk_4 (dk_at dksX1_noBit_0 16 rfl rfl)
theorem dX1_noBit_17 : decode cX1_noBit 17 = .ok (.goto 4, 3) := dk_167 0 4 (dk_at dksX1_noBit_0 17 rfl rfl)
theorem dX1_noBit_20 : decode cX1_noBit 20 = .ok (.iconst 0, 1) := dk_3 (dk_at dksX1_noBit_0 20 rfl rfl)
theorem dX1_noBit_21 : decode cX1_noBit 21 = .ok (.ireturn, 1) := dk_172 (dk_at dksX1_noBit_0 21 rfl rfl)
abbrev cX1_utah : ByteArray := prog_1_method_7_code
def yX1_utah : MethodName := ⟨RX1, "utah", "(III)V"⟩
def dkwX1_utah_3 : List UInt8 := [4, 100, 29, 16, 7, 182, 0, 61, 42, 27, 28, 29, 16, 8, 182, 0, 61, 177]
abbrev dktX1_utah_3 : List UInt8 := dkwX1_utah_3 ++ []
def dkwX1_utah_2 : List UInt8 := [42, 27, 4, 100, 28, 29, 8, 182, 0, 61, 42, 27, 28, 5, 100, 29, 16, 6, 182, 0, 61, 42, 27, 28]
abbrev dktX1_utah_2 : List UInt8 := dkwX1_utah_2 ++ dktX1_utah_3
def dkwX1_utah_1 : List UInt8 := [42, 27, 4, 100, 28, 5, 100, 29, 6, 182, 0, 61, 42, 27, 4, 100, 28, 4, 100, 29, 7, 182, 0, 61]
abbrev dktX1_utah_1 : List UInt8 := dkwX1_utah_1 ++ dktX1_utah_2
def dkwX1_utah_0 : List UInt8 := [42, 27, 5, 100, 28, 5, 100, 29, 4, 182, 0, 61, 42, 27, 5, 100, 28, 4, 100, 29, 5, 182, 0, 61]
abbrev dktX1_utah_0 : List UInt8 := dkwX1_utah_0 ++ dktX1_utah_1
theorem dksX1_utah_0 : cX1_utah.data.toList.drop 0 = dktX1_utah_0 := by decide +kernel
theorem dksX1_utah_1 : cX1_utah.data.toList.drop 24 = dktX1_utah_1 := dk_seg dksX1_utah_0 24 rfl rfl
theorem dksX1_utah_2 : cX1_utah.data.toList.drop 48 = dktX1_utah_2 := dk_seg dksX1_utah_1 24 rfl rfl
theorem dksX1_utah_3 : cX1_utah.data.toList.drop 72 = dktX1_utah_3 := dk_seg dksX1_utah_2 24 rfl rfl
theorem dX1_utah_0 : decode cX1_utah 0 = .ok (.aload_n 0, 1) := dk_42 (dk_at dksX1_utah_0 0 rfl rfl)
theorem dX1_utah_1 : decode cX1_utah 1 = .ok (.iload_n 1, 1) := dk_27 (dk_at dksX1_utah_0 1 rfl rfl)
theorem dX1_utah_2 : decode cX1_utah 2 = .ok (.iconst 2, 1) := dk_5 (dk_at dksX1_utah_0 2 rfl rfl)
theorem dX1_utah_3 : decode cX1_utah 3 = .ok (.isub, 1) := dk_100 (dk_at dksX1_utah_0 3 rfl rfl)
theorem dX1_utah_4 : decode cX1_utah 4 = .ok (.iload_n 2, 1) := dk_28 (dk_at dksX1_utah_0 4 rfl rfl)
theorem dX1_utah_5 : decode cX1_utah 5 = .ok (.iconst 2, 1) := dk_5 (dk_at dksX1_utah_0 5 rfl rfl)
theorem dX1_utah_6 : decode cX1_utah 6 = .ok (.isub, 1) := dk_100 (dk_at dksX1_utah_0 6 rfl rfl)
theorem dX1_utah_7 : decode cX1_utah 7 = .ok (.iload_n 3, 1) := dk_29 (dk_at dksX1_utah_0 7 rfl rfl)
theorem dX1_utah_8 : decode cX1_utah 8 = .ok (.iconst 1, 1) := dk_4 (dk_at dksX1_utah_0 8 rfl rfl)
theorem dX1_utah_9 : decode cX1_utah 9 = .ok (.invokevirtual 61, 3) := dk_182 0 61 (dk_at dksX1_utah_0 9 rfl rfl)
theorem dX1_utah_12 : decode cX1_utah 12 = .ok (.aload_n 0, 1) := dk_42 (dk_at dksX1_utah_0 12 rfl rfl)
theorem dX1_utah_13 : decode cX1_utah 13 = .ok (.iload_n 1, 1) := dk_27 (dk_at dksX1_utah_0 13 rfl rfl)
theorem dX1_utah_14 : decode cX1_utah 14 = .ok (.iconst 2, 1) := dk_5 (dk_at dksX1_utah_0 14 rfl rfl)
theorem dX1_utah_15 : decode cX1_utah 15 = .ok (.isub, 1) := dk_100 (dk_at dksX1_utah_0 15 rfl rfl)
theorem dX1_utah_16 : decode cX1_utah 16 = .ok (.iload_n 2, 1) := dk_28 (dk_at dksX1_utah_0 16 rfl rfl)
theorem dX1_utah_17 : decode cX1_utah 17 = .ok (.iconst 1, 1) := dk_4 (dk_at dksX1_utah_0 17 rfl rfl)
theorem dX1_utah_18 : decode cX1_utah 18 = .ok (.isub, 1) := dk_100 (dk_at dksX1_utah_0 18 rfl rfl)
theorem dX1_utah_19 : decode cX1_utah 19 = .ok (.iload_n 3, 1) := dk_29 (dk_at dksX1_utah_0 19 rfl rfl)
theorem dX1_utah_20 : decode cX1_utah 20 = .ok (.iconst 2, 1) := dk_5 (dk_at dksX1_utah_0 20 rfl rfl)
theorem dX1_utah_21 : decode cX1_utah 21 = .ok (.invokevirtual 61, 3) := dk_182 0 61 (dk_at dksX1_utah_0 21 rfl rfl)
theorem dX1_utah_24 : decode cX1_utah 24 = .ok (.aload_n 0, 1) := dk_42 (dk_at dksX1_utah_1 0 rfl rfl)
theorem dX1_utah_25 : decode cX1_utah 25 = .ok (.iload_n 1, 1) := dk_27 (dk_at dksX1_utah_1 1 rfl rfl)
theorem dX1_utah_26 : decode cX1_utah 26 = .ok (.iconst 1, 1) := dk_4 (dk_at dksX1_utah_1 2 rfl rfl)
theorem dX1_utah_27 : decode cX1_utah 27 = .ok (.isub, 1) := dk_100 (dk_at dksX1_utah_1 3 rfl rfl)
theorem dX1_utah_28 : decode cX1_utah 28 = .ok (.iload_n 2, 1) := dk_28 (dk_at dksX1_utah_1 4 rfl rfl)
theorem dX1_utah_29 : decode cX1_utah 29 = .ok (.iconst 2, 1) := dk_5 (dk_at dksX1_utah_1 5 rfl rfl)
theorem dX1_utah_30 : decode cX1_utah 30 = .ok (.isub, 1) := dk_100 (dk_at dksX1_utah_1 6 rfl rfl)
theorem dX1_utah_31 : decode cX1_utah 31 = .ok (.iload_n 3, 1) := dk_29 (dk_at dksX1_utah_1 7 rfl rfl)
theorem dX1_utah_32 : decode cX1_utah 32 = .ok (.iconst 3, 1) := dk_6 (dk_at dksX1_utah_1 8 rfl rfl)
theorem dX1_utah_33 : decode cX1_utah 33 = .ok (.invokevirtual 61, 3) := dk_182 0 61 (dk_at dksX1_utah_1 9 rfl rfl)
theorem dX1_utah_36 : decode cX1_utah 36 = .ok (.aload_n 0, 1) := dk_42 (dk_at dksX1_utah_1 12 rfl rfl)
theorem dX1_utah_37 : decode cX1_utah 37 = .ok (.iload_n 1, 1) := dk_27 (dk_at dksX1_utah_1 13 rfl rfl)
theorem dX1_utah_38 : decode cX1_utah 38 = .ok (.iconst 1, 1) := dk_4 (dk_at dksX1_utah_1 14 rfl rfl)
theorem dX1_utah_39 : decode cX1_utah 39 = .ok (.isub, 1) := dk_100 (dk_at dksX1_utah_1 15 rfl rfl)
theorem dX1_utah_40 : decode cX1_utah 40 = .ok (.iload_n 2, 1) := dk_28 (dk_at dksX1_utah_1 16 rfl rfl)
theorem dX1_utah_41 : decode cX1_utah 41 = .ok (.iconst 1, 1) := dk_4 (dk_at dksX1_utah_1 17 rfl rfl)
theorem dX1_utah_42 : decode cX1_utah 42 = .ok (.isub, 1) := dk_100 (dk_at dksX1_utah_1 18 rfl rfl)
theorem dX1_utah_43 : decode cX1_utah 43 = .ok (.iload_n 3, 1) := dk_29 (dk_at dksX1_utah_1 19 rfl rfl)
theorem dX1_utah_44 : decode cX1_utah 44 = .ok (.iconst 4, 1) := dk_7 (dk_at dksX1_utah_1 20 rfl rfl)
theorem dX1_utah_45 : decode cX1_utah 45 = .ok (.invokevirtual 61, 3) := dk_182 0 61 (dk_at dksX1_utah_1 21 rfl rfl)
theorem dX1_utah_48 : decode cX1_utah 48 = .ok (.aload_n 0, 1) := dk_42 (dk_at dksX1_utah_2 0 rfl rfl)
theorem dX1_utah_49 : decode cX1_utah 49 = .ok (.iload_n 1, 1) := dk_27 (dk_at dksX1_utah_2 1 rfl rfl)
theorem dX1_utah_50 : decode cX1_utah 50 = .ok (.iconst 1, 1) := dk_4 (dk_at dksX1_utah_2 2 rfl rfl)
theorem dX1_utah_51 : decode cX1_utah 51 = .ok (.isub, 1) := dk_100 (dk_at dksX1_utah_2 3 rfl rfl)
theorem dX1_utah_52 : decode cX1_utah 52 = .ok (.iload_n 2, 1) := dk_28 (dk_at dksX1_utah_2 4 rfl rfl)
theorem dX1_utah_53 : decode cX1_utah 53 = .ok (.iload_n 3, 1) := dk_29 (dk_at dksX1_utah_2 5 rfl rfl)
theorem dX1_utah_54 : decode cX1_utah 54 = .ok (.iconst 5, 1) := dk_8 (dk_at dksX1_utah_2 6 rfl rfl)
theorem dX1_utah_55 : decode cX1_utah 55 = .ok (.invokevirtual 61, 3) := dk_182 0 61 (dk_at dksX1_utah_2 7 rfl rfl)
theorem dX1_utah_58 : decode cX1_utah 58 = .ok (.aload_n 0, 1) := dk_42 (dk_at dksX1_utah_2 10 rfl rfl)
theorem dX1_utah_59 : decode cX1_utah 59 = .ok (.iload_n 1, 1) := dk_27 (dk_at dksX1_utah_2 11 rfl rfl)
theorem dX1_utah_60 : decode cX1_utah 60 = .ok (.iload_n 2, 1) := dk_28 (dk_at dksX1_utah_2 12 rfl rfl)
theorem dX1_utah_61 : decode cX1_utah 61 = .ok (.iconst 2, 1) := dk_5 (dk_at dksX1_utah_2 13 rfl rfl)
theorem dX1_utah_62 : decode cX1_utah 62 = .ok (.isub, 1) := dk_100 (dk_at dksX1_utah_2 14 rfl rfl)
theorem dX1_utah_63 : decode cX1_utah 63 = .ok (.iload_n 3, 1) := dk_29 (dk_at dksX1_utah_2 15 rfl rfl)
theorem dX1_utah_64 : decode cX1_utah 64 = .ok (.bipush 6, 2) := dk_16 6 (dk_at dksX1_utah_2 16 rfl rfl)
theorem dX1_utah_66 : decode cX1_utah 66 = .ok (.invokevirtual 61, 3) := dk_182 0 61 (dk_at dksX1_utah_2 18 rfl rfl)
theorem dX1_utah_69 : decode cX1_utah 69 = .ok (.aload_n 0, 1) := dk_42 (dk_at dksX1_utah_2 21 rfl rfl)
theorem dX1_utah_70 : decode cX1_utah 70 = .ok (.iload_n 1, 1) := dk_27 (dk_at dksX1_utah_2 22 rfl rfl)
theorem dX1_utah_71 : decode cX1_utah 71 = .ok (.iload_n 2, 1) := dk_28 (dk_at dksX1_utah_2 23 rfl rfl)
theorem dX1_utah_72 : decode cX1_utah 72 = .ok (.iconst 1, 1) := dk_4 (dk_at dksX1_utah_3 0 rfl rfl)
theorem dX1_utah_73 : decode cX1_utah 73 = .ok (.isub, 1) := dk_100 (dk_at dksX1_utah_3 1 rfl rfl)
theorem dX1_utah_74 : decode cX1_utah 74 = .ok (.iload_n 3, 1) := dk_29 (dk_at dksX1_utah_3 2 rfl rfl)
theorem dX1_utah_75 : decode cX1_utah 75 = .ok (.bipush 7, 2) := dk_16 7 (dk_at dksX1_utah_3 3 rfl rfl)
theorem dX1_utah_77 : decode cX1_utah 77 = .ok (.invokevirtual 61, 3) := dk_182 0 61 (dk_at dksX1_utah_3 5 rfl rfl)
theorem dX1_utah_80 : decode cX1_utah 80 = .ok (.aload_n 0, 1) := dk_42 (dk_at dksX1_utah_3 8 rfl rfl)
theorem dX1_utah_81 : decode cX1_utah 81 = .ok (.iload_n 1, 1) := dk_27 (dk_at dksX1_utah_3 9 rfl rfl)
theorem dX1_utah_82 : decode cX1_utah 82 = .ok (.iload_n 2, 1) := dk_28 (dk_at dksX1_utah_3 10 rfl rfl)
theorem dX1_utah_83 : decode cX1_utah 83 = .ok (.iload_n 3, 1) := dk_29 (dk_at dksX1_utah_3 11 rfl rfl)
theorem dX1_utah_84 : decode cX1_utah 84 = .ok (.bipush 8, 2) := dk_16 8 (dk_at dksX1_utah_3 12 rfl rfl)
theorem dX1_utah_86 : decode cX1_utah 86 = .ok (.invokevirtual 61, 3) := dk_182 0 61 (dk_at dksX1_utah_3 14 rfl rfl)
theorem dX1_utah_89 : decode cX1_utah 89 = .ok (.return_, 1) := dk_177 (dk_at dksX1_utah_3 17 rfl rfl)
abbrev cX1_getBit : ByteArray := prog_1_method_2_code
def yX1_getBit : MethodName := ⟨RX1, "getBit", "(II)Z"⟩
def dkwX1_getBit_0 : List UInt8 := [42, 180, 0, 20, 28, 42, 180, 0, 13, 104, 27, 96, 51, 4, 160, 0, 7, 4, 167, 0, 4, 3, 172]
abbrev dktX1_getBit_0 : List UInt8 := dkwX1_getBit_0 ++ []
theorem dksX1_getBit_0 : cX1_getBit.data.toList.drop 0 = dktX1_getBit_0 := by decide +kernel
theorem dX1_getBit_0 : decode cX1_getBit 0 = .ok (.aload_n 0, 1) := dk_42 (dk_at dksX1_getBit_0 0 rfl rfl)
theorem dX1_getBit_1 : decode cX1_getBit 1 = .ok (.getfield 20, 3) := dk_180 0 20 (dk_at dksX1_getBit_0 1 rfl rfl)
theorem dX1_getBit_4 : decode cX1_getBit 4 = .ok (.iload_n 2, 1) := dk_28 (dk_at dksX1_getBit_0 4 rfl rfl)
theorem dX1_getBit_5 : decode cX1_getBit 5 = .ok (.aload_n 0, 1) := dk_42 (dk_at dksX1_getBit_0 5 rfl rfl)
theorem dX1_getBit_6 : decode cX1_getBit 6 = .ok (.getfield 13, 3) := dk_180 0 13 (dk_at dksX1_getBit_0 6 rfl rfl)
theorem dX1_getBit_9 : decode cX1_getBit 9 = .ok (.imul, 1) := dk_104 (dk_at dksX1_getBit_0 9 rfl rfl)
theorem dX1_getBit_10 : decode cX1_getBit 10 = .ok (.iload_n 1, 1) := dk_27 (dk_at dksX1_getBit_0 10 rfl rfl)
theorem dX1_getBit_11 : decode cX1_getBit 11 = .ok (.iadd, 1) := dk_96 (dk_at dksX1_getBit_0 11 rfl rfl)
theorem dX1_getBit_12 : decode cX1_getBit 12 = .ok (.baload, 1) := dk_51 (dk_at dksX1_getBit_0 12 rfl rfl)
theorem dX1_getBit_13 : decode cX1_getBit 13 = .ok (.iconst 1, 1) := dk_4 (dk_at dksX1_getBit_0 13 rfl rfl)
theorem dX1_getBit_14 : decode cX1_getBit 14 = .ok (.if_icmp .ne 7, 3) := dk_160 0 7 (dk_at dksX1_getBit_0 14 rfl rfl)
theorem dX1_getBit_17 : decode cX1_getBit 17 = .ok (.iconst 1, 1) := dk_4 (dk_at dksX1_getBit_0 17 rfl rfl)
theorem dX1_getBit_18 : decode cX1_getBit 18 = .ok (.goto 4, 3) := dk_167 0 4 (dk_at dksX1_getBit_0 18 rfl rfl)
theorem dX1_getBit_21 : decode cX1_getBit 21 = .ok (.iconst 0, 1) := dk_3 (dk_at dksX1_getBit_0 21 rfl rfl)
theorem dX1_getBit_22 : decode cX1_getBit 22 = .ok (.ireturn, 1) := dk_172 (dk_at dksX1_getBit_0 22 rfl rfl)
theorem q17 : (Jvm.Cond.initialized "DefaultPlacement") ∈ lw_all := lw_g (lw_at lw_m1 2 rfl) rfl
theorem q33 : (Jvm.Cond.instantiable "DefaultPlacement" (4 : Nat)) ∈ lw_all := lw_g (lw_at lw_m1 18 rfl) rfl
theorem q109 : (Jvm.Cond.instanceMethod ({ cls := "DefaultPlacement", name := "<init>", desc := "(Ljava/lang/CharSequence;II)V" } : Jvm.MethodName)) ∈ lw_all := lw_g (lw_at lw_m1 94 rfl) rfl
theorem q110 : (Jvm.Cond.code ({ cls := "DefaultPlacement", name := "<init>", desc := "(Ljava/lang/CharSequence;II)V" } : Jvm.MethodName) prog_1_method_1_code (4 : Nat) (Option.none : Option Jvm.ClassFile.FieldType)) ∈ lw_all := lw_g (lw_at lw_m1 95 rfl) rfl
theorem q111 : (Jvm.Cond.methodLink "DefaultPlacement" (1 : Nat) ({ cls := "java/lang/Object", name := "<init>", desc := "()V" } : Jvm.MethodName)) ∈ lw_all := lw_g (lw_at lw_m1 96 rfl) rfl
theorem q112 : (Jvm.Cond.methodLink "DefaultPlacement" (24 : Nat) ({ cls := "java/util/Arrays", name := "fill", desc := "([BB)V" } : Jvm.MethodName)) ∈ lw_all := lw_g (lw_at lw_m1 97 rfl) rfl
theorem q115 : (Jvm.Cond.fieldLink "DefaultPlacement" (7 : Nat) "DefaultPlacement" "codewords" "Ljava/lang/CharSequence;") ∈ lw_all := lw_g (lw_at lw_m1 100 rfl) rfl
theorem q116 : (Jvm.Cond.fieldLink "DefaultPlacement" (17 : Nat) "DefaultPlacement" "numrows" "I") ∈ lw_all := lw_g (lw_at lw_m1 101 rfl) rfl
theorem q117 : (Jvm.Cond.fieldLink "DefaultPlacement" (13 : Nat) "DefaultPlacement" "numcols" "I") ∈ lw_all := lw_g (lw_at lw_m1 102 rfl) rfl
theorem q118 : (Jvm.Cond.fieldLink "DefaultPlacement" (20 : Nat) "DefaultPlacement" "bits" "[B") ∈ lw_all := lw_g (lw_at lw_m1 103 rfl) rfl
theorem q119 : (Jvm.Cond.laysFinal "DefaultPlacement" "DefaultPlacement" "codewords" "Ljava/lang/CharSequence;") ∈ lw_all := lw_g (lw_at lw_m1 104 rfl) rfl
theorem q120 : (Jvm.Cond.soleField "DefaultPlacement" "codewords") ∈ lw_all := lw_g (lw_at lw_m1 105 rfl) rfl
theorem q121 : (Jvm.Cond.laysFinal "DefaultPlacement" "DefaultPlacement" "numrows" "I") ∈ lw_all := lw_g (lw_at lw_m1 106 rfl) rfl
theorem q122 : (Jvm.Cond.soleField "DefaultPlacement" "numrows") ∈ lw_all := lw_g (lw_at lw_m1 107 rfl) rfl
theorem q123 : (Jvm.Cond.laysFinal "DefaultPlacement" "DefaultPlacement" "numcols" "I") ∈ lw_all := lw_g (lw_at lw_m1 108 rfl) rfl
theorem q124 : (Jvm.Cond.soleField "DefaultPlacement" "numcols") ∈ lw_all := lw_g (lw_at lw_m1 109 rfl) rfl
theorem q125 : (Jvm.Cond.laysFinal "DefaultPlacement" "DefaultPlacement" "bits" "[B") ∈ lw_all := lw_g (lw_at lw_m1 110 rfl) rfl
theorem q126 : (Jvm.Cond.soleField "DefaultPlacement" "bits") ∈ lw_all := lw_g (lw_at lw_m1 111 rfl) rfl
theorem q127 : (Jvm.Cond.superclass "DefaultPlacement" "java/lang/Object") ∈ lw_all := lw_g (lw_at lw_m1 112 rfl) rfl
theorem q148 : (Jvm.Cond.instanceMethod ({ cls := "DefaultPlacement", name := "place", desc := "()V" } : Jvm.MethodName)) ∈ lw_all := lw_g (lw_at lw_m1 133 rfl) rfl
theorem q149 : (Jvm.Cond.selects "DefaultPlacement" ({ cls := "DefaultPlacement", name := "place", desc := "()V" } : Jvm.MethodName) ({ cls := "DefaultPlacement", name := "place", desc := "()V" } : Jvm.MethodName)) ∈ lw_all := lw_g (lw_at lw_m1 134 rfl) rfl
theorem q150 : (Jvm.Cond.code ({ cls := "DefaultPlacement", name := "place", desc := "()V" } : Jvm.MethodName) prog_1_method_5_code (4 : Nat) (Option.none : Option Jvm.ClassFile.FieldType)) ∈ lw_all := lw_g (lw_at lw_m1 135 rfl) rfl
theorem q151 : (Jvm.Cond.methodLink "DefaultPlacement" (30 : Nat) ({ cls := "DefaultPlacement", name := "corner1", desc := "(I)V" } : Jvm.MethodName)) ∈ lw_all := lw_g (lw_at lw_m1 136 rfl) rfl
theorem q152 : (Jvm.Cond.privateMethod ({ cls := "DefaultPlacement", name := "corner1", desc := "(I)V" } : Jvm.MethodName)) ∈ lw_tbl := lw_at lw_m1 137 rfl
theorem q153 : (Jvm.Cond.instanceMethod ({ cls := "DefaultPlacement", name := "corner1", desc := "(I)V" } : Jvm.MethodName)) ∈ lw_all := lw_g (lw_at lw_m1 138 rfl) rfl
theorem q154 : (Jvm.Cond.code ({ cls := "DefaultPlacement", name := "corner1", desc := "(I)V" } : Jvm.MethodName) prog_1_method_8_code (2 : Nat) (Option.none : Option Jvm.ClassFile.FieldType)) ∈ lw_all := lw_g (lw_at lw_m1 139 rfl) rfl
theorem q155 : (Jvm.Cond.methodLink "DefaultPlacement" (61 : Nat) ({ cls := "DefaultPlacement", name := "module", desc := "(IIII)V" } : Jvm.MethodName)) ∈ lw_all := lw_g (lw_at lw_m1 140 rfl) rfl
theorem q156 : (Jvm.Cond.privateMethod ({ cls := "DefaultPlacement", name := "module", desc := "(IIII)V" } : Jvm.MethodName)) ∈ lw_tbl := lw_at lw_m1 141 rfl
theorem q157 : (Jvm.Cond.instanceMethod ({ cls := "DefaultPlacement", name := "module", desc := "(IIII)V" } : Jvm.MethodName)) ∈ lw_all := lw_g (lw_at lw_m1 142 rfl) rfl
theorem q158 : (Jvm.Cond.code ({ cls := "DefaultPlacement", name := "module", desc := "(IIII)V" } : Jvm.MethodName) prog_1_method_6_code (6 : Nat) (Option.none : Option Jvm.ClassFile.FieldType)) ∈ lw_all := lw_g (lw_at lw_m1 143 rfl) rfl
theorem q159 : (Jvm.Cond.interfaceEntry "DefaultPlacement" (55 : Nat)) ∈ lw_tbl := lw_at lw_m1 144 rfl
theorem q160 : (Jvm.Cond.methodLink "DefaultPlacement" (55 : Nat) ({ cls := "java/lang/CharSequence", name := "charAt", desc := "(I)C" } : Jvm.MethodName)) ∈ lw_all := lw_g (lw_at lw_m1 145 rfl) rfl
theorem q189 : (Jvm.Cond.methodLink "DefaultPlacement" (51 : Nat) ({ cls := "DefaultPlacement", name := "setBit", desc := "(IIZ)V" } : Jvm.MethodName)) ∈ lw_all := lw_g (lw_at lw_m1 174 rfl) rfl
theorem q190 : (Jvm.Cond.privateMethod ({ cls := "DefaultPlacement", name := "setBit", desc := "(IIZ)V" } : Jvm.MethodName)) ∈ lw_tbl := lw_at lw_m1 175 rfl
theorem q191 : (Jvm.Cond.instanceMethod ({ cls := "DefaultPlacement", name := "setBit", desc := "(IIZ)V" } : Jvm.MethodName)) ∈ lw_all := lw_g (lw_at lw_m1 176 rfl) rfl
theorem q192 : (Jvm.Cond.code ({ cls := "DefaultPlacement", name := "setBit", desc := "(IIZ)V" } : Jvm.MethodName) prog_1_method_3_code (4 : Nat) (Option.none : Option Jvm.ClassFile.FieldType)) ∈ lw_all := lw_g (lw_at lw_m1 177 rfl) rfl
theorem q193 : (Jvm.Cond.methodLink "DefaultPlacement" (34 : Nat) ({ cls := "DefaultPlacement", name := "corner2", desc := "(I)V" } : Jvm.MethodName)) ∈ lw_all := lw_g (lw_at lw_m1 178 rfl) rfl
theorem q194 : (Jvm.Cond.privateMethod ({ cls := "DefaultPlacement", name := "corner2", desc := "(I)V" } : Jvm.MethodName)) ∈ lw_tbl := lw_at lw_m1 179 rfl
theorem q195 : (Jvm.Cond.instanceMethod ({ cls := "DefaultPlacement", name := "corner2", desc := "(I)V" } : Jvm.MethodName)) ∈ lw_all := lw_g (lw_at lw_m1 180 rfl) rfl
theorem q196 : (Jvm.Cond.code ({ cls := "DefaultPlacement", name := "corner2", desc := "(I)V" } : Jvm.MethodName) prog_1_method_9_code (2 : Nat) (Option.none : Option Jvm.ClassFile.FieldType)) ∈ lw_all := lw_g (lw_at lw_m1 181 rfl) rfl
theorem q197 : (Jvm.Cond.methodLink "DefaultPlacement" (37 : Nat) ({ cls := "DefaultPlacement", name := "corner3", desc := "(I)V" } : Jvm.MethodName)) ∈ lw_all := lw_g (lw_at lw_m1 182 rfl) rfl
theorem q198 : (Jvm.Cond.privateMethod ({ cls := "DefaultPlacement", name := "corner3", desc := "(I)V" } : Jvm.MethodName)) ∈ lw_tbl := lw_at lw_m1 183 rfl
theorem q199 : (Jvm.Cond.instanceMethod ({ cls := "DefaultPlacement", name := "corner3", desc := "(I)V" } : Jvm.MethodName)) ∈ lw_all := lw_g (lw_at lw_m1 184 rfl) rfl
theorem q200 : (Jvm.Cond.code ({ cls := "DefaultPlacement", name := "corner3", desc := "(I)V" } : Jvm.MethodName) prog_1_method_10_code (2 : Nat) (Option.none : Option Jvm.ClassFile.FieldType)) ∈ lw_all := lw_g (lw_at lw_m1 185 rfl) rfl
theorem q201 : (Jvm.Cond.methodLink "DefaultPlacement" (40 : Nat) ({ cls := "DefaultPlacement", name := "corner4", desc := "(I)V" } : Jvm.MethodName)) ∈ lw_all := lw_g (lw_at lw_m1 186 rfl) rfl
theorem q202 : (Jvm.Cond.privateMethod ({ cls := "DefaultPlacement", name := "corner4", desc := "(I)V" } : Jvm.MethodName)) ∈ lw_tbl := lw_at lw_m1 187 rfl
theorem q203 : (Jvm.Cond.instanceMethod ({ cls := "DefaultPlacement", name := "corner4", desc := "(I)V" } : Jvm.MethodName)) ∈ lw_all := lw_g (lw_at lw_m1 188 rfl) rfl
theorem q204 : (Jvm.Cond.code ({ cls := "DefaultPlacement", name := "corner4", desc := "(I)V" } : Jvm.MethodName) prog_1_method_11_code (2 : Nat) (Option.none : Option Jvm.ClassFile.FieldType)) ∈ lw_all := lw_g (lw_at lw_m1 189 rfl) rfl
theorem q205 : (Jvm.Cond.methodLink "DefaultPlacement" (43 : Nat) ({ cls := "DefaultPlacement", name := "noBit", desc := "(II)Z" } : Jvm.MethodName)) ∈ lw_all := lw_g (lw_at lw_m1 190 rfl) rfl
theorem q206 : (Jvm.Cond.privateMethod ({ cls := "DefaultPlacement", name := "noBit", desc := "(II)Z" } : Jvm.MethodName)) ∈ lw_tbl := lw_at lw_m1 191 rfl
theorem q207 : (Jvm.Cond.instanceMethod ({ cls := "DefaultPlacement", name := "noBit", desc := "(II)Z" } : Jvm.MethodName)) ∈ lw_all := lw_g (lw_at lw_m1 192 rfl) rfl
theorem q208 : (Jvm.Cond.code ({ cls := "DefaultPlacement", name := "noBit", desc := "(II)Z" } : Jvm.MethodName) prog_1_method_4_code (3 : Nat) (Option.some Jvm.ClassFile.FieldType.boolean)) ∈ lw_all := lw_g (lw_at lw_m1 193 rfl) rfl
theorem q209 : (Jvm.Cond.methodLink "DefaultPlacement" (47 : Nat) ({ cls := "DefaultPlacement", name := "utah", desc := "(III)V" } : Jvm.MethodName)) ∈ lw_all := lw_g (lw_at lw_m1 194 rfl) rfl
theorem q210 : (Jvm.Cond.privateMethod ({ cls := "DefaultPlacement", name := "utah", desc := "(III)V" } : Jvm.MethodName)) ∈ lw_tbl := lw_at lw_m1 195 rfl
theorem q211 : (Jvm.Cond.instanceMethod ({ cls := "DefaultPlacement", name := "utah", desc := "(III)V" } : Jvm.MethodName)) ∈ lw_all := lw_g (lw_at lw_m1 196 rfl) rfl
theorem q212 : (Jvm.Cond.code ({ cls := "DefaultPlacement", name := "utah", desc := "(III)V" } : Jvm.MethodName) prog_1_method_7_code (4 : Nat) (Option.none : Option Jvm.ClassFile.FieldType)) ∈ lw_all := lw_g (lw_at lw_m1 197 rfl) rfl
theorem q218 : (Jvm.Cond.instanceMethod ({ cls := "DefaultPlacement", name := "getBit", desc := "(II)Z" } : Jvm.MethodName)) ∈ lw_all := lw_g (lw_at lw_m1 203 rfl) rfl
theorem q219 : (Jvm.Cond.selects "DefaultPlacement" ({ cls := "DefaultPlacement", name := "getBit", desc := "(II)Z" } : Jvm.MethodName) ({ cls := "DefaultPlacement", name := "getBit", desc := "(II)Z" } : Jvm.MethodName)) ∈ lw_all := lw_g (lw_at lw_m1 204 rfl) rfl
theorem q220 : (Jvm.Cond.code ({ cls := "DefaultPlacement", name := "getBit", desc := "(II)Z" } : Jvm.MethodName) prog_1_method_2_code (3 : Nat) (Option.some Jvm.ClassFile.FieldType.boolean)) ∈ lw_all := lw_g (lw_at lw_m1 205 rfl) rfl
theorem in_X1 : ∀ w ∈ wsX10, w ∈ lw_all := lw_in wsX10 [119, 121, 123, 125] (by decide +kernel) (by decide +kernel)
end
section
theorem q15 : (Jvm.Cond.initialized "PlacementDeskLaw") ∈ lw_all := lw_g (lw_at lw_m1 0 rfl) rfl
set_option maxRecDepth 100000
theorem q24 : (Jvm.Cond.classLink "PlacementDeskLaw" (7 : Nat) "PlacementDesk") ∈ lw_all := lw_g (lw_at lw_m1 9 rfl) rfl
theorem q26 : (Jvm.Cond.methodLink "PlacementDeskLaw" (9 : Nat) ({ cls := "PlacementDesk", name := "<init>", desc := "()V" } : Jvm.MethodName)) ∈ lw_all := lw_g (lw_at lw_m1 11 rfl) rfl
theorem q138 : (Jvm.Cond.methodLink "PlacementDeskLaw" (13 : Nat) ({ cls := "PlacementDesk", name := "put", desc := "(II)V" } : Jvm.MethodName)) ∈ lw_all := lw_g (lw_at lw_m1 123 rfl) rfl
theorem q143 : (Jvm.Cond.methodLink "PlacementDeskLaw" (18 : Nat) ({ cls := "PlacementDesk", name := "place", desc := "(I)V" } : Jvm.MethodName)) ∈ lw_all := lw_g (lw_at lw_m1 128 rfl) rfl
theorem q213 : (Jvm.Cond.methodLink "PlacementDeskLaw" (23 : Nat) ({ cls := "PlacementDesk", name := "bit", desc := "(II)Z" } : Jvm.MethodName)) ∈ lw_all := lw_g (lw_at lw_m1 198 rfl) rfl
theorem q221 : (Jvm.Cond.methodLink "PlacementDeskLaw" (28 : Nat) ({ cls := "PlacementDesk", name := "side", desc := "()I" } : Jvm.MethodName)) ∈ lw_all := lw_g (lw_at lw_m1 206 rfl) rfl
theorem q225 : (Jvm.Cond.classLink "PlacementDeskLaw" (10 : Nat) "PlacementDeskModel") ∈ lw_all := lw_g (lw_at lw_m1 210 rfl) rfl
theorem q227 : (Jvm.Cond.methodLink "PlacementDeskLaw" (12 : Nat) ({ cls := "PlacementDeskModel", name := "<init>", desc := "()V" } : Jvm.MethodName)) ∈ lw_all := lw_g (lw_at lw_m1 212 rfl) rfl
theorem q245 : (Jvm.Cond.methodLink "PlacementDeskLaw" (17 : Nat) ({ cls := "PlacementDeskModel", name := "put", desc := "(II)V" } : Jvm.MethodName)) ∈ lw_all := lw_g (lw_at lw_m1 230 rfl) rfl
theorem q250 : (Jvm.Cond.methodLink "PlacementDeskLaw" (22 : Nat) ({ cls := "PlacementDeskModel", name := "place", desc := "(I)V" } : Jvm.MethodName)) ∈ lw_all := lw_g (lw_at lw_m1 235 rfl) rfl
theorem q282 : (Jvm.Cond.methodLink "PlacementDeskLaw" (27 : Nat) ({ cls := "PlacementDeskModel", name := "bit", desc := "(II)Z" } : Jvm.MethodName)) ∈ lw_all := lw_g (lw_at lw_m2 27 rfl) rfl
theorem q286 : (Jvm.Cond.methodLink "PlacementDeskLaw" (32 : Nat) ({ cls := "PlacementDeskModel", name := "side", desc := "()I" } : Jvm.MethodName)) ∈ lw_all := lw_g (lw_at lw_m2 31 rfl) rfl

/-! PlacementDeskModel -/
set_option maxRecDepth 100000
def RX2 : String := "PlacementDeskModel"
def TX2 : u_T := fun k => match k with
  | 0 => ("PlacementDeskModel", "word", "[I", true)
  | 1 => ("PlacementDeskModel", "side", "I", false)
  | 2 => ("PlacementDeskModel", "sheet", "[I", false)
  | _ => ("PlacementDeskModel", "placed", "[I", false)
def tyX2 : Nat → FieldType := fun k => match k with
  | 0 => .array .int
  | 1 => .int
  | 2 => .array .int
  | _ => .array .int
abbrev wsX20 : List Cond := u_ws RX2 TX2 4
theorem nmX2 : ∀ a, a < 4 → ∀ b, b < 4 → a ≠ b → (TX2 a).2.1 ≠ (TX2 b).2.1 := by decide +kernel
theorem tyX2_ok : ∀ k, k < 4 → parseFieldDescriptor (TX2 k).2.2.1 = some (tyX2 k) := by decide +kernel
abbrev cX2_init : ByteArray := prog_4_method_1_code
def yX2_init : MethodName := ⟨RX2, "<init>", "()V"⟩
def dkwX2_init_1 : List UInt8 := [181, 0, 17, 42, 16, 72, 188, 10, 181, 0, 20, 177]
abbrev dktX2_init_1 : List UInt8 := dkwX2_init_1 ++ []
def dkwX2_init_0 : List UInt8 := [42, 183, 0, 1, 42, 16, 72, 188, 10, 181, 0, 7, 42, 16, 8, 181, 0, 13, 42, 16, 64, 188, 10]
abbrev dktX2_init_0 : List UInt8 := dkwX2_init_0 ++ dktX2_init_1
theorem dksX2_init_0 : cX2_init.data.toList.drop 0 = dktX2_init_0 := by decide +kernel
theorem dksX2_init_1 : cX2_init.data.toList.drop 23 = dktX2_init_1 := dk_seg dksX2_init_0 23 rfl rfl
theorem dX2_init_0 : decode cX2_init 0 = .ok (.aload_n 0, 1) := dk_42 (dk_at dksX2_init_0 0 rfl rfl)
theorem dX2_init_1 : decode cX2_init 1 = .ok (.invokespecial 1, 3) := dk_183 0 1 (dk_at dksX2_init_0 1 rfl rfl)
theorem dX2_init_4 : decode cX2_init 4 = .ok (.aload_n 0, 1) := dk_42 (dk_at dksX2_init_0 4 rfl rfl)
theorem dX2_init_5 : decode cX2_init 5 = .ok (.bipush 72, 2) := dk_16 72 (dk_at dksX2_init_0 5 rfl rfl)
theorem dX2_init_7 : decode cX2_init 7 = .ok (.newarray .int, 2) := dk_188_10 (dk_at dksX2_init_0 7 rfl rfl)
theorem dX2_init_9 : decode cX2_init 9 = .ok (.putfield 7, 3) := dk_181 0 7 (dk_at dksX2_init_0 9 rfl rfl)
theorem dX2_init_12 : decode cX2_init 12 = .ok (.aload_n 0, 1) := dk_42 (dk_at dksX2_init_0 12 rfl rfl)
theorem dX2_init_13 : decode cX2_init 13 = .ok (.bipush 8, 2) := dk_16 8 (dk_at dksX2_init_0 13 rfl rfl)
theorem dX2_init_15 : decode cX2_init 15 = .ok (.putfield 13, 3) := dk_181 0 13 (dk_at dksX2_init_0 15 rfl rfl)
theorem dX2_init_18 : decode cX2_init 18 = .ok (.aload_n 0, 1) := dk_42 (dk_at dksX2_init_0 18 rfl rfl)
theorem dX2_init_19 : decode cX2_init 19 = .ok (.bipush 64, 2) := dk_16 64 (dk_at dksX2_init_0 19 rfl rfl)
theorem dX2_init_21 : decode cX2_init 21 = .ok (.newarray .int, 2) := dk_188_10 (dk_at dksX2_init_0 21 rfl rfl)
theorem dX2_init_23 : decode cX2_init 23 = .ok (.putfield 17, 3) := dk_181 0 17 (dk_at dksX2_init_1 0 rfl rfl)
theorem dX2_init_26 : decode cX2_init 26 = .ok (.aload_n 0, 1) := dk_42 (dk_at dksX2_init_1 3 rfl rfl)
theorem dX2_init_27 : decode cX2_init 27 = .ok (.bipush 72, 2) := dk_16 72 (dk_at dksX2_init_1 4 rfl rfl)
theorem dX2_init_29 : decode cX2_init 29 = .ok (.newarray .int, 2) := dk_188_10 (dk_at dksX2_init_1 6 rfl rfl)
theorem dX2_init_31 : decode cX2_init 31 = .ok (.putfield 20, 3) := dk_181 0 20 (dk_at dksX2_init_1 8 rfl rfl)
theorem dX2_init_34 : decode cX2_init 34 = .ok (.return_, 1) := dk_177 (dk_at dksX2_init_1 11 rfl rfl)
abbrev cX2_put : ByteArray := prog_4_method_2_code
def yX2_put : MethodName := ⟨RX2, "put", "(II)V"⟩
def dkwX2_put_0 : List UInt8 := [42, 180, 0, 7, 27, 18, 23, 126, 16, 72, 112, 28, 17, 0, 255, 126, 79, 177]
abbrev dktX2_put_0 : List UInt8 := dkwX2_put_0 ++ []
theorem dksX2_put_0 : cX2_put.data.toList.drop 0 = dktX2_put_0 := by decide +kernel
theorem dX2_put_0 : decode cX2_put 0 = .ok (.aload_n 0, 1) := dk_42 (dk_at dksX2_put_0 0 rfl rfl)
theorem dX2_put_1 : decode cX2_put 1 = .ok (.getfield 7, 3) := dk_180 0 7 (dk_at dksX2_put_0 1 rfl rfl)
theorem dX2_put_4 : decode cX2_put 4 = .ok (.iload_n 1, 1) := dk_27 (dk_at dksX2_put_0 4 rfl rfl)
theorem dX2_put_5 : decode cX2_put 5 = .ok (.ldc 23, 2) := dk_18 23 (dk_at dksX2_put_0 5 rfl rfl)
theorem dX2_put_7 : decode cX2_put 7 = .ok (.iand, 1) := dk_126 (dk_at dksX2_put_0 7 rfl rfl)
theorem dX2_put_8 : decode cX2_put 8 = .ok (.bipush 72, 2) := dk_16 72 (dk_at dksX2_put_0 8 rfl rfl)
theorem dX2_put_10 : decode cX2_put 10 = .ok (.irem, 1) := dk_112 (dk_at dksX2_put_0 10 rfl rfl)
theorem dX2_put_11 : decode cX2_put 11 = .ok (.iload_n 2, 1) := dk_28 (dk_at dksX2_put_0 11 rfl rfl)
theorem dX2_put_12 : decode cX2_put 12 = .ok (.sipush 255, 3) := dk_17 0 255 (dk_at dksX2_put_0 12 rfl rfl)
theorem dX2_put_15 : decode cX2_put 15 = .ok (.iand, 1) := dk_126 (dk_at dksX2_put_0 15 rfl rfl)
theorem dX2_put_16 : decode cX2_put 16 = .ok (.iastore, 1) := dk_79 (dk_at dksX2_put_0 16 rfl rfl)
theorem dX2_put_17 : decode cX2_put 17 = .ok (.return_, 1) := dk_177 (dk_at dksX2_put_0 17 rfl rfl)
abbrev cX2_place : ByteArray := prog_4_method_10_code
def yX2_place : MethodName := ⟨RX2, "place", "(I)V"⟩
def dkwX2_place_17 : List UInt8 := [104, 42, 180, 0, 13, 100, 5, 100, 5, 79, 177]
abbrev dktX2_place_17 : List UInt8 := dkwX2_place_17 ++ []
def dkwX2_place_16 : List UInt8 := [180, 0, 13, 42, 180, 0, 13, 104, 4, 100, 5, 79, 42, 180, 0, 17, 42, 180, 0, 13, 42, 180, 0, 13]
abbrev dktX2_place_16 : List UInt8 := dkwX2_place_16 ++ dktX2_place_17
def dkwX2_place_15 : List UInt8 := [42, 42, 180, 0, 13, 4, 100, 42, 180, 0, 13, 4, 100, 182, 0, 41, 153, 0, 42, 42, 180, 0, 17, 42]
abbrev dktX2_place_15 : List UInt8 := dkwX2_place_15 ++ dktX2_place_16
def dkwX2_place_14 : List UInt8 := [21, 4, 155, 0, 7, 4, 167, 0, 4, 3, 54, 5, 167, 255, 191, 132, 3, 3, 132, 4, 1, 167, 254, 220]
abbrev dktX2_place_14 : List UInt8 := dkwX2_place_14 ++ dktX2_place_15
def dkwX2_place_13 : List UInt8 := [21, 4, 28, 182, 0, 45, 132, 2, 1, 132, 3, 2, 132, 4, 254, 29, 42, 180, 0, 13, 162, 0, 12]
abbrev dktX2_place_13 : List UInt8 := dkwX2_place_13 ++ dktX2_place_14
def dkwX2_place_12 : List UInt8 := [155, 0, 33, 21, 4, 42, 180, 0, 13, 162, 0, 24, 42, 29, 21, 4, 182, 0, 41, 153, 0, 14, 42, 29]
abbrev dktX2_place_12 : List UInt8 := dkwX2_place_12 ++ dktX2_place_13
def dkwX2_place_11 : List UInt8 := [167, 0, 4, 3, 54, 5, 167, 255, 191, 132, 3, 1, 132, 4, 3, 4, 54, 5, 21, 5, 153, 0, 66, 29]
abbrev dktX2_place_11 : List UInt8 := dkwX2_place_11 ++ dktX2_place_12
def dkwX2_place_10 : List UInt8 := [132, 2, 1, 132, 3, 254, 132, 4, 2, 29, 155, 0, 16, 21, 4, 42, 180, 0, 13, 162, 0, 7, 4]
abbrev dktX2_place_10 : List UInt8 := dkwX2_place_10 ++ dktX2_place_11
def dkwX2_place_9 : List UInt8 := [21, 4, 155, 0, 24, 42, 29, 21, 4, 182, 0, 41, 153, 0, 14, 42, 29, 21, 4, 28, 182, 0, 45]
abbrev dktX2_place_9 : List UInt8 := dkwX2_place_9 ++ dktX2_place_10
def dkwX2_place_8 : List UInt8 := [42, 28, 182, 0, 38, 132, 2, 1, 4, 54, 5, 21, 5, 153, 0, 66, 29, 42, 180, 0, 13, 162, 0, 29]
abbrev dktX2_place_8 : List UInt8 := dkwX2_place_8 ++ dktX2_place_9
def dkwX2_place_7 : List UInt8 := [180, 0, 13, 7, 96, 160, 0, 27, 21, 4, 5, 160, 0, 21, 42, 180, 0, 13, 16, 8, 112, 154, 0, 11]
abbrev dktX2_place_7 : List UInt8 := dkwX2_place_7 ++ dktX2_place_8
def dkwX2_place_6 : List UInt8 := [154, 0, 22, 42, 180, 0, 13, 16, 8, 112, 7, 160, 0, 11, 42, 28, 182, 0, 35, 132, 2, 1, 29, 42]
abbrev dktX2_place_6 : List UInt8 := dkwX2_place_6 ++ dktX2_place_7
def dkwX2_place_5 : List UInt8 := [153, 0, 11, 42, 28, 182, 0, 32, 132, 2, 1, 29, 42, 180, 0, 13, 5, 100, 160, 0, 27, 21, 4]
abbrev dktX2_place_5 : List UInt8 := dkwX2_place_5 ++ dktX2_place_6
def dkwX2_place_4 : List UInt8 := [132, 2, 1, 29, 42, 180, 0, 13, 5, 100, 160, 0, 25, 21, 4, 154, 0, 20, 42, 180, 0, 13, 7, 112]
abbrev dktX2_place_4 : List UInt8 := dkwX2_place_4 ++ dktX2_place_5
def dkwX2_place_3 : List UInt8 := [180, 0, 13, 162, 1, 25, 29, 42, 180, 0, 13, 160, 0, 16, 21, 4, 154, 0, 11, 42, 28, 182, 0, 28]
abbrev dktX2_place_3 : List UInt8 := dkwX2_place_3 ++ dktX2_place_4
def dkwX2_place_2 : List UInt8 := [132, 2, 1, 167, 255, 235, 3, 61, 7, 62, 3, 54, 4, 29, 42, 180, 0, 13, 161, 0, 12, 21, 4, 42]
abbrev dktX2_place_2 : List UInt8 := dkwX2_place_2 ++ dktX2_place_3
def dkwX2_place_1 : List UInt8 := [181, 0, 17, 3, 61, 28, 16, 72, 162, 0, 21, 42, 180, 0, 20, 28, 42, 180, 0, 7, 28, 46, 79]
abbrev dktX2_place_1 : List UInt8 := dkwX2_place_1 ++ dktX2_place_2
def dkwX2_place_0 : List UInt8 := [42, 16, 8, 5, 27, 6, 126, 104, 96, 181, 0, 13, 42, 42, 180, 0, 13, 42, 180, 0, 13, 104, 188, 10]
abbrev dktX2_place_0 : List UInt8 := dkwX2_place_0 ++ dktX2_place_1
theorem dksX2_place_0 : cX2_place.data.toList.drop 0 = dktX2_place_0 := by decide +kernel
theorem dksX2_place_1 : cX2_place.data.toList.drop 24 = dktX2_place_1 := dk_seg dksX2_place_0 24 rfl rfl
theorem dksX2_place_2 : cX2_place.data.toList.drop 47 = dktX2_place_2 := dk_seg dksX2_place_1 23 rfl rfl
theorem dksX2_place_3 : cX2_place.data.toList.drop 71 = dktX2_place_3 := dk_seg dksX2_place_2 24 rfl rfl
theorem dksX2_place_4 : cX2_place.data.toList.drop 95 = dktX2_place_4 := dk_seg dksX2_place_3 24 rfl rfl
theorem dksX2_place_5 : cX2_place.data.toList.drop 119 = dktX2_place_5 := dk_seg dksX2_place_4 24 rfl rfl
theorem dksX2_place_6 : cX2_place.data.toList.drop 142 = dktX2_place_6 := dk_seg dksX2_place_5 23 rfl rfl
theorem dksX2_place_7 : cX2_place.data.toList.drop 166 = dktX2_place_7 := dk_seg dksX2_place_6 24 rfl rfl
theorem dksX2_place_8 : cX2_place.data.toList.drop 190 = dktX2_place_8 := dk_seg dksX2_place_7 24 rfl rfl
theorem dksX2_place_9 : cX2_place.data.toList.drop 214 = dktX2_place_9 := dk_seg dksX2_place_8 24 rfl rfl
theorem dksX2_place_10 : cX2_place.data.toList.drop 237 = dktX2_place_10 := dk_seg dksX2_place_9 23 rfl rfl
theorem dksX2_place_11 : cX2_place.data.toList.drop 260 = dktX2_place_11 := dk_seg dksX2_place_10 23 rfl rfl
theorem dksX2_place_12 : cX2_place.data.toList.drop 284 = dktX2_place_12 := dk_seg dksX2_place_11 24 rfl rfl
theorem dksX2_place_13 : cX2_place.data.toList.drop 308 = dktX2_place_13 := dk_seg dksX2_place_12 24 rfl rfl
theorem dksX2_place_14 : cX2_place.data.toList.drop 331 = dktX2_place_14 := dk_seg dksX2_place_13 23 rfl rfl
theorem dksX2_place_15 : cX2_place.data.toList.drop 355 = dktX2_place_15 := dk_seg dksX2_place_14 24 rfl rfl
theorem dksX2_place_16 : cX2_place.data.toList.drop 379 = dktX2_place_16 := dk_seg dksX2_place_15 24 rfl rfl
theorem dksX2_place_17 : cX2_place.data.toList.drop 403 = dktX2_place_17 := dk_seg dksX2_place_16 24 rfl rfl
theorem dX2_place_0 : decode cX2_place 0 = .ok (.aload_n 0, 1) := dk_42 (dk_at dksX2_place_0 0 rfl rfl)
theorem dX2_place_1 : decode cX2_place 1 = .ok (.bipush 8, 2) := dk_16 8 (dk_at dksX2_place_0 1 rfl rfl)
theorem dX2_place_3 : decode cX2_place 3 = .ok (.iconst 2, 1) := dk_5 (dk_at dksX2_place_0 3 rfl rfl)
theorem dX2_place_4 : decode cX2_place 4 = .ok (.iload_n 1, 1) := dk_27 (dk_at dksX2_place_0 4 rfl rfl)
theorem dX2_place_5 : decode cX2_place 5 = .ok (.iconst 3, 1) := dk_6 (dk_at dksX2_place_0 5 rfl rfl)
theorem dX2_place_6 : decode cX2_place 6 = .ok (.iand, 1) := dk_126 (dk_at dksX2_place_0 6 rfl rfl)
theorem dX2_place_7 : decode cX2_place 7 = .ok (.imul, 1) := dk_104 (dk_at dksX2_place_0 7 rfl rfl)
theorem dX2_place_8 : decode cX2_place 8 = .ok (.iadd, 1) := dk_96 (dk_at dksX2_place_0 8 rfl rfl)
theorem dX2_place_9 : decode cX2_place 9 = .ok (.putfield 13, 3) := dk_181 0 13 (dk_at dksX2_place_0 9 rfl rfl)
theorem dX2_place_12 : decode cX2_place 12 = .ok (.aload_n 0, 1) := dk_42 (dk_at dksX2_place_0 12 rfl rfl)
theorem dX2_place_13 : decode cX2_place 13 = .ok (.aload_n 0, 1) := dk_42 (dk_at dksX2_place_0 13 rfl rfl)
theorem dX2_place_14 : decode cX2_place 14 = .ok (.getfield 13, 3) := dk_180 0 13 (dk_at dksX2_place_0 14 rfl rfl)
theorem dX2_place_17 : decode cX2_place 17 = .ok (.aload_n 0, 1) := dk_42 (dk_at dksX2_place_0 17 rfl rfl)
theorem dX2_place_18 : decode cX2_place 18 = .ok (.getfield 13, 3) := dk_180 0 13 (dk_at dksX2_place_0 18 rfl rfl)
theorem dX2_place_21 : decode cX2_place 21 = .ok (.imul, 1) := dk_104 (dk_at dksX2_place_0 21 rfl rfl)
theorem dX2_place_22 : decode cX2_place 22 = .ok (.newarray .int, 2) := dk_188_10 (dk_at dksX2_place_0 22 rfl rfl)
theorem dX2_place_24 : decode cX2_place 24 = .ok (.putfield 17, 3) := dk_181 0 17 (dk_at dksX2_place_1 0 rfl rfl)
theorem dX2_place_27 : decode cX2_place 27 = .ok (.iconst 0, 1) := dk_3 (dk_at dksX2_place_1 3 rfl rfl)
theorem dX2_place_28 : decode cX2_place 28 = .ok (.istore_n 2, 1) := dk_61 (dk_at dksX2_place_1 4 rfl rfl)
theorem dX2_place_29 : decode cX2_place 29 = .ok (.iload_n 2, 1) := dk_28 (dk_at dksX2_place_1 5 rfl rfl)
theorem dX2_place_30 : decode cX2_place 30 = .ok (.bipush 72, 2) := dk_16 72 (dk_at dksX2_place_1 6 rfl rfl)
theorem dX2_place_32 : decode cX2_place 32 = .ok (.if_icmp .ge 21, 3) := dk_162 0 21 (dk_at dksX2_place_1 8 rfl rfl)
theorem dX2_place_35 : decode cX2_place 35 = .ok (.aload_n 0, 1) := dk_42 (dk_at dksX2_place_1 11 rfl rfl)
theorem dX2_place_36 : decode cX2_place 36 = .ok (.getfield 20, 3) := dk_180 0 20 (dk_at dksX2_place_1 12 rfl rfl)
theorem dX2_place_39 : decode cX2_place 39 = .ok (.iload_n 2, 1) := dk_28 (dk_at dksX2_place_1 15 rfl rfl)
theorem dX2_place_40 : decode cX2_place 40 = .ok (.aload_n 0, 1) := dk_42 (dk_at dksX2_place_1 16 rfl rfl)
theorem dX2_place_41 : decode cX2_place 41 = .ok (.getfield 7, 3) := dk_180 0 7 (dk_at dksX2_place_1 17 rfl rfl)
theorem dX2_place_44 : decode cX2_place 44 = .ok (.iload_n 2, 1) := dk_28 (dk_at dksX2_place_1 20 rfl rfl)
theorem dX2_place_45 : decode cX2_place 45 = .ok (.iaload, 1) := dk_46 (dk_at dksX2_place_1 21 rfl rfl)
theorem dX2_place_46 : decode cX2_place 46 = .ok (.iastore, 1) := dk_79 (dk_at dksX2_place_1 22 rfl rfl)
theorem dX2_place_47 : decode cX2_place 47 = .ok (.iinc 2 1, 3) := dk_132 2 1 (dk_at dksX2_place_2 0 rfl rfl)
theorem dX2_place_50 : decode cX2_place 50 = .ok (.goto (-21), 3) := dk_167 255 235 (dk_at dksX2_place_2 3 rfl rfl)
theorem dX2_place_53 : decode cX2_place 53 = .ok (.iconst 0, 1) := dk_3 (dk_at dksX2_place_2 6 rfl rfl)
theorem dX2_place_54 : decode cX2_place 54 = .ok (.istore_n 2, 1) := dk_61 (dk_at dksX2_place_2 7 rfl rfl)
theorem dX2_place_55 : decode cX2_place 55 = .ok (.iconst 4, 1) := dk_7 (dk_at dksX2_place_2 8 rfl rfl)
theorem dX2_place_56 : decode cX2_place 56 = .ok (.istore_n 3, 1) := dk_62 (dk_at dksX2_place_2 9 rfl rfl)
theorem dX2_place_57 : decode cX2_place 57 = .ok (.iconst 0, 1) := dk_3 (dk_at dksX2_place_2 10 rfl rfl)
theorem dX2_place_58 : decode cX2_place 58 = .ok (.istore 4, 2) := dk_54 4 (dk_at dksX2_place_2 11 rfl rfl)
theorem dX2_place_60 : decode cX2_place 60 = .ok (.iload_n 3, 1) := dk_29 (dk_at dksX2_place_2 13 rfl rfl)
theorem dX2_place_61 : decode cX2_place 61 = .ok (.aload_n 0, 1) := dk_42 (dk_at dksX2_place_2 14 rfl rfl)
theorem dX2_place_62 : decode cX2_place 62 = .ok (.getfield 13, 3) := dk_180 0 13 (dk_at dksX2_place_2 15 rfl rfl)
theorem dX2_place_65 : decode cX2_place 65 = .ok (.if_icmp .lt 12, 3) := dk_161 0 12 (dk_at dksX2_place_2 18 rfl rfl)
theorem dX2_place_68 : decode cX2_place 68 = .ok (.iload 4, 2) := dk_21 4 (dk_at dksX2_place_2 21 rfl rfl)
theorem dX2_place_70 : decode cX2_place 70 = .ok (.aload_n 0, 1) := dk_42 (dk_at dksX2_place_2 23 rfl rfl)
theorem dX2_place_71 : decode cX2_place 71 = .ok (.getfield 13, 3) := dk_180 0 13 (dk_at dksX2_place_3 0 rfl rfl)
theorem dX2_place_74 : decode cX2_place 74 = .ok (.if_icmp .ge 281, 3) := dk_162 1 25 (dk_at dksX2_place_3 3 rfl rfl)
theorem dX2_place_77 : decode cX2_place 77 = .ok (.iload_n 3, 1) := dk_29 (dk_at dksX2_place_3 6 rfl rfl)
theorem dX2_place_78 : decode cX2_place 78 = .ok (.aload_n 0, 1) := dk_42 (dk_at dksX2_place_3 7 rfl rfl)
theorem dX2_place_79 : decode cX2_place 79 = .ok (.getfield 13, 3) := dk_180 0 13 (dk_at dksX2_place_3 8 rfl rfl)
theorem dX2_place_82 : decode cX2_place 82 = .ok (.if_icmp .ne 16, 3) := dk_160 0 16 (dk_at dksX2_place_3 11 rfl rfl)
theorem dX2_place_85 : decode cX2_place 85 = .ok (.iload 4, 2) := dk_21 4 (dk_at dksX2_place_3 14 rfl rfl)
theorem dX2_place_87 : decode cX2_place 87 = .ok (.ifCond .ne 11, 3) := dk_154 0 11 (dk_at dksX2_place_3 16 rfl rfl)
theorem dX2_place_90 : decode cX2_place 90 = .ok (.aload_n 0, 1) := dk_42 (dk_at dksX2_place_3 19 rfl rfl)
theorem dX2_place_91 : decode cX2_place 91 = .ok (.iload_n 2, 1) := dk_28 (dk_at dksX2_place_3 20 rfl rfl)
theorem dX2_place_92 : decode cX2_place 92 = .ok (.invokevirtual 28, 3) := dk_182 0 28 (dk_at dksX2_place_3 21 rfl rfl)
theorem dX2_place_95 : decode cX2_place 95 = .ok (.iinc 2 1, 3) := dk_132 2 1 (dk_at dksX2_place_4 0 rfl rfl)
theorem dX2_place_98 : decode cX2_place 98 = .ok (.iload_n 3, 1) := dk_29 (dk_at dksX2_place_4 3 rfl rfl)
theorem dX2_place_99 : decode cX2_place 99 = .ok (.aload_n 0, 1) := dk_42 (dk_at dksX2_place_4 4 rfl rfl)
theorem dX2_place_100 : decode cX2_place 100 = .ok (.getfield 13, 3) := dk_180 0 13 (dk_at dksX2_place_4 5 rfl rfl)
theorem dX2_place_103 : decode cX2_place 103 = .ok (.iconst 2, 1) := dk_5 (dk_at dksX2_place_4 8 rfl rfl)
theorem dX2_place_104 : decode cX2_place 104 = .ok (.isub, 1) := dk_100 (dk_at dksX2_place_4 9 rfl rfl)
theorem dX2_place_105 : decode cX2_place 105 = .ok (.if_icmp .ne 25, 3) := dk_160 0 25 (dk_at dksX2_place_4 10 rfl rfl)
theorem dX2_place_108 : decode cX2_place 108 = .ok (.iload 4, 2) := dk_21 4 (dk_at dksX2_place_4 13 rfl rfl)
theorem dX2_place_110 : decode cX2_place 110 = .ok (.ifCond .ne 20, 3) := dk_154 0 20 (dk_at dksX2_place_4 15 rfl rfl)
theorem dX2_place_113 : decode cX2_place 113 = .ok (.aload_n 0, 1) := dk_42 (dk_at dksX2_place_4 18 rfl rfl)
theorem dX2_place_114 : decode cX2_place 114 = .ok (.getfield 13, 3) := dk_180 0 13 (dk_at dksX2_place_4 19 rfl rfl)
theorem dX2_place_117 : decode cX2_place 117 = .ok (.iconst 4, 1) := dk_7 (dk_at dksX2_place_4 22 rfl rfl)
theorem dX2_place_118 : decode cX2_place 118 = .ok (.irem, 1) := dk_112 (dk_at dksX2_place_4 23 rfl rfl)
theorem dX2_place_119 : decode cX2_place 119 = .ok (.ifCond .eq 11, 3) := dk_153 0 11 (dk_at dksX2_place_5 0 rfl rfl)
theorem dX2_place_122 : decode cX2_place 122 = .ok (.aload_n 0, 1) := dk_42 (dk_at dksX2_place_5 3 rfl rfl)
theorem dX2_place_123 : decode cX2_place 123 = .ok (.iload_n 2, 1) := dk_28 (dk_at dksX2_place_5 4 rfl rfl)
theorem dX2_place_124 : decode cX2_place 124 = .ok (.invokevirtual 32, 3) := dk_182 0 32 (dk_at dksX2_place_5 5 rfl rfl)
theorem dX2_place_127 : decode cX2_place 127 = .ok (.iinc 2 1, 3) := dk_132 2 1 (dk_at dksX2_place_5 8 rfl rfl)
theorem dX2_place_130 : decode cX2_place 130 = .ok (.iload_n 3, 1) := dk_29 (dk_at dksX2_place_5 11 rfl rfl)
theorem dX2_place_131 : decode cX2_place 131 = .ok (.aload_n 0, 1) := dk_42 (dk_at dksX2_place_5 12 rfl rfl)
theorem dX2_place_132 : decode cX2_place 132 = .ok (.getfield 13, 3) := dk_180 0 13 (dk_at dksX2_place_5 13 rfl rfl)
theorem dX2_place_135 : decode cX2_place 135 = .ok (.iconst 2, 1) := dk_5 (dk_at dksX2_place_5 16 rfl rfl)
theorem dX2_place_136 : decode cX2_place 136 = .ok (.isub, 1) := dk_100 (dk_at dksX2_place_5 17 rfl rfl)
theorem dX2_place_137 : decode cX2_place 137 = .ok (.if_icmp .ne 27, 3) := dk_160 0 27 (dk_at dksX2_place_5 18 rfl rfl)
theorem dX2_place_140 : decode cX2_place 140 = .ok (.iload 4, 2) := dk_21 4 (dk_at dksX2_place_5 21 rfl rfl)
theorem dX2_place_142 : decode cX2_place 142 = .ok (.ifCond .ne 22, 3) := dk_154 0 22 (dk_at dksX2_place_6 0 rfl rfl)
theorem dX2_place_145 : decode cX2_place 145 = .ok (.aload_n 0, 1) := dk_42 (dk_at dksX2_place_6 3 rfl rfl)
theorem dX2_place_146 : decode cX2_place 146 = .ok (.getfield 13, 3) := dk_180 0 13 (dk_at dksX2_place_6 4 rfl rfl)
theorem dX2_place_149 : decode cX2_place 149 = .ok (.bipush 8, 2) := dk_16 8 (dk_at dksX2_place_6 7 rfl rfl)
theorem dX2_place_151 : decode cX2_place 151 = .ok (.irem, 1) := dk_112 (dk_at dksX2_place_6 9 rfl rfl)
theorem dX2_place_152 : decode cX2_place 152 = .ok (.iconst 4, 1) := dk_7 (dk_at dksX2_place_6 10 rfl rfl)
theorem dX2_place_153 : decode cX2_place 153 = .ok (.if_icmp .ne 11, 3) := dk_160 0 11 (dk_at dksX2_place_6 11 rfl rfl)
theorem dX2_place_156 : decode cX2_place 156 = .ok (.aload_n 0, 1) := dk_42 (dk_at dksX2_place_6 14 rfl rfl)
theorem dX2_place_157 : decode cX2_place 157 = .ok (.iload_n 2, 1) := dk_28 (dk_at dksX2_place_6 15 rfl rfl)
theorem dX2_place_158 : decode cX2_place 158 = .ok (.invokevirtual 35, 3) := dk_182 0 35 (dk_at dksX2_place_6 16 rfl rfl)
theorem dX2_place_161 : decode cX2_place 161 = .ok (.iinc 2 1, 3) := dk_132 2 1 (dk_at dksX2_place_6 19 rfl rfl)
theorem dX2_place_164 : decode cX2_place 164 = .ok (.iload_n 3, 1) := dk_29 (dk_at dksX2_place_6 22 rfl rfl)
theorem dX2_place_165 : decode cX2_place 165 = .ok (.aload_n 0, 1) := dk_42 (dk_at dksX2_place_6 23 rfl rfl)
theorem dX2_place_166 : decode cX2_place 166 = .ok (.getfield 13, 3) := dk_180 0 13 (dk_at dksX2_place_7 0 rfl rfl)
theorem dX2_place_169 : decode cX2_place 169 = .ok (.iconst 4, 1) := dk_7 (dk_at dksX2_place_7 3 rfl rfl)
theorem dX2_place_170 : decode cX2_place 170 = .ok (.iadd, 1) := dk_96 (dk_at dksX2_place_7 4 rfl rfl)
theorem dX2_place_171 : decode cX2_place 171 = .ok (.if_icmp .ne 27, 3) := dk_160 0 27 (dk_at dksX2_place_7 5 rfl rfl)
theorem dX2_place_174 : decode cX2_place 174 = .ok (.iload 4, 2) := dk_21 4 (dk_at dksX2_place_7 8 rfl rfl)
theorem dX2_place_176 : decode cX2_place 176 = .ok (.iconst 2, 1) := dk_5 (dk_at dksX2_place_7 10 rfl rfl)
theorem dX2_place_177 : decode cX2_place 177 = .ok (.if_icmp .ne 21, 3) := dk_160 0 21 (dk_at dksX2_place_7 11 rfl rfl)
theorem dX2_place_180 : decode cX2_place 180 = .ok (.aload_n 0, 1) := dk_42 (dk_at dksX2_place_7 14 rfl rfl)
theorem dX2_place_181 : decode cX2_place 181 = .ok (.getfield 13, 3) := dk_180 0 13 (dk_at dksX2_place_7 15 rfl rfl)
theorem dX2_place_184 : decode cX2_place 184 = .ok (.bipush 8, 2) := dk_16 8 (dk_at dksX2_place_7 18 rfl rfl)
theorem dX2_place_186 : decode cX2_place 186 = .ok (.irem, 1) := dk_112 (dk_at dksX2_place_7 20 rfl rfl)
theorem dX2_place_187 : decode cX2_place 187 = .ok (.ifCond .ne 11, 3) := dk_154 0 11 (dk_at dksX2_place_7 21 rfl rfl)
theorem dX2_place_190 : decode cX2_place 190 = .ok (.aload_n 0, 1) := dk_42 (dk_at dksX2_place_8 0 rfl rfl)
theorem dX2_place_191 : decode cX2_place 191 = .ok (.iload_n 2, 1) := dk_28 (dk_at dksX2_place_8 1 rfl rfl)
theorem dX2_place_192 : decode cX2_place 192 = .ok (.invokevirtual 38, 3) := dk_182 0 38 (dk_at dksX2_place_8 2 rfl rfl)
theorem dX2_place_195 : decode cX2_place 195 = .ok (.iinc 2 1, 3) := dk_132 2 1 (dk_at dksX2_place_8 5 rfl rfl)
theorem dX2_place_198 : decode cX2_place 198 = .ok (.iconst 1, 1) := dk_4 (dk_at dksX2_place_8 8 rfl rfl)
theorem dX2_place_199 : decode cX2_place 199 = .ok (.istore 5, 2) := dk_54 5 (dk_at dksX2_place_8 9 rfl rfl)
theorem dX2_place_201 : decode cX2_place 201 = .ok (.iload 5, 2) := dk_21 5 (dk_at dksX2_place_8 11 rfl rfl)
theorem dX2_place_203 : decode cX2_place 203 = .ok (.ifCond .eq 66, 3) := dk_153 0 66 (dk_at dksX2_place_8 13 rfl rfl)
theorem dX2_place_206 : decode cX2_place 206 = .ok (.iload_n 3, 1) := dk_29 (dk_at dksX2_place_8 16 rfl rfl)
theorem dX2_place_207 : decode cX2_place 207 = .ok (.aload_n 0, 1) := dk_42 (dk_at dksX2_place_8 17 rfl rfl)
theorem dX2_place_208 : decode cX2_place 208 = .ok (.getfield 13, 3) := dk_180 0 13 (dk_at dksX2_place_8 18 rfl rfl)
theorem dX2_place_211 : decode cX2_place 211 = .ok (.if_icmp .ge 29, 3) := dk_162 0 29 (dk_at dksX2_place_8 21 rfl rfl)
theorem dX2_place_214 : decode cX2_place 214 = .ok (.iload 4, 2) := dk_21 4 (dk_at dksX2_place_9 0 rfl rfl)
theorem dX2_place_216 : decode cX2_place 216 = .ok (.ifCond .lt 24, 3) := dk_155 0 24 (dk_at dksX2_place_9 2 rfl rfl)
theorem dX2_place_219 : decode cX2_place 219 = .ok (.aload_n 0, 1) := dk_42 (dk_at dksX2_place_9 5 rfl rfl)
theorem dX2_place_220 : decode cX2_place 220 = .ok (.iload_n 3, 1) := dk_29 (dk_at dksX2_place_9 6 rfl rfl)
theorem dX2_place_221 : decode cX2_place 221 = .ok (.iload 4, 2) := dk_21 4 (dk_at dksX2_place_9 7 rfl rfl)
theorem dX2_place_223 : decode cX2_place 223 = .ok (.invokevirtual 41, 3) := dk_182 0 41 (dk_at dksX2_place_9 9 rfl rfl)
theorem dX2_place_226 : decode cX2_place 226 = .ok (.ifCond .eq 14, 3) := dk_153 0 14 (dk_at dksX2_place_9 12 rfl rfl)
theorem dX2_place_229 : decode cX2_place 229 = .ok (.aload_n 0, 1) := dk_42 (dk_at dksX2_place_9 15 rfl rfl)
theorem dX2_place_230 : decode cX2_place 230 = .ok (.iload_n 3, 1) := dk_29 (dk_at dksX2_place_9 16 rfl rfl)
theorem dX2_place_231 : decode cX2_place 231 = .ok (.iload 4, 2) := dk_21 4 (dk_at dksX2_place_9 17 rfl rfl)
theorem dX2_place_233 : decode cX2_place 233 = .ok (.iload_n 2, 1) := dk_28 (dk_at dksX2_place_9 19 rfl rfl)
theorem dX2_place_234 : decode cX2_place 234 = .ok (.invokevirtual 45, 3) := dk_182 0 45 (dk_at dksX2_place_9 20 rfl rfl)
theorem dX2_place_237 : decode cX2_place 237 = .ok (.iinc 2 1, 3) := dk_132 2 1 (dk_at dksX2_place_10 0 rfl rfl)
theorem dX2_place_240 : decode cX2_place 240 = .ok (.iinc 3 (-2), 3) := dk_132 3 254 (dk_at dksX2_place_10 3 rfl rfl)
theorem dX2_place_243 : decode cX2_place 243 = .ok (.iinc 4 2, 3) := dk_132 4 2 (dk_at dksX2_place_10 6 rfl rfl)
theorem dX2_place_246 : decode cX2_place 246 = .ok (.iload_n 3, 1) := dk_29 (dk_at dksX2_place_10 9 rfl rfl)
theorem dX2_place_247 : decode cX2_place 247 = .ok (.ifCond .lt 16, 3) := dk_155 0 16 (dk_at dksX2_place_10 10 rfl rfl)
theorem dX2_place_250 : decode cX2_place 250 = .ok (.iload 4, 2) := dk_21 4 (dk_at dksX2_place_10 13 rfl rfl)
theorem dX2_place_252 : decode cX2_place 252 = .ok (.aload_n 0, 1) := dk_42 (dk_at dksX2_place_10 15 rfl rfl)
theorem dX2_place_253 : decode cX2_place 253 = .ok (.getfield 13, 3) := dk_180 0 13 (dk_at dksX2_place_10 16 rfl rfl)
theorem dX2_place_256 : decode cX2_place 256 = .ok (.if_icmp .ge 7, 3) := dk_162 0 7 (dk_at dksX2_place_10 19 rfl rfl)
theorem dX2_place_259 : decode cX2_place 259 = .ok (.iconst 1, 1) := dk_4 (dk_at dksX2_place_10 22 rfl rfl)
theorem dX2_place_260 : decode cX2_place 260 = .ok (.goto 4, 3) := dk_167 0 4 (dk_at dksX2_place_11 0 rfl rfl)
theorem dX2_place_263 : decode cX2_place 263 = .ok (.iconst 0, 1) := dk_3 (dk_at dksX2_place_11 3 rfl rfl)
theorem dX2_place_264 : decode cX2_place 264 = .ok (.istore 5, 2) := dk_54 5 (dk_at dksX2_place_11 4 rfl rfl)
theorem dX2_place_266 : decode cX2_place 266 = .ok (.goto (-65), 3) := dk_167 255 191 (dk_at dksX2_place_11 6 rfl rfl)
theorem dX2_place_269 : decode cX2_place 269 = .ok (.iinc 3 1, 3) := dk_132 3 1 (dk_at dksX2_place_11 9 rfl rfl)
theorem dX2_place_272 : decode cX2_place 272 = .ok (.iinc 4 3, 3) := dk_132 4 3 (dk_at dksX2_place_11 12 rfl rfl)
theorem dX2_place_275 : decode cX2_place 275 = .ok (.iconst 1, 1) := dk_4 (dk_at dksX2_place_11 15 rfl rfl)
theorem dX2_place_276 : decode cX2_place 276 = .ok (.istore 5, 2) := dk_54 5 (dk_at dksX2_place_11 16 rfl rfl)
theorem dX2_place_278 : decode cX2_place 278 = .ok (.iload 5, 2) := dk_21 5 (dk_at dksX2_place_11 18 rfl rfl)
theorem dX2_place_280 : decode cX2_place 280 = .ok (.ifCond .eq 66, 3) := dk_153 0 66 (dk_at dksX2_place_11 20 rfl rfl)
theorem dX2_place_283 : decode cX2_place 283 = .ok (.iload_n 3, 1) := dk_29 (dk_at dksX2_place_11 23 rfl rfl)
theorem dX2_place_284 : decode cX2_place 284 = .ok (.ifCond .lt 33, 3) := dk_155 0 33 (dk_at dksX2_place_12 0 rfl rfl)
theorem dX2_place_287 : decode cX2_place 287 = .ok (.iload 4, 2) := dk_21 4 (dk_at dksX2_place_12 3 rfl rfl)
theorem dX2_place_289 : decode cX2_place 289 = .ok (.aload_n 0, 1) := dk_42 (dk_at dksX2_place_12 5 rfl rfl)
theorem dX2_place_290 : decode cX2_place 290 = .ok (.getfield 13, 3) := dk_180 0 13 (dk_at dksX2_place_12 6 rfl rfl)
theorem dX2_place_293 : decode cX2_place 293 = .ok (.if_icmp .ge 24, 3) := dk_162 0 24 (dk_at dksX2_place_12 9 rfl rfl)
theorem dX2_place_296 : decode cX2_place 296 = .ok (.aload_n 0, 1) := dk_42 (dk_at dksX2_place_12 12 rfl rfl)
theorem dX2_place_297 : decode cX2_place 297 = .ok (.iload_n 3, 1) := dk_29 (dk_at dksX2_place_12 13 rfl rfl)
theorem dX2_place_298 : decode cX2_place 298 = .ok (.iload 4, 2) := dk_21 4 (dk_at dksX2_place_12 14 rfl rfl)
theorem dX2_place_300 : decode cX2_place 300 = .ok (.invokevirtual 41, 3) := dk_182 0 41 (dk_at dksX2_place_12 16 rfl rfl)
theorem dX2_place_303 : decode cX2_place 303 = .ok (.ifCond .eq 14, 3) := dk_153 0 14 (dk_at dksX2_place_12 19 rfl rfl)
theorem dX2_place_306 : decode cX2_place 306 = .ok (.aload_n 0, 1) := dk_42 (dk_at dksX2_place_12 22 rfl rfl)
theorem dX2_place_307 : decode cX2_place 307 = .ok (.iload_n 3, 1) := dk_29 (dk_at dksX2_place_12 23 rfl rfl)
theorem dX2_place_308 : decode cX2_place 308 = .ok (.iload 4, 2) := dk_21 4 (dk_at dksX2_place_13 0 rfl rfl)
theorem dX2_place_310 : decode cX2_place 310 = .ok (.iload_n 2, 1) := dk_28 (dk_at dksX2_place_13 2 rfl rfl)
theorem dX2_place_311 : decode cX2_place 311 = .ok (.invokevirtual 45, 3) := dk_182 0 45 (dk_at dksX2_place_13 3 rfl rfl)
theorem dX2_place_314 : decode cX2_place 314 = .ok (.iinc 2 1, 3) := dk_132 2 1 (dk_at dksX2_place_13 6 rfl rfl)
theorem dX2_place_317 : decode cX2_place 317 = .ok (.iinc 3 2, 3) := dk_132 3 2 (dk_at dksX2_place_13 9 rfl rfl)
theorem dX2_place_320 : decode cX2_place 320 = .ok (.iinc 4 (-2), 3) := dk_132 4 254 (dk_at dksX2_place_13 12 rfl rfl)
theorem dX2_place_323 : decode cX2_place 323 = .ok (.iload_n 3, 1) := dk_29 (dk_at dksX2_place_13 15 rfl rfl)
theorem dX2_place_324 : decode cX2_place 324 = .ok (.aload_n 0, 1) := dk_42 (dk_at dksX2_place_13 16 rfl rfl)
theorem dX2_place_325 : decode cX2_place 325 = .ok (.getfield 13, 3) := dk_180 0 13 (dk_at dksX2_place_13 17 rfl rfl)
theorem dX2_place_328 : decode cX2_place 328 = .ok (.if_icmp .ge 12, 3) := dk_162 0 12 (dk_at dksX2_place_13 20 rfl rfl)
theorem dX2_place_331 : decode cX2_place 331 = .ok (.iload 4, 2) := dk_21 4 (dk_at dksX2_place_14 0 rfl rfl)
theorem dX2_place_333 : decode cX2_place 333 = .ok (.ifCond .lt 7, 3) := dk_155 0 7 (dk_at dksX2_place_14 2 rfl rfl)
theorem dX2_place_336 : decode cX2_place 336 = .ok (.iconst 1, 1) := dk_4 (dk_at dksX2_place_14 5 rfl rfl)
theorem dX2_place_337 : decode cX2_place 337 = .ok (.goto 4, 3) := dk_167 0 4 (dk_at dksX2_place_14 6 rfl rfl)
theorem dX2_place_340 : decode cX2_place 340 = .ok (.iconst 0, 1) := dk_3 (dk_at dksX2_place_14 9 rfl rfl)
theorem dX2_place_341 : decode cX2_place 341 = .ok (.istore 5, 2) := dk_54 5 (dk_at dksX2_place_14 10 rfl rfl)
theorem dX2_place_343 : decode cX2_place 343 = .ok (.goto (-65), 3) := dk_167 255 191 (dk_at dksX2_place_14 12 rfl rfl)
theorem dX2_place_346 : decode cX2_place 346 = .ok (.iinc 3 3, 3) := dk_132 3 3 (dk_at dksX2_place_14 15 rfl rfl)
theorem dX2_place_349 : decode cX2_place 349 = .ok (.iinc 4 1, 3) := dk_132 4 1 (dk_at dksX2_place_14 18 rfl rfl)
theorem dX2_place_352 : decode cX2_place 352 = .ok (.goto (-292), 3) := dk_167 254 220 (dk_at dksX2_place_14 21 rfl rfl)
theorem dX2_place_355 : decode cX2_place 355 = .ok (.aload_n 0, 1) := dk_42 (dk_at dksX2_place_15 0 rfl rfl)
theorem dX2_place_356 : decode cX2_place 356 = .ok (.aload_n 0, 1) := dk_42 (dk_at dksX2_place_15 1 rfl rfl)
theorem dX2_place_357 : decode cX2_place 357 = .ok (.getfield 13, 3) := dk_180 0 13 (dk_at dksX2_place_15 2 rfl rfl)
theorem dX2_place_360 : decode cX2_place 360 = .ok (.iconst 1, 1) := dk_4 (dk_at dksX2_place_15 5 rfl rfl)
theorem dX2_place_361 : decode cX2_place 361 = .ok (.isub, 1) := dk_100 (dk_at dksX2_place_15 6 rfl rfl)
theorem dX2_place_362 : decode cX2_place 362 = .ok (.aload_n 0, 1) := dk_42 (dk_at dksX2_place_15 7 rfl rfl)
theorem dX2_place_363 : decode cX2_place 363 = .ok (.getfield 13, 3) := dk_180 0 13 (dk_at dksX2_place_15 8 rfl rfl)
theorem dX2_place_366 : decode cX2_place 366 = .ok (.iconst 1, 1) := dk_4 (dk_at dksX2_place_15 11 rfl rfl)
theorem dX2_place_367 : decode cX2_place 367 = .ok (.isub, 1) := dk_100 (dk_at dksX2_place_15 12 rfl rfl)
theorem dX2_place_368 : decode cX2_place 368 = .ok (.invokevirtual 41, 3) := dk_182 0 41 (dk_at dksX2_place_15 13 rfl rfl)
theorem dX2_place_371 : decode cX2_place 371 = .ok (.ifCond .eq 42, 3) := dk_153 0 42 (dk_at dksX2_place_15 16 rfl rfl)
theorem dX2_place_374 : decode cX2_place 374 = .ok (.aload_n 0, 1) := dk_42 (dk_at dksX2_place_15 19 rfl rfl)
theorem dX2_place_375 : decode cX2_place 375 = .ok (.getfield 17, 3) := dk_180 0 17 (dk_at dksX2_place_15 20 rfl rfl)
theorem dX2_place_378 : decode cX2_place 378 = .ok (.aload_n 0, 1) := dk_42 (dk_at dksX2_place_15 23 rfl rfl)
theorem dX2_place_379 : decode cX2_place 379 = .ok (.getfield 13, 3) := dk_180 0 13 (dk_at dksX2_place_16 0 rfl rfl)
theorem dX2_place_382 : decode cX2_place 382 = .ok (.aload_n 0, 1) := dk_42 (dk_at dksX2_place_16 3 rfl rfl)
theorem dX2_place_383 : decode cX2_place 383 = .ok (.getfield 13, 3) := dk_180 0 13 (dk_at dksX2_place_16 4 rfl rfl)
theorem dX2_place_386 : decode cX2_place 386 = .ok (.imul, 1) := dk_104 (dk_at dksX2_place_16 7 rfl rfl)
theorem dX2_place_387 : decode cX2_place 387 = .ok (.iconst 1, 1) := dk_4 (dk_at dksX2_place_16 8 rfl rfl)
theorem dX2_place_388 : decode cX2_place 388 = .ok (.isub, 1) := dk_100 (dk_at dksX2_place_16 9 rfl rfl)
theorem dX2_place_389 : decode cX2_place 389 = .ok (.iconst 2, 1) := dk_5 (dk_at dksX2_place_16 10 rfl rfl)
theorem dX2_place_390 : decode cX2_place 390 = .ok (.iastore, 1) := dk_79 (dk_at dksX2_place_16 11 rfl rfl)
theorem dX2_place_391 : decode cX2_place 391 = .ok (.aload_n 0, 1) := dk_42 (dk_at dksX2_place_16 12 rfl rfl)
theorem dX2_place_392 : decode cX2_place 392 = .ok (.getfield 17, 3) := dk_180 0 17 (dk_at dksX2_place_16 13 rfl rfl)
theorem dX2_place_395 : decode cX2_place 395 = .ok (.aload_n 0, 1) := dk_42 (dk_at dksX2_place_16 16 rfl rfl)
theorem dX2_place_396 : decode cX2_place 396 = .ok (.getfield 13, 3) := dk_180 0 13 (dk_at dksX2_place_16 17 rfl rfl)
theorem dX2_place_399 : decode cX2_place 399 = .ok (.aload_n 0, 1) := dk_42 (dk_at dksX2_place_16 20 rfl rfl)
theorem dX2_place_400 : decode cX2_place 400 = .ok (.getfield 13, 3) := dk_180 0 13 (dk_at dksX2_place_16 21 rfl rfl)
theorem dX2_place_403 : decode cX2_place 403 = .ok (.imul, 1) := dk_104 (dk_at dksX2_place_17 0 rfl rfl)
theorem dX2_place_404 : decode cX2_place 404 = .ok (.aload_n 0, 1) := dk_42 (dk_at dksX2_place_17 1 rfl rfl)
theorem dX2_place_405 : decode cX2_place 405 = .ok (.getfield 13, 3) := dk_180 0 13 (dk_at dksX2_place_17 2 rfl rfl)
theorem dX2_place_408 : decode cX2_place 408 = .ok (.isub, 1) := dk_100 (dk_at dksX2_place_17 5 rfl rfl)
theorem dX2_place_409 : decode cX2_place 409 = .ok (.iconst 2, 1) := dk_5 (dk_at dksX2_place_17 6 rfl rfl)
theorem dX2_place_410 : decode cX2_place 410 = .ok (.isub, 1) := dk_100 (dk_at dksX2_place_17 7 rfl rfl)
theorem dX2_place_411 : decode cX2_place 411 = .ok (.iconst 2, 1) := dk_5 (dk_at dksX2_place_17 8 rfl rfl)
theorem dX2_place_412 : decode cX2_place 412 = .ok (.iastore, 1) := dk_79 (dk_at dksX2_place_17 9 rfl rfl)
theorem dX2_place_413 : decode cX2_place 413 = .ok (.return_, 1) := dk_177 (dk_at dksX2_place_17 10 rfl rfl)
abbrev cX2_cornerOne : ByteArray := prog_4_method_5_code
def yX2_cornerOne : MethodName := ⟨RX2, "cornerOne", "(I)V"⟩
def dkwX2_cornerOne_4 : List UInt8 := [42, 180, 0, 13, 4, 100, 27, 16, 8, 182, 0, 24, 177]
abbrev dktX2_cornerOne_4 : List UInt8 := dkwX2_cornerOne_4 ++ []
def dkwX2_cornerOne_3 : List UInt8 := [4, 100, 27, 16, 6, 182, 0, 24, 42, 5, 42, 180, 0, 13, 4, 100, 27, 16, 7, 182, 0, 24, 42, 6]
abbrev dktX2_cornerOne_3 : List UInt8 := dkwX2_cornerOne_3 ++ dktX2_cornerOne_4
def dkwX2_cornerOne_2 : List UInt8 := [27, 7, 182, 0, 24, 42, 3, 42, 180, 0, 13, 4, 100, 27, 8, 182, 0, 24, 42, 4, 42, 180, 0, 13]
abbrev dktX2_cornerOne_2 : List UInt8 := dkwX2_cornerOne_2 ++ dktX2_cornerOne_3
def dkwX2_cornerOne_1 : List UInt8 := [182, 0, 24, 42, 42, 180, 0, 13, 4, 100, 5, 27, 6, 182, 0, 24, 42, 3, 42, 180, 0, 13, 5, 100]
abbrev dktX2_cornerOne_1 : List UInt8 := dkwX2_cornerOne_1 ++ dktX2_cornerOne_2
def dkwX2_cornerOne_0 : List UInt8 := [42, 42, 180, 0, 13, 4, 100, 3, 27, 4, 182, 0, 24, 42, 42, 180, 0, 13, 4, 100, 4, 27, 5]
abbrev dktX2_cornerOne_0 : List UInt8 := dkwX2_cornerOne_0 ++ dktX2_cornerOne_1
theorem dksX2_cornerOne_0 : cX2_cornerOne.data.toList.drop 0 = dktX2_cornerOne_0 := by decide +kernel
theorem dksX2_cornerOne_1 : cX2_cornerOne.data.toList.drop 23 = dktX2_cornerOne_1 := dk_seg dksX2_cornerOne_0 23 rfl rfl
theorem dksX2_cornerOne_2 : cX2_cornerOne.data.toList.drop 47 = dktX2_cornerOne_2 := dk_seg dksX2_cornerOne_1 24 rfl rfl
theorem dksX2_cornerOne_3 : cX2_cornerOne.data.toList.drop 71 = dktX2_cornerOne_3 := dk_seg dksX2_cornerOne_2 24 rfl rfl
theorem dksX2_cornerOne_4 : cX2_cornerOne.data.toList.drop 95 = dktX2_cornerOne_4 := dk_seg dksX2_cornerOne_3 24 rfl rfl
theorem dX2_cornerOne_0 : decode cX2_cornerOne 0 = .ok (.aload_n 0, 1) := dk_42 (dk_at dksX2_cornerOne_0 0 rfl rfl)
theorem dX2_cornerOne_1 : decode cX2_cornerOne 1 = .ok (.aload_n 0, 1) := dk_42 (dk_at dksX2_cornerOne_0 1 rfl rfl)
theorem dX2_cornerOne_2 : decode cX2_cornerOne 2 = .ok (.getfield 13, 3) := dk_180 0 13 (dk_at dksX2_cornerOne_0 2 rfl rfl)
theorem dX2_cornerOne_5 : decode cX2_cornerOne 5 = .ok (.iconst 1, 1) := dk_4 (dk_at dksX2_cornerOne_0 5 rfl rfl)
theorem dX2_cornerOne_6 : decode cX2_cornerOne 6 = .ok (.isub, 1) := dk_100 (dk_at dksX2_cornerOne_0 6 rfl rfl)
theorem dX2_cornerOne_7 : decode cX2_cornerOne 7 = .ok (.iconst 0, 1) := dk_3 (dk_at dksX2_cornerOne_0 7 rfl rfl)
theorem dX2_cornerOne_8 : decode cX2_cornerOne 8 = .ok (.iload_n 1, 1) := dk_27 (dk_at dksX2_cornerOne_0 8 rfl rfl)
theorem dX2_cornerOne_9 : decode cX2_cornerOne 9 = .ok (.iconst 1, 1) := dk_4 (dk_at dksX2_cornerOne_0 9 rfl rfl)
theorem dX2_cornerOne_10 : decode cX2_cornerOne 10 = .ok (.invokevirtual 24, 3) := dk_182 0 24 (dk_at dksX2_cornerOne_0 10 rfl rfl)
theorem dX2_cornerOne_13 : decode cX2_cornerOne 13 = .ok (.aload_n 0, 1) := dk_42 (dk_at dksX2_cornerOne_0 13 rfl rfl)
theorem dX2_cornerOne_14 : decode cX2_cornerOne 14 = .ok (.aload_n 0, 1) := dk_42 (dk_at dksX2_cornerOne_0 14 rfl rfl)
theorem dX2_cornerOne_15 : decode cX2_cornerOne 15 = .ok (.getfield 13, 3) := dk_180 0 13 (dk_at dksX2_cornerOne_0 15 rfl rfl)
theorem dX2_cornerOne_18 : decode cX2_cornerOne 18 = .ok (.iconst 1, 1) := dk_4 (dk_at dksX2_cornerOne_0 18 rfl rfl)
theorem dX2_cornerOne_19 : decode cX2_cornerOne 19 = .ok (.isub, 1) := dk_100 (dk_at dksX2_cornerOne_0 19 rfl rfl)
theorem dX2_cornerOne_20 : decode cX2_cornerOne 20 = .ok (.iconst 1, 1) := dk_4 (dk_at dksX2_cornerOne_0 20 rfl rfl)
theorem dX2_cornerOne_21 : decode cX2_cornerOne 21 = .ok (.iload_n 1, 1) := dk_27 (dk_at dksX2_cornerOne_0 21 rfl rfl)
theorem dX2_cornerOne_22 : decode cX2_cornerOne 22 = .ok (.iconst 2, 1) := dk_5 (dk_at dksX2_cornerOne_0 22 rfl rfl)
theorem dX2_cornerOne_23 : decode cX2_cornerOne 23 = .ok (.invokevirtual 24, 3) := dk_182 0 24 (dk_at dksX2_cornerOne_1 0 rfl rfl)
theorem dX2_cornerOne_26 : decode cX2_cornerOne 26 = .ok (.aload_n 0, 1) := dk_42 (dk_at dksX2_cornerOne_1 3 rfl rfl)
theorem dX2_cornerOne_27 : decode cX2_cornerOne 27 = .ok (.aload_n 0, 1) := dk_42 (dk_at dksX2_cornerOne_1 4 rfl rfl)
theorem dX2_cornerOne_28 : decode cX2_cornerOne 28 = .ok (.getfield 13, 3) := dk_180 0 13 (dk_at dksX2_cornerOne_1 5 rfl rfl)
theorem dX2_cornerOne_31 : decode cX2_cornerOne 31 = .ok (.iconst 1, 1) := dk_4 (dk_at dksX2_cornerOne_1 8 rfl rfl)
theorem dX2_cornerOne_32 : decode cX2_cornerOne 32 = .ok (.isub, 1) := dk_100 (dk_at dksX2_cornerOne_1 9 rfl rfl)
theorem dX2_cornerOne_33 : decode cX2_cornerOne 33 = .ok (.iconst 2, 1) := dk_5 (dk_at dksX2_cornerOne_1 10 rfl rfl)
theorem dX2_cornerOne_34 : decode cX2_cornerOne 34 = .ok (.iload_n 1, 1) := dk_27 (dk_at dksX2_cornerOne_1 11 rfl rfl)
theorem dX2_cornerOne_35 : decode cX2_cornerOne 35 = .ok (.iconst 3, 1) := dk_6 (dk_at dksX2_cornerOne_1 12 rfl rfl)
theorem dX2_cornerOne_36 : decode cX2_cornerOne 36 = .ok (.invokevirtual 24, 3) := dk_182 0 24 (dk_at dksX2_cornerOne_1 13 rfl rfl)
theorem dX2_cornerOne_39 : decode cX2_cornerOne 39 = .ok (.aload_n 0, 1) := dk_42 (dk_at dksX2_cornerOne_1 16 rfl rfl)
theorem dX2_cornerOne_40 : decode cX2_cornerOne 40 = .ok (.iconst 0, 1) := dk_3 (dk_at dksX2_cornerOne_1 17 rfl rfl)
theorem dX2_cornerOne_41 : decode cX2_cornerOne 41 = .ok (.aload_n 0, 1) := dk_42 (dk_at dksX2_cornerOne_1 18 rfl rfl)
theorem dX2_cornerOne_42 : decode cX2_cornerOne 42 = .ok (.getfield 13, 3) := dk_180 0 13 (dk_at dksX2_cornerOne_1 19 rfl rfl)
theorem dX2_cornerOne_45 : decode cX2_cornerOne 45 = .ok (.iconst 2, 1) := dk_5 (dk_at dksX2_cornerOne_1 22 rfl rfl)
theorem dX2_cornerOne_46 : decode cX2_cornerOne 46 = .ok (.isub, 1) := dk_100 (dk_at dksX2_cornerOne_1 23 rfl rfl)
theorem dX2_cornerOne_47 : decode cX2_cornerOne 47 = .ok (.iload_n 1, 1) := dk_27 (dk_at dksX2_cornerOne_2 0 rfl rfl)
theorem dX2_cornerOne_48 : decode cX2_cornerOne 48 = .ok (.iconst 4, 1) := dk_7 (dk_at dksX2_cornerOne_2 1 rfl rfl)
theorem dX2_cornerOne_49 : decode cX2_cornerOne 49 = .ok (.invokevirtual 24, 3) := dk_182 0 24 (dk_at dksX2_cornerOne_2 2 rfl rfl)
theorem dX2_cornerOne_52 : decode cX2_cornerOne 52 = .ok (.aload_n 0, 1) := dk_42 (dk_at dksX2_cornerOne_2 5 rfl rfl)
theorem dX2_cornerOne_53 : decode cX2_cornerOne 53 = .ok (.iconst 0, 1) := dk_3 (dk_at dksX2_cornerOne_2 6 rfl rfl)
theorem dX2_cornerOne_54 : decode cX2_cornerOne 54 = .ok (.aload_n 0, 1) := dk_42 (dk_at dksX2_cornerOne_2 7 rfl rfl)
theorem dX2_cornerOne_55 : decode cX2_cornerOne 55 = .ok (.getfield 13, 3) := dk_180 0 13 (dk_at dksX2_cornerOne_2 8 rfl rfl)
theorem dX2_cornerOne_58 : decode cX2_cornerOne 58 = .ok (.iconst 1, 1) := dk_4 (dk_at dksX2_cornerOne_2 11 rfl rfl)
theorem dX2_cornerOne_59 : decode cX2_cornerOne 59 = .ok (.isub, 1) := dk_100 (dk_at dksX2_cornerOne_2 12 rfl rfl)
theorem dX2_cornerOne_60 : decode cX2_cornerOne 60 = .ok (.iload_n 1, 1) := dk_27 (dk_at dksX2_cornerOne_2 13 rfl rfl)
theorem dX2_cornerOne_61 : decode cX2_cornerOne 61 = .ok (.iconst 5, 1) := dk_8 (dk_at dksX2_cornerOne_2 14 rfl rfl)
theorem dX2_cornerOne_62 : decode cX2_cornerOne 62 = .ok (.invokevirtual 24, 3) := dk_182 0 24 (dk_at dksX2_cornerOne_2 15 rfl rfl)
theorem dX2_cornerOne_65 : decode cX2_cornerOne 65 = .ok (.aload_n 0, 1) := dk_42 (dk_at dksX2_cornerOne_2 18 rfl rfl)
theorem dX2_cornerOne_66 : decode cX2_cornerOne 66 = .ok (.iconst 1, 1) := dk_4 (dk_at dksX2_cornerOne_2 19 rfl rfl)
theorem dX2_cornerOne_67 : decode cX2_cornerOne 67 = .ok (.aload_n 0, 1) := dk_42 (dk_at dksX2_cornerOne_2 20 rfl rfl)
theorem dX2_cornerOne_68 : decode cX2_cornerOne 68 = .ok (.getfield 13, 3) := dk_180 0 13 (dk_at dksX2_cornerOne_2 21 rfl rfl)
theorem dX2_cornerOne_71 : decode cX2_cornerOne 71 = .ok (.iconst 1, 1) := dk_4 (dk_at dksX2_cornerOne_3 0 rfl rfl)
theorem dX2_cornerOne_72 : decode cX2_cornerOne 72 = .ok (.isub, 1) := dk_100 (dk_at dksX2_cornerOne_3 1 rfl rfl)
theorem dX2_cornerOne_73 : decode cX2_cornerOne 73 = .ok (.iload_n 1, 1) := dk_27 (dk_at dksX2_cornerOne_3 2 rfl rfl)
theorem dX2_cornerOne_74 : decode cX2_cornerOne 74 = .ok (.bipush 6, 2) := dk_16 6 (dk_at dksX2_cornerOne_3 3 rfl rfl)
theorem dX2_cornerOne_76 : decode cX2_cornerOne 76 = .ok (.invokevirtual 24, 3) := dk_182 0 24 (dk_at dksX2_cornerOne_3 5 rfl rfl)
theorem dX2_cornerOne_79 : decode cX2_cornerOne 79 = .ok (.aload_n 0, 1) := dk_42 (dk_at dksX2_cornerOne_3 8 rfl rfl)
theorem dX2_cornerOne_80 : decode cX2_cornerOne 80 = .ok (.iconst 2, 1) := dk_5 (dk_at dksX2_cornerOne_3 9 rfl rfl)
theorem dX2_cornerOne_81 : decode cX2_cornerOne 81 = .ok (.aload_n 0, 1) := dk_42 (dk_at dksX2_cornerOne_3 10 rfl rfl)
theorem dX2_cornerOne_82 : decode cX2_cornerOne 82 = .ok (.getfield 13, 3) := dk_180 0 13 (dk_at dksX2_cornerOne_3 11 rfl rfl)
theorem dX2_cornerOne_85 : decode cX2_cornerOne 85 = .ok (.iconst 1, 1) := dk_4 (dk_at dksX2_cornerOne_3 14 rfl rfl)
theorem dX2_cornerOne_86 : decode cX2_cornerOne 86 = .ok (.isub, 1) := dk_100 (dk_at dksX2_cornerOne_3 15 rfl rfl)
theorem dX2_cornerOne_87 : decode cX2_cornerOne 87 = .ok (.iload_n 1, 1) := dk_27 (dk_at dksX2_cornerOne_3 16 rfl rfl)
theorem dX2_cornerOne_88 : decode cX2_cornerOne 88 = .ok (.bipush 7, 2) := dk_16 7 (dk_at dksX2_cornerOne_3 17 rfl rfl)
theorem dX2_cornerOne_90 : decode cX2_cornerOne 90 = .ok (.invokevirtual 24, 3) := dk_182 0 24 (dk_at dksX2_cornerOne_3 19 rfl rfl)
theorem dX2_cornerOne_93 : decode cX2_cornerOne 93 = .ok (.aload_n 0, 1) := dk_42 (dk_at dksX2_cornerOne_3 22 rfl rfl)
theorem dX2_cornerOne_94 : decode cX2_cornerOne 94 = .ok (.iconst 3, 1) := dk_6 (dk_at dksX2_cornerOne_3 23 rfl rfl)
theorem dX2_cornerOne_95 : decode cX2_cornerOne 95 = .ok (.aload_n 0, 1) := dk_42 (dk_at dksX2_cornerOne_4 0 rfl rfl)
theorem dX2_cornerOne_96 : decode cX2_cornerOne 96 = .ok (.getfield 13, 3) := dk_180 0 13 (dk_at dksX2_cornerOne_4 1 rfl rfl)
theorem dX2_cornerOne_99 : decode cX2_cornerOne 99 = .ok (.iconst 1, 1) := dk_4 (dk_at dksX2_cornerOne_4 4 rfl rfl)
theorem dX2_cornerOne_100 : decode cX2_cornerOne 100 = .ok (.isub, 1) := dk_100 (dk_at dksX2_cornerOne_4 5 rfl rfl)
theorem dX2_cornerOne_101 : decode cX2_cornerOne 101 = .ok (.iload_n 1, 1) := dk_27 (dk_at dksX2_cornerOne_4 6 rfl rfl)
theorem dX2_cornerOne_102 : decode cX2_cornerOne 102 = .ok (.bipush 8, 2) := dk_16 8 (dk_at dksX2_cornerOne_4 7 rfl rfl)
theorem dX2_cornerOne_104 : decode cX2_cornerOne 104 = .ok (.invokevirtual 24, 3) := dk_182 0 24 (dk_at dksX2_cornerOne_4 9 rfl rfl)
theorem dX2_cornerOne_107 : decode cX2_cornerOne 107 = .ok (.return_, 1) := dk_177 (dk_at dksX2_cornerOne_4 12 rfl rfl)
abbrev cX2_module : ByteArray := prog_4_method_3_code
def yX2_module : MethodName := ⟨RX2, "module", "(IIII)V"⟩
def dkwX2_module_4 : List UInt8 := [79, 177]
abbrev dktX2_module_4 : List UInt8 := dkwX2_module_4 ++ []
def dkwX2_module_3 : List UInt8 := [42, 180, 0, 13, 104, 21, 6, 96, 4, 42, 180, 0, 20, 29, 46, 16, 8, 21, 4, 100, 122, 4, 126, 96]
abbrev dktX2_module_3 : List UInt8 := dkwX2_module_3 ++ dktX2_module_4
def dkwX2_module_2 : List UInt8 := [54, 6, 21, 5, 7, 42, 180, 0, 13, 7, 96, 16, 8, 112, 100, 96, 54, 5, 42, 180, 0, 17, 21, 5]
abbrev dktX2_module_2 : List UInt8 := dkwX2_module_2 ++ dktX2_module_3
def dkwX2_module_1 : List UInt8 := [180, 0, 13, 7, 96, 16, 8, 112, 100, 96, 54, 6, 21, 6, 156, 0, 28, 21, 6, 42, 180, 0, 13, 96]
abbrev dktX2_module_1 : List UInt8 := dkwX2_module_1 ++ dktX2_module_2
def dkwX2_module_0 : List UInt8 := [27, 54, 5, 28, 54, 6, 21, 5, 156, 0, 28, 21, 5, 42, 180, 0, 13, 96, 54, 5, 21, 6, 7, 42]
abbrev dktX2_module_0 : List UInt8 := dkwX2_module_0 ++ dktX2_module_1
theorem dksX2_module_0 : cX2_module.data.toList.drop 0 = dktX2_module_0 := by decide +kernel
theorem dksX2_module_1 : cX2_module.data.toList.drop 24 = dktX2_module_1 := dk_seg dksX2_module_0 24 rfl rfl
theorem dksX2_module_2 : cX2_module.data.toList.drop 48 = dktX2_module_2 := dk_seg dksX2_module_1 24 rfl rfl
theorem dksX2_module_3 : cX2_module.data.toList.drop 72 = dktX2_module_3 := dk_seg dksX2_module_2 24 rfl rfl
theorem dksX2_module_4 : cX2_module.data.toList.drop 96 = dktX2_module_4 := dk_seg dksX2_module_3 24 rfl rfl
theorem dX2_module_0 : decode cX2_module 0 = .ok (.iload_n 1, 1) := dk_27 (dk_at dksX2_module_0 0 rfl rfl)
theorem dX2_module_1 : decode cX2_module 1 = .ok (.istore 5, 2) := dk_54 5 (dk_at dksX2_module_0 1 rfl rfl)
theorem dX2_module_3 : decode cX2_module 3 = .ok (.iload_n 2, 1) := dk_28 (dk_at dksX2_module_0 3 rfl rfl)
theorem dX2_module_4 : decode cX2_module 4 = .ok (.istore 6, 2) := dk_54 6 (dk_at dksX2_module_0 4 rfl rfl)
theorem dX2_module_6 : decode cX2_module 6 = .ok (.iload 5, 2) := dk_21 5 (dk_at dksX2_module_0 6 rfl rfl)
theorem dX2_module_8 : decode cX2_module 8 = .ok (.ifCond .ge 28, 3) := dk_156 0 28 (dk_at dksX2_module_0 8 rfl rfl)
theorem dX2_module_11 : decode cX2_module 11 = .ok (.iload 5, 2) := dk_21 5 (dk_at dksX2_module_0 11 rfl rfl)
theorem dX2_module_13 : decode cX2_module 13 = .ok (.aload_n 0, 1) := dk_42 (dk_at dksX2_module_0 13 rfl rfl)
theorem dX2_module_14 : decode cX2_module 14 = .ok (.getfield 13, 3) := dk_180 0 13 (dk_at dksX2_module_0 14 rfl rfl)
theorem dX2_module_17 : decode cX2_module 17 = .ok (.iadd, 1) := dk_96 (dk_at dksX2_module_0 17 rfl rfl)
theorem dX2_module_18 : decode cX2_module 18 = .ok (.istore 5, 2) := dk_54 5 (dk_at dksX2_module_0 18 rfl rfl)
theorem dX2_module_20 : decode cX2_module 20 = .ok (.iload 6, 2) := dk_21 6 (dk_at dksX2_module_0 20 rfl rfl)
theorem dX2_module_22 : decode cX2_module 22 = .ok (.iconst 4, 1) := dk_7 (dk_at dksX2_module_0 22 rfl rfl)
theorem dX2_module_23 : decode cX2_module 23 = .ok (.aload_n 0, 1) := dk_42 (dk_at dksX2_module_0 23 rfl rfl)
theorem dX2_module_24 : decode cX2_module 24 = .ok (.getfield 13, 3) := dk_180 0 13 (dk_at dksX2_module_1 0 rfl rfl)
theorem dX2_module_27 : decode cX2_module 27 = .ok (.iconst 4, 1) := dk_7 (dk_at dksX2_module_1 3 rfl rfl)
theorem dX2_module_28 : decode cX2_module 28 = .ok (.iadd, 1) := dk_96 (dk_at dksX2_module_1 4 rfl rfl)
theorem dX2_module_29 : decode cX2_module 29 = .ok (.bipush 8, 2) := dk_16 8 (dk_at dksX2_module_1 5 rfl rfl)
theorem dX2_module_31 : decode cX2_module 31 = .ok (.irem, 1) := dk_112 (dk_at dksX2_module_1 7 rfl rfl)
theorem dX2_module_32 : decode cX2_module 32 = .ok (.isub, 1) := dk_100 (dk_at dksX2_module_1 8 rfl rfl)
theorem dX2_module_33 : decode cX2_module 33 = .ok (.iadd, 1) := dk_96 (dk_at dksX2_module_1 9 rfl rfl)
theorem dX2_module_34 : decode cX2_module 34 = .ok (.istore 6, 2) := dk_54 6 (dk_at dksX2_module_1 10 rfl rfl)
theorem dX2_module_36 : decode cX2_module 36 = .ok (.iload 6, 2) := dk_21 6 (dk_at dksX2_module_1 12 rfl rfl)
theorem dX2_module_38 : decode cX2_module 38 = .ok (.ifCond .ge 28, 3) := dk_156 0 28 (dk_at dksX2_module_1 14 rfl rfl)
theorem dX2_module_41 : decode cX2_module 41 = .ok (.iload 6, 2) := dk_21 6 (dk_at dksX2_module_1 17 rfl rfl)
theorem dX2_module_43 : decode cX2_module 43 = .ok (.aload_n 0, 1) := dk_42 (dk_at dksX2_module_1 19 rfl rfl)
theorem dX2_module_44 : decode cX2_module 44 = .ok (.getfield 13, 3) := dk_180 0 13 (dk_at dksX2_module_1 20 rfl rfl)
theorem dX2_module_47 : decode cX2_module 47 = .ok (.iadd, 1) := dk_96 (dk_at dksX2_module_1 23 rfl rfl)
theorem dX2_module_48 : decode cX2_module 48 = .ok (.istore 6, 2) := dk_54 6 (dk_at dksX2_module_2 0 rfl rfl)
theorem dX2_module_50 : decode cX2_module 50 = .ok (.iload 5, 2) := dk_21 5 (dk_at dksX2_module_2 2 rfl rfl)
theorem dX2_module_52 : decode cX2_module 52 = .ok (.iconst 4, 1) := dk_7 (dk_at dksX2_module_2 4 rfl rfl)
theorem dX2_module_53 : decode cX2_module 53 = .ok (.aload_n 0, 1) := dk_42 (dk_at dksX2_module_2 5 rfl rfl)
theorem dX2_module_54 : decode cX2_module 54 = .ok (.getfield 13, 3) := dk_180 0 13 (dk_at dksX2_module_2 6 rfl rfl)
theorem dX2_module_57 : decode cX2_module 57 = .ok (.iconst 4, 1) := dk_7 (dk_at dksX2_module_2 9 rfl rfl)
theorem dX2_module_58 : decode cX2_module 58 = .ok (.iadd, 1) := dk_96 (dk_at dksX2_module_2 10 rfl rfl)
theorem dX2_module_59 : decode cX2_module 59 = .ok (.bipush 8, 2) := dk_16 8 (dk_at dksX2_module_2 11 rfl rfl)
theorem dX2_module_61 : decode cX2_module 61 = .ok (.irem, 1) := dk_112 (dk_at dksX2_module_2 13 rfl rfl)
theorem dX2_module_62 : decode cX2_module 62 = .ok (.isub, 1) := dk_100 (dk_at dksX2_module_2 14 rfl rfl)
theorem dX2_module_63 : decode cX2_module 63 = .ok (.iadd, 1) := dk_96 (dk_at dksX2_module_2 15 rfl rfl)
theorem dX2_module_64 : decode cX2_module 64 = .ok (.istore 5, 2) := dk_54 5 (dk_at dksX2_module_2 16 rfl rfl)
theorem dX2_module_66 : decode cX2_module 66 = .ok (.aload_n 0, 1) := dk_42 (dk_at dksX2_module_2 18 rfl rfl)
theorem dX2_module_67 : decode cX2_module 67 = .ok (.getfield 17, 3) := dk_180 0 17 (dk_at dksX2_module_2 19 rfl rfl)
theorem dX2_module_70 : decode cX2_module 70 = .ok (.iload 5, 2) := dk_21 5 (dk_at dksX2_module_2 22 rfl rfl)
theorem dX2_module_72 : decode cX2_module 72 = .ok (.aload_n 0, 1) := dk_42 (dk_at dksX2_module_3 0 rfl rfl)
theorem dX2_module_73 : decode cX2_module 73 = .ok (.getfield 13, 3) := dk_180 0 13 (dk_at dksX2_module_3 1 rfl rfl)
theorem dX2_module_76 : decode cX2_module 76 = .ok (.imul, 1) := dk_104 (dk_at dksX2_module_3 4 rfl rfl)
theorem dX2_module_77 : decode cX2_module 77 = .ok (.iload 6, 2) := dk_21 6 (dk_at dksX2_module_3 5 rfl rfl)
theorem dX2_module_79 : decode cX2_module 79 = .ok (.iadd, 1) := dk_96 (dk_at dksX2_module_3 7 rfl rfl)
theorem dX2_module_80 : decode cX2_module 80 = .ok (.iconst 1, 1) := dk_4 (dk_at dksX2_module_3 8 rfl rfl)
theorem dX2_module_81 : decode cX2_module 81 = .ok (.aload_n 0, 1) := dk_42 (dk_at dksX2_module_3 9 rfl rfl)
theorem dX2_module_82 : decode cX2_module 82 = .ok (.getfield 20, 3) := dk_180 0 20 (dk_at dksX2_module_3 10 rfl rfl)
theorem dX2_module_85 : decode cX2_module 85 = .ok (.iload_n 3, 1) := dk_29 (dk_at dksX2_module_3 13 rfl rfl)
theorem dX2_module_86 : decode cX2_module 86 = .ok (.iaload, 1) := dk_46 (dk_at dksX2_module_3 14 rfl rfl)
theorem dX2_module_87 : decode cX2_module 87 = .ok (.bipush 8, 2) := dk_16 8 (dk_at dksX2_module_3 15 rfl rfl)
theorem dX2_module_89 : decode cX2_module 89 = .ok (.iload 4, 2) := dk_21 4 (dk_at dksX2_module_3 17 rfl rfl)
theorem dX2_module_91 : decode cX2_module 91 = .ok (.isub, 1) := dk_100 (dk_at dksX2_module_3 19 rfl rfl)
theorem dX2_module_92 : decode cX2_module 92 = .ok (.ishr, 1) := dk_122 (dk_at dksX2_module_3 20 rfl rfl)
theorem dX2_module_93 : decode cX2_module 93 = .ok (.iconst 1, 1) := dk_4 (dk_at dksX2_module_3 21 rfl rfl)
theorem dX2_module_94 : decode cX2_module 94 = .ok (.iand, 1) := dk_126 (dk_at dksX2_module_3 22 rfl rfl)
theorem dX2_module_95 : decode cX2_module 95 = .ok (.iadd, 1) := dk_96 (dk_at dksX2_module_3 23 rfl rfl)
theorem dX2_module_96 : decode cX2_module 96 = .ok (.iastore, 1) := dk_79 (dk_at dksX2_module_4 0 rfl rfl)
theorem dX2_module_97 : decode cX2_module 97 = .ok (.return_, 1) := dk_177 (dk_at dksX2_module_4 1 rfl rfl)
abbrev cX2_cornerTwo : ByteArray := prog_4_method_6_code
def yX2_cornerTwo : MethodName := ⟨RX2, "cornerTwo", "(I)V"⟩
def dkwX2_cornerTwo_4 : List UInt8 := [42, 180, 0, 13, 4, 100, 27, 16, 8, 182, 0, 24, 177]
abbrev dktX2_cornerTwo_4 : List UInt8 := dkwX2_cornerTwo_4 ++ []
def dkwX2_cornerTwo_3 : List UInt8 := [5, 100, 27, 16, 6, 182, 0, 24, 42, 3, 42, 180, 0, 13, 4, 100, 27, 16, 7, 182, 0, 24, 42, 4]
abbrev dktX2_cornerTwo_3 : List UInt8 := dkwX2_cornerTwo_3 ++ dktX2_cornerTwo_4
def dkwX2_cornerTwo_2 : List UInt8 := [27, 7, 182, 0, 24, 42, 3, 42, 180, 0, 13, 6, 100, 27, 8, 182, 0, 24, 42, 3, 42, 180, 0, 13]
abbrev dktX2_cornerTwo_2 : List UInt8 := dkwX2_cornerTwo_2 ++ dktX2_cornerTwo_3
def dkwX2_cornerTwo_1 : List UInt8 := [182, 0, 24, 42, 42, 180, 0, 13, 4, 100, 3, 27, 6, 182, 0, 24, 42, 3, 42, 180, 0, 13, 7, 100]
abbrev dktX2_cornerTwo_1 : List UInt8 := dkwX2_cornerTwo_1 ++ dktX2_cornerTwo_2
def dkwX2_cornerTwo_0 : List UInt8 := [42, 42, 180, 0, 13, 6, 100, 3, 27, 4, 182, 0, 24, 42, 42, 180, 0, 13, 5, 100, 3, 27, 5]
abbrev dktX2_cornerTwo_0 : List UInt8 := dkwX2_cornerTwo_0 ++ dktX2_cornerTwo_1
theorem dksX2_cornerTwo_0 : cX2_cornerTwo.data.toList.drop 0 = dktX2_cornerTwo_0 := by decide +kernel
theorem dksX2_cornerTwo_1 : cX2_cornerTwo.data.toList.drop 23 = dktX2_cornerTwo_1 := dk_seg dksX2_cornerTwo_0 23 rfl rfl
theorem dksX2_cornerTwo_2 : cX2_cornerTwo.data.toList.drop 47 = dktX2_cornerTwo_2 := dk_seg dksX2_cornerTwo_1 24 rfl rfl
theorem dksX2_cornerTwo_3 : cX2_cornerTwo.data.toList.drop 71 = dktX2_cornerTwo_3 := dk_seg dksX2_cornerTwo_2 24 rfl rfl
theorem dksX2_cornerTwo_4 : cX2_cornerTwo.data.toList.drop 95 = dktX2_cornerTwo_4 := dk_seg dksX2_cornerTwo_3 24 rfl rfl
theorem dX2_cornerTwo_0 : decode cX2_cornerTwo 0 = .ok (.aload_n 0, 1) := dk_42 (dk_at dksX2_cornerTwo_0 0 rfl rfl)
theorem dX2_cornerTwo_1 : decode cX2_cornerTwo 1 = .ok (.aload_n 0, 1) := dk_42 (dk_at dksX2_cornerTwo_0 1 rfl rfl)
theorem dX2_cornerTwo_2 : decode cX2_cornerTwo 2 = .ok (.getfield 13, 3) := dk_180 0 13 (dk_at dksX2_cornerTwo_0 2 rfl rfl)
theorem dX2_cornerTwo_5 : decode cX2_cornerTwo 5 = .ok (.iconst 3, 1) := dk_6 (dk_at dksX2_cornerTwo_0 5 rfl rfl)
theorem dX2_cornerTwo_6 : decode cX2_cornerTwo 6 = .ok (.isub, 1) := dk_100 (dk_at dksX2_cornerTwo_0 6 rfl rfl)
theorem dX2_cornerTwo_7 : decode cX2_cornerTwo 7 = .ok (.iconst 0, 1) := dk_3 (dk_at dksX2_cornerTwo_0 7 rfl rfl)
theorem dX2_cornerTwo_8 : decode cX2_cornerTwo 8 = .ok (.iload_n 1, 1) := dk_27 (dk_at dksX2_cornerTwo_0 8 rfl rfl)
theorem dX2_cornerTwo_9 : decode cX2_cornerTwo 9 = .ok (.iconst 1, 1) := dk_4 (dk_at dksX2_cornerTwo_0 9 rfl rfl)
theorem dX2_cornerTwo_10 : decode cX2_cornerTwo 10 = .ok (.invokevirtual 24, 3) := dk_182 0 24 (dk_at dksX2_cornerTwo_0 10 rfl rfl)
theorem dX2_cornerTwo_13 : decode cX2_cornerTwo 13 = .ok (.aload_n 0, 1) := dk_42 (dk_at dksX2_cornerTwo_0 13 rfl rfl)
theorem dX2_cornerTwo_14 : decode cX2_cornerTwo 14 = .ok (.aload_n 0, 1) := dk_42 (dk_at dksX2_cornerTwo_0 14 rfl rfl)
theorem dX2_cornerTwo_15 : decode cX2_cornerTwo 15 = .ok (.getfield 13, 3) := dk_180 0 13 (dk_at dksX2_cornerTwo_0 15 rfl rfl)
theorem dX2_cornerTwo_18 : decode cX2_cornerTwo 18 = .ok (.iconst 2, 1) := dk_5 (dk_at dksX2_cornerTwo_0 18 rfl rfl)
theorem dX2_cornerTwo_19 : decode cX2_cornerTwo 19 = .ok (.isub, 1) := dk_100 (dk_at dksX2_cornerTwo_0 19 rfl rfl)
theorem dX2_cornerTwo_20 : decode cX2_cornerTwo 20 = .ok (.iconst 0, 1) := dk_3 (dk_at dksX2_cornerTwo_0 20 rfl rfl)
theorem dX2_cornerTwo_21 : decode cX2_cornerTwo 21 = .ok (.iload_n 1, 1) := dk_27 (dk_at dksX2_cornerTwo_0 21 rfl rfl)
theorem dX2_cornerTwo_22 : decode cX2_cornerTwo 22 = .ok (.iconst 2, 1) := dk_5 (dk_at dksX2_cornerTwo_0 22 rfl rfl)
theorem dX2_cornerTwo_23 : decode cX2_cornerTwo 23 = .ok (.invokevirtual 24, 3) := dk_182 0 24 (dk_at dksX2_cornerTwo_1 0 rfl rfl)
theorem dX2_cornerTwo_26 : decode cX2_cornerTwo 26 = .ok (.aload_n 0, 1) := dk_42 (dk_at dksX2_cornerTwo_1 3 rfl rfl)
theorem dX2_cornerTwo_27 : decode cX2_cornerTwo 27 = .ok (.aload_n 0, 1) := dk_42 (dk_at dksX2_cornerTwo_1 4 rfl rfl)
theorem dX2_cornerTwo_28 : decode cX2_cornerTwo 28 = .ok (.getfield 13, 3) := dk_180 0 13 (dk_at dksX2_cornerTwo_1 5 rfl rfl)
theorem dX2_cornerTwo_31 : decode cX2_cornerTwo 31 = .ok (.iconst 1, 1) := dk_4 (dk_at dksX2_cornerTwo_1 8 rfl rfl)
theorem dX2_cornerTwo_32 : decode cX2_cornerTwo 32 = .ok (.isub, 1) := dk_100 (dk_at dksX2_cornerTwo_1 9 rfl rfl)
theorem dX2_cornerTwo_33 : decode cX2_cornerTwo 33 = .ok (.iconst 0, 1) := dk_3 (dk_at dksX2_cornerTwo_1 10 rfl rfl)
theorem dX2_cornerTwo_34 : decode cX2_cornerTwo 34 = .ok (.iload_n 1, 1) := dk_27 (dk_at dksX2_cornerTwo_1 11 rfl rfl)
theorem dX2_cornerTwo_35 : decode cX2_cornerTwo 35 = .ok (.iconst 3, 1) := dk_6 (dk_at dksX2_cornerTwo_1 12 rfl rfl)
theorem dX2_cornerTwo_36 : decode cX2_cornerTwo 36 = .ok (.invokevirtual 24, 3) := dk_182 0 24 (dk_at dksX2_cornerTwo_1 13 rfl rfl)
theorem dX2_cornerTwo_39 : decode cX2_cornerTwo 39 = .ok (.aload_n 0, 1) := dk_42 (dk_at dksX2_cornerTwo_1 16 rfl rfl)
theorem dX2_cornerTwo_40 : decode cX2_cornerTwo 40 = .ok (.iconst 0, 1) := dk_3 (dk_at dksX2_cornerTwo_1 17 rfl rfl)
theorem dX2_cornerTwo_41 : decode cX2_cornerTwo 41 = .ok (.aload_n 0, 1) := dk_42 (dk_at dksX2_cornerTwo_1 18 rfl rfl)
theorem dX2_cornerTwo_42 : decode cX2_cornerTwo 42 = .ok (.getfield 13, 3) := dk_180 0 13 (dk_at dksX2_cornerTwo_1 19 rfl rfl)
theorem dX2_cornerTwo_45 : decode cX2_cornerTwo 45 = .ok (.iconst 4, 1) := dk_7 (dk_at dksX2_cornerTwo_1 22 rfl rfl)
theorem dX2_cornerTwo_46 : decode cX2_cornerTwo 46 = .ok (.isub, 1) := dk_100 (dk_at dksX2_cornerTwo_1 23 rfl rfl)
theorem dX2_cornerTwo_47 : decode cX2_cornerTwo 47 = .ok (.iload_n 1, 1) := dk_27 (dk_at dksX2_cornerTwo_2 0 rfl rfl)
theorem dX2_cornerTwo_48 : decode cX2_cornerTwo 48 = .ok (.iconst 4, 1) := dk_7 (dk_at dksX2_cornerTwo_2 1 rfl rfl)
theorem dX2_cornerTwo_49 : decode cX2_cornerTwo 49 = .ok (.invokevirtual 24, 3) := dk_182 0 24 (dk_at dksX2_cornerTwo_2 2 rfl rfl)
theorem dX2_cornerTwo_52 : decode cX2_cornerTwo 52 = .ok (.aload_n 0, 1) := dk_42 (dk_at dksX2_cornerTwo_2 5 rfl rfl)
theorem dX2_cornerTwo_53 : decode cX2_cornerTwo 53 = .ok (.iconst 0, 1) := dk_3 (dk_at dksX2_cornerTwo_2 6 rfl rfl)
theorem dX2_cornerTwo_54 : decode cX2_cornerTwo 54 = .ok (.aload_n 0, 1) := dk_42 (dk_at dksX2_cornerTwo_2 7 rfl rfl)
theorem dX2_cornerTwo_55 : decode cX2_cornerTwo 55 = .ok (.getfield 13, 3) := dk_180 0 13 (dk_at dksX2_cornerTwo_2 8 rfl rfl)
theorem dX2_cornerTwo_58 : decode cX2_cornerTwo 58 = .ok (.iconst 3, 1) := dk_6 (dk_at dksX2_cornerTwo_2 11 rfl rfl)
theorem dX2_cornerTwo_59 : decode cX2_cornerTwo 59 = .ok (.isub, 1) := dk_100 (dk_at dksX2_cornerTwo_2 12 rfl rfl)
theorem dX2_cornerTwo_60 : decode cX2_cornerTwo 60 = .ok (.iload_n 1, 1) := dk_27 (dk_at dksX2_cornerTwo_2 13 rfl rfl)
theorem dX2_cornerTwo_61 : decode cX2_cornerTwo 61 = .ok (.iconst 5, 1) := dk_8 (dk_at dksX2_cornerTwo_2 14 rfl rfl)
theorem dX2_cornerTwo_62 : decode cX2_cornerTwo 62 = .ok (.invokevirtual 24, 3) := dk_182 0 24 (dk_at dksX2_cornerTwo_2 15 rfl rfl)
theorem dX2_cornerTwo_65 : decode cX2_cornerTwo 65 = .ok (.aload_n 0, 1) := dk_42 (dk_at dksX2_cornerTwo_2 18 rfl rfl)
theorem dX2_cornerTwo_66 : decode cX2_cornerTwo 66 = .ok (.iconst 0, 1) := dk_3 (dk_at dksX2_cornerTwo_2 19 rfl rfl)
theorem dX2_cornerTwo_67 : decode cX2_cornerTwo 67 = .ok (.aload_n 0, 1) := dk_42 (dk_at dksX2_cornerTwo_2 20 rfl rfl)
theorem dX2_cornerTwo_68 : decode cX2_cornerTwo 68 = .ok (.getfield 13, 3) := dk_180 0 13 (dk_at dksX2_cornerTwo_2 21 rfl rfl)
theorem dX2_cornerTwo_71 : decode cX2_cornerTwo 71 = .ok (.iconst 2, 1) := dk_5 (dk_at dksX2_cornerTwo_3 0 rfl rfl)
theorem dX2_cornerTwo_72 : decode cX2_cornerTwo 72 = .ok (.isub, 1) := dk_100 (dk_at dksX2_cornerTwo_3 1 rfl rfl)
theorem dX2_cornerTwo_73 : decode cX2_cornerTwo 73 = .ok (.iload_n 1, 1) := dk_27 (dk_at dksX2_cornerTwo_3 2 rfl rfl)
theorem dX2_cornerTwo_74 : decode cX2_cornerTwo 74 = .ok (.bipush 6, 2) := dk_16 6 (dk_at dksX2_cornerTwo_3 3 rfl rfl)
theorem dX2_cornerTwo_76 : decode cX2_cornerTwo 76 = .ok (.invokevirtual 24, 3) := dk_182 0 24 (dk_at dksX2_cornerTwo_3 5 rfl rfl)
theorem dX2_cornerTwo_79 : decode cX2_cornerTwo 79 = .ok (.aload_n 0, 1) := dk_42 (dk_at dksX2_cornerTwo_3 8 rfl rfl)
theorem dX2_cornerTwo_80 : decode cX2_cornerTwo 80 = .ok (.iconst 0, 1) := dk_3 (dk_at dksX2_cornerTwo_3 9 rfl rfl)
theorem dX2_cornerTwo_81 : decode cX2_cornerTwo 81 = .ok (.aload_n 0, 1) := dk_42 (dk_at dksX2_cornerTwo_3 10 rfl rfl)
theorem dX2_cornerTwo_82 : decode cX2_cornerTwo 82 = .ok (.getfield 13, 3) := dk_180 0 13 (dk_at dksX2_cornerTwo_3 11 rfl rfl)
theorem dX2_cornerTwo_85 : decode cX2_cornerTwo 85 = .ok (.iconst 1, 1) := dk_4 (dk_at dksX2_cornerTwo_3 14 rfl rfl)
theorem dX2_cornerTwo_86 : decode cX2_cornerTwo 86 = .ok (.isub, 1) := dk_100 (dk_at dksX2_cornerTwo_3 15 rfl rfl)
theorem dX2_cornerTwo_87 : decode cX2_cornerTwo 87 = .ok (.iload_n 1, 1) := dk_27 (dk_at dksX2_cornerTwo_3 16 rfl rfl)
theorem dX2_cornerTwo_88 : decode cX2_cornerTwo 88 = .ok (.bipush 7, 2) := dk_16 7 (dk_at dksX2_cornerTwo_3 17 rfl rfl)
theorem dX2_cornerTwo_90 : decode cX2_cornerTwo 90 = .ok (.invokevirtual 24, 3) := dk_182 0 24 (dk_at dksX2_cornerTwo_3 19 rfl rfl)
theorem dX2_cornerTwo_93 : decode cX2_cornerTwo 93 = .ok (.aload_n 0, 1) := dk_42 (dk_at dksX2_cornerTwo_3 22 rfl rfl)
theorem dX2_cornerTwo_94 : decode cX2_cornerTwo 94 = .ok (.iconst 1, 1) := dk_4 (dk_at dksX2_cornerTwo_3 23 rfl rfl)
theorem dX2_cornerTwo_95 : decode cX2_cornerTwo 95 = .ok (.aload_n 0, 1) := dk_42 (dk_at dksX2_cornerTwo_4 0 rfl rfl)
theorem dX2_cornerTwo_96 : decode cX2_cornerTwo 96 = .ok (.getfield 13, 3) := dk_180 0 13 (dk_at dksX2_cornerTwo_4 1 rfl rfl)
theorem dX2_cornerTwo_99 : decode cX2_cornerTwo 99 = .ok (.iconst 1, 1) := dk_4 (dk_at dksX2_cornerTwo_4 4 rfl rfl)
theorem dX2_cornerTwo_100 : decode cX2_cornerTwo 100 = .ok (.isub, 1) := dk_100 (dk_at dksX2_cornerTwo_4 5 rfl rfl)
theorem dX2_cornerTwo_101 : decode cX2_cornerTwo 101 = .ok (.iload_n 1, 1) := dk_27 (dk_at dksX2_cornerTwo_4 6 rfl rfl)
theorem dX2_cornerTwo_102 : decode cX2_cornerTwo 102 = .ok (.bipush 8, 2) := dk_16 8 (dk_at dksX2_cornerTwo_4 7 rfl rfl)
theorem dX2_cornerTwo_104 : decode cX2_cornerTwo 104 = .ok (.invokevirtual 24, 3) := dk_182 0 24 (dk_at dksX2_cornerTwo_4 9 rfl rfl)
theorem dX2_cornerTwo_107 : decode cX2_cornerTwo 107 = .ok (.return_, 1) := dk_177 (dk_at dksX2_cornerTwo_4 12 rfl rfl)
abbrev cX2_cornerThree : ByteArray := prog_4_method_7_code
def yX2_cornerThree : MethodName := ⟨RX2, "cornerThree", "(I)V"⟩
def dkwX2_cornerThree_4 : List UInt8 := [42, 180, 0, 13, 4, 100, 27, 16, 8, 182, 0, 24, 177]
abbrev dktX2_cornerThree_4 : List UInt8 := dkwX2_cornerThree_4 ++ []
def dkwX2_cornerThree_3 : List UInt8 := [4, 100, 27, 16, 6, 182, 0, 24, 42, 5, 42, 180, 0, 13, 4, 100, 27, 16, 7, 182, 0, 24, 42, 6]
abbrev dktX2_cornerThree_3 : List UInt8 := dkwX2_cornerThree_3 ++ dktX2_cornerThree_4
def dkwX2_cornerThree_2 : List UInt8 := [27, 7, 182, 0, 24, 42, 3, 42, 180, 0, 13, 4, 100, 27, 8, 182, 0, 24, 42, 4, 42, 180, 0, 13]
abbrev dktX2_cornerThree_2 : List UInt8 := dkwX2_cornerThree_2 ++ dktX2_cornerThree_3
def dkwX2_cornerThree_1 : List UInt8 := [182, 0, 24, 42, 42, 180, 0, 13, 4, 100, 3, 27, 6, 182, 0, 24, 42, 3, 42, 180, 0, 13, 5, 100]
abbrev dktX2_cornerThree_1 : List UInt8 := dkwX2_cornerThree_1 ++ dktX2_cornerThree_2
def dkwX2_cornerThree_0 : List UInt8 := [42, 42, 180, 0, 13, 6, 100, 3, 27, 4, 182, 0, 24, 42, 42, 180, 0, 13, 5, 100, 3, 27, 5]
abbrev dktX2_cornerThree_0 : List UInt8 := dkwX2_cornerThree_0 ++ dktX2_cornerThree_1
theorem dksX2_cornerThree_0 : cX2_cornerThree.data.toList.drop 0 = dktX2_cornerThree_0 := by decide +kernel
theorem dksX2_cornerThree_1 : cX2_cornerThree.data.toList.drop 23 = dktX2_cornerThree_1 := dk_seg dksX2_cornerThree_0 23 rfl rfl
theorem dksX2_cornerThree_2 : cX2_cornerThree.data.toList.drop 47 = dktX2_cornerThree_2 := dk_seg dksX2_cornerThree_1 24 rfl rfl
theorem dksX2_cornerThree_3 : cX2_cornerThree.data.toList.drop 71 = dktX2_cornerThree_3 := dk_seg dksX2_cornerThree_2 24 rfl rfl
theorem dksX2_cornerThree_4 : cX2_cornerThree.data.toList.drop 95 = dktX2_cornerThree_4 := dk_seg dksX2_cornerThree_3 24 rfl rfl
theorem dX2_cornerThree_0 : decode cX2_cornerThree 0 = .ok (.aload_n 0, 1) := dk_42 (dk_at dksX2_cornerThree_0 0 rfl rfl)
theorem dX2_cornerThree_1 : decode cX2_cornerThree 1 = .ok (.aload_n 0, 1) := dk_42 (dk_at dksX2_cornerThree_0 1 rfl rfl)
theorem dX2_cornerThree_2 : decode cX2_cornerThree 2 = .ok (.getfield 13, 3) := dk_180 0 13 (dk_at dksX2_cornerThree_0 2 rfl rfl)
theorem dX2_cornerThree_5 : decode cX2_cornerThree 5 = .ok (.iconst 3, 1) := dk_6 (dk_at dksX2_cornerThree_0 5 rfl rfl)
theorem dX2_cornerThree_6 : decode cX2_cornerThree 6 = .ok (.isub, 1) := dk_100 (dk_at dksX2_cornerThree_0 6 rfl rfl)
theorem dX2_cornerThree_7 : decode cX2_cornerThree 7 = .ok (.iconst 0, 1) := dk_3 (dk_at dksX2_cornerThree_0 7 rfl rfl)
theorem dX2_cornerThree_8 : decode cX2_cornerThree 8 = .ok (.iload_n 1, 1) := dk_27 (dk_at dksX2_cornerThree_0 8 rfl rfl)
theorem dX2_cornerThree_9 : decode cX2_cornerThree 9 = .ok (.iconst 1, 1) := dk_4 (dk_at dksX2_cornerThree_0 9 rfl rfl)
theorem dX2_cornerThree_10 : decode cX2_cornerThree 10 = .ok (.invokevirtual 24, 3) := dk_182 0 24 (dk_at dksX2_cornerThree_0 10 rfl rfl)
theorem dX2_cornerThree_13 : decode cX2_cornerThree 13 = .ok (.aload_n 0, 1) := dk_42 (dk_at dksX2_cornerThree_0 13 rfl rfl)
theorem dX2_cornerThree_14 : decode cX2_cornerThree 14 = .ok (.aload_n 0, 1) := dk_42 (dk_at dksX2_cornerThree_0 14 rfl rfl)
theorem dX2_cornerThree_15 : decode cX2_cornerThree 15 = .ok (.getfield 13, 3) := dk_180 0 13 (dk_at dksX2_cornerThree_0 15 rfl rfl)
theorem dX2_cornerThree_18 : decode cX2_cornerThree 18 = .ok (.iconst 2, 1) := dk_5 (dk_at dksX2_cornerThree_0 18 rfl rfl)
theorem dX2_cornerThree_19 : decode cX2_cornerThree 19 = .ok (.isub, 1) := dk_100 (dk_at dksX2_cornerThree_0 19 rfl rfl)
theorem dX2_cornerThree_20 : decode cX2_cornerThree 20 = .ok (.iconst 0, 1) := dk_3 (dk_at dksX2_cornerThree_0 20 rfl rfl)
theorem dX2_cornerThree_21 : decode cX2_cornerThree 21 = .ok (.iload_n 1, 1) := dk_27 (dk_at dksX2_cornerThree_0 21 rfl rfl)
theorem dX2_cornerThree_22 : decode cX2_cornerThree 22 = .ok (.iconst 2, 1) := dk_5 (dk_at dksX2_cornerThree_0 22 rfl rfl)
theorem dX2_cornerThree_23 : decode cX2_cornerThree 23 = .ok (.invokevirtual 24, 3) := dk_182 0 24 (dk_at dksX2_cornerThree_1 0 rfl rfl)
theorem dX2_cornerThree_26 : decode cX2_cornerThree 26 = .ok (.aload_n 0, 1) := dk_42 (dk_at dksX2_cornerThree_1 3 rfl rfl)
theorem dX2_cornerThree_27 : decode cX2_cornerThree 27 = .ok (.aload_n 0, 1) := dk_42 (dk_at dksX2_cornerThree_1 4 rfl rfl)
theorem dX2_cornerThree_28 : decode cX2_cornerThree 28 = .ok (.getfield 13, 3) := dk_180 0 13 (dk_at dksX2_cornerThree_1 5 rfl rfl)
theorem dX2_cornerThree_31 : decode cX2_cornerThree 31 = .ok (.iconst 1, 1) := dk_4 (dk_at dksX2_cornerThree_1 8 rfl rfl)
theorem dX2_cornerThree_32 : decode cX2_cornerThree 32 = .ok (.isub, 1) := dk_100 (dk_at dksX2_cornerThree_1 9 rfl rfl)
theorem dX2_cornerThree_33 : decode cX2_cornerThree 33 = .ok (.iconst 0, 1) := dk_3 (dk_at dksX2_cornerThree_1 10 rfl rfl)
theorem dX2_cornerThree_34 : decode cX2_cornerThree 34 = .ok (.iload_n 1, 1) := dk_27 (dk_at dksX2_cornerThree_1 11 rfl rfl)
theorem dX2_cornerThree_35 : decode cX2_cornerThree 35 = .ok (.iconst 3, 1) := dk_6 (dk_at dksX2_cornerThree_1 12 rfl rfl)
theorem dX2_cornerThree_36 : decode cX2_cornerThree 36 = .ok (.invokevirtual 24, 3) := dk_182 0 24 (dk_at dksX2_cornerThree_1 13 rfl rfl)
theorem dX2_cornerThree_39 : decode cX2_cornerThree 39 = .ok (.aload_n 0, 1) := dk_42 (dk_at dksX2_cornerThree_1 16 rfl rfl)
theorem dX2_cornerThree_40 : decode cX2_cornerThree 40 = .ok (.iconst 0, 1) := dk_3 (dk_at dksX2_cornerThree_1 17 rfl rfl)
theorem dX2_cornerThree_41 : decode cX2_cornerThree 41 = .ok (.aload_n 0, 1) := dk_42 (dk_at dksX2_cornerThree_1 18 rfl rfl)
theorem dX2_cornerThree_42 : decode cX2_cornerThree 42 = .ok (.getfield 13, 3) := dk_180 0 13 (dk_at dksX2_cornerThree_1 19 rfl rfl)
theorem dX2_cornerThree_45 : decode cX2_cornerThree 45 = .ok (.iconst 2, 1) := dk_5 (dk_at dksX2_cornerThree_1 22 rfl rfl)
theorem dX2_cornerThree_46 : decode cX2_cornerThree 46 = .ok (.isub, 1) := dk_100 (dk_at dksX2_cornerThree_1 23 rfl rfl)
theorem dX2_cornerThree_47 : decode cX2_cornerThree 47 = .ok (.iload_n 1, 1) := dk_27 (dk_at dksX2_cornerThree_2 0 rfl rfl)
theorem dX2_cornerThree_48 : decode cX2_cornerThree 48 = .ok (.iconst 4, 1) := dk_7 (dk_at dksX2_cornerThree_2 1 rfl rfl)
theorem dX2_cornerThree_49 : decode cX2_cornerThree 49 = .ok (.invokevirtual 24, 3) := dk_182 0 24 (dk_at dksX2_cornerThree_2 2 rfl rfl)
theorem dX2_cornerThree_52 : decode cX2_cornerThree 52 = .ok (.aload_n 0, 1) := dk_42 (dk_at dksX2_cornerThree_2 5 rfl rfl)
theorem dX2_cornerThree_53 : decode cX2_cornerThree 53 = .ok (.iconst 0, 1) := dk_3 (dk_at dksX2_cornerThree_2 6 rfl rfl)
theorem dX2_cornerThree_54 : decode cX2_cornerThree 54 = .ok (.aload_n 0, 1) := dk_42 (dk_at dksX2_cornerThree_2 7 rfl rfl)
theorem dX2_cornerThree_55 : decode cX2_cornerThree 55 = .ok (.getfield 13, 3) := dk_180 0 13 (dk_at dksX2_cornerThree_2 8 rfl rfl)
theorem dX2_cornerThree_58 : decode cX2_cornerThree 58 = .ok (.iconst 1, 1) := dk_4 (dk_at dksX2_cornerThree_2 11 rfl rfl)
theorem dX2_cornerThree_59 : decode cX2_cornerThree 59 = .ok (.isub, 1) := dk_100 (dk_at dksX2_cornerThree_2 12 rfl rfl)
theorem dX2_cornerThree_60 : decode cX2_cornerThree 60 = .ok (.iload_n 1, 1) := dk_27 (dk_at dksX2_cornerThree_2 13 rfl rfl)
theorem dX2_cornerThree_61 : decode cX2_cornerThree 61 = .ok (.iconst 5, 1) := dk_8 (dk_at dksX2_cornerThree_2 14 rfl rfl)
theorem dX2_cornerThree_62 : decode cX2_cornerThree 62 = .ok (.invokevirtual 24, 3) := dk_182 0 24 (dk_at dksX2_cornerThree_2 15 rfl rfl)
theorem dX2_cornerThree_65 : decode cX2_cornerThree 65 = .ok (.aload_n 0, 1) := dk_42 (dk_at dksX2_cornerThree_2 18 rfl rfl)
theorem dX2_cornerThree_66 : decode cX2_cornerThree 66 = .ok (.iconst 1, 1) := dk_4 (dk_at dksX2_cornerThree_2 19 rfl rfl)
theorem dX2_cornerThree_67 : decode cX2_cornerThree 67 = .ok (.aload_n 0, 1) := dk_42 (dk_at dksX2_cornerThree_2 20 rfl rfl)
theorem dX2_cornerThree_68 : decode cX2_cornerThree 68 = .ok (.getfield 13, 3) := dk_180 0 13 (dk_at dksX2_cornerThree_2 21 rfl rfl)
theorem dX2_cornerThree_71 : decode cX2_cornerThree 71 = .ok (.iconst 1, 1) := dk_4 (dk_at dksX2_cornerThree_3 0 rfl rfl)
theorem dX2_cornerThree_72 : decode cX2_cornerThree 72 = .ok (.isub, 1) := dk_100 (dk_at dksX2_cornerThree_3 1 rfl rfl)
theorem dX2_cornerThree_73 : decode cX2_cornerThree 73 = .ok (.iload_n 1, 1) := dk_27 (dk_at dksX2_cornerThree_3 2 rfl rfl)
theorem dX2_cornerThree_74 : decode cX2_cornerThree 74 = .ok (.bipush 6, 2) := dk_16 6 (dk_at dksX2_cornerThree_3 3 rfl rfl)
theorem dX2_cornerThree_76 : decode cX2_cornerThree 76 = .ok (.invokevirtual 24, 3) := dk_182 0 24 (dk_at dksX2_cornerThree_3 5 rfl rfl)
theorem dX2_cornerThree_79 : decode cX2_cornerThree 79 = .ok (.aload_n 0, 1) := dk_42 (dk_at dksX2_cornerThree_3 8 rfl rfl)
theorem dX2_cornerThree_80 : decode cX2_cornerThree 80 = .ok (.iconst 2, 1) := dk_5 (dk_at dksX2_cornerThree_3 9 rfl rfl)
theorem dX2_cornerThree_81 : decode cX2_cornerThree 81 = .ok (.aload_n 0, 1) := dk_42 (dk_at dksX2_cornerThree_3 10 rfl rfl)
theorem dX2_cornerThree_82 : decode cX2_cornerThree 82 = .ok (.getfield 13, 3) := dk_180 0 13 (dk_at dksX2_cornerThree_3 11 rfl rfl)
theorem dX2_cornerThree_85 : decode cX2_cornerThree 85 = .ok (.iconst 1, 1) := dk_4 (dk_at dksX2_cornerThree_3 14 rfl rfl)
theorem dX2_cornerThree_86 : decode cX2_cornerThree 86 = .ok (.isub, 1) := dk_100 (dk_at dksX2_cornerThree_3 15 rfl rfl)
theorem dX2_cornerThree_87 : decode cX2_cornerThree 87 = .ok (.iload_n 1, 1) := dk_27 (dk_at dksX2_cornerThree_3 16 rfl rfl)
theorem dX2_cornerThree_88 : decode cX2_cornerThree 88 = .ok (.bipush 7, 2) := dk_16 7 (dk_at dksX2_cornerThree_3 17 rfl rfl)
theorem dX2_cornerThree_90 : decode cX2_cornerThree 90 = .ok (.invokevirtual 24, 3) := dk_182 0 24 (dk_at dksX2_cornerThree_3 19 rfl rfl)
theorem dX2_cornerThree_93 : decode cX2_cornerThree 93 = .ok (.aload_n 0, 1) := dk_42 (dk_at dksX2_cornerThree_3 22 rfl rfl)
theorem dX2_cornerThree_94 : decode cX2_cornerThree 94 = .ok (.iconst 3, 1) := dk_6 (dk_at dksX2_cornerThree_3 23 rfl rfl)
theorem dX2_cornerThree_95 : decode cX2_cornerThree 95 = .ok (.aload_n 0, 1) := dk_42 (dk_at dksX2_cornerThree_4 0 rfl rfl)
theorem dX2_cornerThree_96 : decode cX2_cornerThree 96 = .ok (.getfield 13, 3) := dk_180 0 13 (dk_at dksX2_cornerThree_4 1 rfl rfl)
theorem dX2_cornerThree_99 : decode cX2_cornerThree 99 = .ok (.iconst 1, 1) := dk_4 (dk_at dksX2_cornerThree_4 4 rfl rfl)
theorem dX2_cornerThree_100 : decode cX2_cornerThree 100 = .ok (.isub, 1) := dk_100 (dk_at dksX2_cornerThree_4 5 rfl rfl)
theorem dX2_cornerThree_101 : decode cX2_cornerThree 101 = .ok (.iload_n 1, 1) := dk_27 (dk_at dksX2_cornerThree_4 6 rfl rfl)
theorem dX2_cornerThree_102 : decode cX2_cornerThree 102 = .ok (.bipush 8, 2) := dk_16 8 (dk_at dksX2_cornerThree_4 7 rfl rfl)
theorem dX2_cornerThree_104 : decode cX2_cornerThree 104 = .ok (.invokevirtual 24, 3) := dk_182 0 24 (dk_at dksX2_cornerThree_4 9 rfl rfl)
theorem dX2_cornerThree_107 : decode cX2_cornerThree 107 = .ok (.return_, 1) := dk_177 (dk_at dksX2_cornerThree_4 12 rfl rfl)
abbrev cX2_cornerFour : ByteArray := prog_4_method_8_code
def yX2_cornerFour : MethodName := ⟨RX2, "cornerFour", "(I)V"⟩
def dkwX2_cornerFour_4 : List UInt8 := [182, 0, 24, 42, 4, 42, 180, 0, 13, 4, 100, 27, 16, 8, 182, 0, 24, 177]
abbrev dktX2_cornerFour_4 : List UInt8 := dkwX2_cornerFour_4 ++ []
def dkwX2_cornerFour_3 : List UInt8 := [4, 42, 180, 0, 13, 6, 100, 27, 16, 6, 182, 0, 24, 42, 4, 42, 180, 0, 13, 5, 100, 27, 16, 7]
abbrev dktX2_cornerFour_3 : List UInt8 := dkwX2_cornerFour_3 ++ dktX2_cornerFour_4
def dkwX2_cornerFour_2 : List UInt8 := [180, 0, 13, 5, 100, 27, 7, 182, 0, 24, 42, 3, 42, 180, 0, 13, 4, 100, 27, 8, 182, 0, 24, 42]
abbrev dktX2_cornerFour_2 : List UInt8 := dkwX2_cornerFour_2 ++ dktX2_cornerFour_3
def dkwX2_cornerFour_1 : List UInt8 := [4, 100, 27, 5, 182, 0, 24, 42, 3, 42, 180, 0, 13, 6, 100, 27, 6, 182, 0, 24, 42, 3, 42]
abbrev dktX2_cornerFour_1 : List UInt8 := dkwX2_cornerFour_1 ++ dktX2_cornerFour_2
def dkwX2_cornerFour_0 : List UInt8 := [42, 42, 180, 0, 13, 4, 100, 3, 27, 4, 182, 0, 24, 42, 42, 180, 0, 13, 4, 100, 42, 180, 0, 13]
abbrev dktX2_cornerFour_0 : List UInt8 := dkwX2_cornerFour_0 ++ dktX2_cornerFour_1
theorem dksX2_cornerFour_0 : cX2_cornerFour.data.toList.drop 0 = dktX2_cornerFour_0 := by decide +kernel
theorem dksX2_cornerFour_1 : cX2_cornerFour.data.toList.drop 24 = dktX2_cornerFour_1 := dk_seg dksX2_cornerFour_0 24 rfl rfl
theorem dksX2_cornerFour_2 : cX2_cornerFour.data.toList.drop 47 = dktX2_cornerFour_2 := dk_seg dksX2_cornerFour_1 23 rfl rfl
theorem dksX2_cornerFour_3 : cX2_cornerFour.data.toList.drop 71 = dktX2_cornerFour_3 := dk_seg dksX2_cornerFour_2 24 rfl rfl
theorem dksX2_cornerFour_4 : cX2_cornerFour.data.toList.drop 95 = dktX2_cornerFour_4 := dk_seg dksX2_cornerFour_3 24 rfl rfl
theorem dX2_cornerFour_0 : decode cX2_cornerFour 0 = .ok (.aload_n 0, 1) := dk_42 (dk_at dksX2_cornerFour_0 0 rfl rfl)
theorem dX2_cornerFour_1 : decode cX2_cornerFour 1 = .ok (.aload_n 0, 1) := dk_42 (dk_at dksX2_cornerFour_0 1 rfl rfl)
theorem dX2_cornerFour_2 : decode cX2_cornerFour 2 = .ok (.getfield 13, 3) := dk_180 0 13 (dk_at dksX2_cornerFour_0 2 rfl rfl)
theorem dX2_cornerFour_5 : decode cX2_cornerFour 5 = .ok (.iconst 1, 1) := dk_4 (dk_at dksX2_cornerFour_0 5 rfl rfl)
theorem dX2_cornerFour_6 : decode cX2_cornerFour 6 = .ok (.isub, 1) := dk_100 (dk_at dksX2_cornerFour_0 6 rfl rfl)
theorem dX2_cornerFour_7 : decode cX2_cornerFour 7 = .ok (.iconst 0, 1) := dk_3 (dk_at dksX2_cornerFour_0 7 rfl rfl)
theorem dX2_cornerFour_8 : decode cX2_cornerFour 8 = .ok (.iload_n 1, 1) := dk_27 (dk_at dksX2_cornerFour_0 8 rfl rfl)
theorem dX2_cornerFour_9 : decode cX2_cornerFour 9 = .ok (.iconst 1, 1) := dk_4 (dk_at dksX2_cornerFour_0 9 rfl rfl)
theorem dX2_cornerFour_10 : decode cX2_cornerFour 10 = .ok (.invokevirtual 24, 3) := dk_182 0 24 (dk_at dksX2_cornerFour_0 10 rfl rfl)
theorem dX2_cornerFour_13 : decode cX2_cornerFour 13 = .ok (.aload_n 0, 1) := dk_42 (dk_at dksX2_cornerFour_0 13 rfl rfl)
theorem dX2_cornerFour_14 : decode cX2_cornerFour 14 = .ok (.aload_n 0, 1) := dk_42 (dk_at dksX2_cornerFour_0 14 rfl rfl)
theorem dX2_cornerFour_15 : decode cX2_cornerFour 15 = .ok (.getfield 13, 3) := dk_180 0 13 (dk_at dksX2_cornerFour_0 15 rfl rfl)
theorem dX2_cornerFour_18 : decode cX2_cornerFour 18 = .ok (.iconst 1, 1) := dk_4 (dk_at dksX2_cornerFour_0 18 rfl rfl)
theorem dX2_cornerFour_19 : decode cX2_cornerFour 19 = .ok (.isub, 1) := dk_100 (dk_at dksX2_cornerFour_0 19 rfl rfl)
theorem dX2_cornerFour_20 : decode cX2_cornerFour 20 = .ok (.aload_n 0, 1) := dk_42 (dk_at dksX2_cornerFour_0 20 rfl rfl)
theorem dX2_cornerFour_21 : decode cX2_cornerFour 21 = .ok (.getfield 13, 3) := dk_180 0 13 (dk_at dksX2_cornerFour_0 21 rfl rfl)
theorem dX2_cornerFour_24 : decode cX2_cornerFour 24 = .ok (.iconst 1, 1) := dk_4 (dk_at dksX2_cornerFour_1 0 rfl rfl)
theorem dX2_cornerFour_25 : decode cX2_cornerFour 25 = .ok (.isub, 1) := dk_100 (dk_at dksX2_cornerFour_1 1 rfl rfl)
theorem dX2_cornerFour_26 : decode cX2_cornerFour 26 = .ok (.iload_n 1, 1) := dk_27 (dk_at dksX2_cornerFour_1 2 rfl rfl)
theorem dX2_cornerFour_27 : decode cX2_cornerFour 27 = .ok (.iconst 2, 1) := dk_5 (dk_at dksX2_cornerFour_1 3 rfl rfl)
theorem dX2_cornerFour_28 : decode cX2_cornerFour 28 = .ok (.invokevirtual 24, 3) := dk_182 0 24 (dk_at dksX2_cornerFour_1 4 rfl rfl)
theorem dX2_cornerFour_31 : decode cX2_cornerFour 31 = .ok (.aload_n 0, 1) := dk_42 (dk_at dksX2_cornerFour_1 7 rfl rfl)
theorem dX2_cornerFour_32 : decode cX2_cornerFour 32 = .ok (.iconst 0, 1) := dk_3 (dk_at dksX2_cornerFour_1 8 rfl rfl)
theorem dX2_cornerFour_33 : decode cX2_cornerFour 33 = .ok (.aload_n 0, 1) := dk_42 (dk_at dksX2_cornerFour_1 9 rfl rfl)
theorem dX2_cornerFour_34 : decode cX2_cornerFour 34 = .ok (.getfield 13, 3) := dk_180 0 13 (dk_at dksX2_cornerFour_1 10 rfl rfl)
theorem dX2_cornerFour_37 : decode cX2_cornerFour 37 = .ok (.iconst 3, 1) := dk_6 (dk_at dksX2_cornerFour_1 13 rfl rfl)
theorem dX2_cornerFour_38 : decode cX2_cornerFour 38 = .ok (.isub, 1) := dk_100 (dk_at dksX2_cornerFour_1 14 rfl rfl)
theorem dX2_cornerFour_39 : decode cX2_cornerFour 39 = .ok (.iload_n 1, 1) := dk_27 (dk_at dksX2_cornerFour_1 15 rfl rfl)
theorem dX2_cornerFour_40 : decode cX2_cornerFour 40 = .ok (.iconst 3, 1) := dk_6 (dk_at dksX2_cornerFour_1 16 rfl rfl)
theorem dX2_cornerFour_41 : decode cX2_cornerFour 41 = .ok (.invokevirtual 24, 3) := dk_182 0 24 (dk_at dksX2_cornerFour_1 17 rfl rfl)
theorem dX2_cornerFour_44 : decode cX2_cornerFour 44 = .ok (.aload_n 0, 1) := dk_42 (dk_at dksX2_cornerFour_1 20 rfl rfl)
theorem dX2_cornerFour_45 : decode cX2_cornerFour 45 = .ok (.iconst 0, 1) := dk_3 (dk_at dksX2_cornerFour_1 21 rfl rfl)
theorem dX2_cornerFour_46 : decode cX2_cornerFour 46 = .ok (.aload_n 0, 1) := dk_42 (dk_at dksX2_cornerFour_1 22 rfl rfl)
theorem dX2_cornerFour_47 : decode cX2_cornerFour 47 = .ok (.getfield 13, 3) := dk_180 0 13 (dk_at dksX2_cornerFour_2 0 rfl rfl)
theorem dX2_cornerFour_50 : decode cX2_cornerFour 50 = .ok (.iconst 2, 1) := dk_5 (dk_at dksX2_cornerFour_2 3 rfl rfl)
theorem dX2_cornerFour_51 : decode cX2_cornerFour 51 = .ok (.isub, 1) := dk_100 (dk_at dksX2_cornerFour_2 4 rfl rfl)
theorem dX2_cornerFour_52 : decode cX2_cornerFour 52 = .ok (.iload_n 1, 1) := dk_27 (dk_at dksX2_cornerFour_2 5 rfl rfl)
theorem dX2_cornerFour_53 : decode cX2_cornerFour 53 = .ok (.iconst 4, 1) := dk_7 (dk_at dksX2_cornerFour_2 6 rfl rfl)
theorem dX2_cornerFour_54 : decode cX2_cornerFour 54 = .ok (.invokevirtual 24, 3) := dk_182 0 24 (dk_at dksX2_cornerFour_2 7 rfl rfl)
theorem dX2_cornerFour_57 : decode cX2_cornerFour 57 = .ok (.aload_n 0, 1) := dk_42 (dk_at dksX2_cornerFour_2 10 rfl rfl)
theorem dX2_cornerFour_58 : decode cX2_cornerFour 58 = .ok (.iconst 0, 1) := dk_3 (dk_at dksX2_cornerFour_2 11 rfl rfl)
theorem dX2_cornerFour_59 : decode cX2_cornerFour 59 = .ok (.aload_n 0, 1) := dk_42 (dk_at dksX2_cornerFour_2 12 rfl rfl)
theorem dX2_cornerFour_60 : decode cX2_cornerFour 60 = .ok (.getfield 13, 3) := dk_180 0 13 (dk_at dksX2_cornerFour_2 13 rfl rfl)
theorem dX2_cornerFour_63 : decode cX2_cornerFour 63 = .ok (.iconst 1, 1) := dk_4 (dk_at dksX2_cornerFour_2 16 rfl rfl)
theorem dX2_cornerFour_64 : decode cX2_cornerFour 64 = .ok (.isub, 1) := dk_100 (dk_at dksX2_cornerFour_2 17 rfl rfl)
theorem dX2_cornerFour_65 : decode cX2_cornerFour 65 = .ok (.iload_n 1, 1) := dk_27 (dk_at dksX2_cornerFour_2 18 rfl rfl)
theorem dX2_cornerFour_66 : decode cX2_cornerFour 66 = .ok (.iconst 5, 1) := dk_8 (dk_at dksX2_cornerFour_2 19 rfl rfl)
theorem dX2_cornerFour_67 : decode cX2_cornerFour 67 = .ok (.invokevirtual 24, 3) := dk_182 0 24 (dk_at dksX2_cornerFour_2 20 rfl rfl)
theorem dX2_cornerFour_70 : decode cX2_cornerFour 70 = .ok (.aload_n 0, 1) := dk_42 (dk_at dksX2_cornerFour_2 23 rfl rfl)
theorem dX2_cornerFour_71 : decode cX2_cornerFour 71 = .ok (.iconst 1, 1) := dk_4 (dk_at dksX2_cornerFour_3 0 rfl rfl)
theorem dX2_cornerFour_72 : decode cX2_cornerFour 72 = .ok (.aload_n 0, 1) := dk_42 (dk_at dksX2_cornerFour_3 1 rfl rfl)
theorem dX2_cornerFour_73 : decode cX2_cornerFour 73 = .ok (.getfield 13, 3) := dk_180 0 13 (dk_at dksX2_cornerFour_3 2 rfl rfl)
theorem dX2_cornerFour_76 : decode cX2_cornerFour 76 = .ok (.iconst 3, 1) := dk_6 (dk_at dksX2_cornerFour_3 5 rfl rfl)
theorem dX2_cornerFour_77 : decode cX2_cornerFour 77 = .ok (.isub, 1) := dk_100 (dk_at dksX2_cornerFour_3 6 rfl rfl)
theorem dX2_cornerFour_78 : decode cX2_cornerFour 78 = .ok (.iload_n 1, 1) := dk_27 (dk_at dksX2_cornerFour_3 7 rfl rfl)
theorem dX2_cornerFour_79 : decode cX2_cornerFour 79 = .ok (.bipush 6, 2) := dk_16 6 (dk_at dksX2_cornerFour_3 8 rfl rfl)
theorem dX2_cornerFour_81 : decode cX2_cornerFour 81 = .ok (.invokevirtual 24, 3) := dk_182 0 24 (dk_at dksX2_cornerFour_3 10 rfl rfl)
theorem dX2_cornerFour_84 : decode cX2_cornerFour 84 = .ok (.aload_n 0, 1) := dk_42 (dk_at dksX2_cornerFour_3 13 rfl rfl)
theorem dX2_cornerFour_85 : decode cX2_cornerFour 85 = .ok (.iconst 1, 1) := dk_4 (dk_at dksX2_cornerFour_3 14 rfl rfl)
theorem dX2_cornerFour_86 : decode cX2_cornerFour 86 = .ok (.aload_n 0, 1) := dk_42 (dk_at dksX2_cornerFour_3 15 rfl rfl)
theorem dX2_cornerFour_87 : decode cX2_cornerFour 87 = .ok (.getfield 13, 3) := dk_180 0 13 (dk_at dksX2_cornerFour_3 16 rfl rfl)
theorem dX2_cornerFour_90 : decode cX2_cornerFour 90 = .ok (.iconst 2, 1) := dk_5 (dk_at dksX2_cornerFour_3 19 rfl rfl)
theorem dX2_cornerFour_91 : decode cX2_cornerFour 91 = .ok (.isub, 1) := dk_100 (dk_at dksX2_cornerFour_3 20 rfl rfl)
theorem dX2_cornerFour_92 : decode cX2_cornerFour 92 = .ok (.iload_n 1, 1) := dk_27 (dk_at dksX2_cornerFour_3 21 rfl rfl)
theorem dX2_cornerFour_93 : decode cX2_cornerFour 93 = .ok (.bipush 7, 2) := dk_16 7 (dk_at dksX2_cornerFour_3 22 rfl rfl)
theorem dX2_cornerFour_95 : decode cX2_cornerFour 95 = .ok (.invokevirtual 24, 3) := dk_182 0 24 (dk_at dksX2_cornerFour_4 0 rfl rfl)
theorem dX2_cornerFour_98 : decode cX2_cornerFour 98 = .ok (.aload_n 0, 1) := dk_42 (dk_at dksX2_cornerFour_4 3 rfl rfl)
theorem dX2_cornerFour_99 : decode cX2_cornerFour 99 = .ok (.iconst 1, 1) := dk_4 (dk_at dksX2_cornerFour_4 4 rfl rfl)
theorem dX2_cornerFour_100 : decode cX2_cornerFour 100 = .ok (.aload_n 0, 1) := dk_42 (dk_at dksX2_cornerFour_4 5 rfl rfl)
theorem dX2_cornerFour_101 : decode cX2_cornerFour 101 = .ok (.getfield 13, 3) := dk_180 0 13 (dk_at dksX2_cornerFour_4 6 rfl rfl)
theorem dX2_cornerFour_104 : decode cX2_cornerFour 104 = .ok (.iconst 1, 1) := dk_4 (dk_at dksX2_cornerFour_4 9 rfl rfl)
theorem dX2_cornerFour_105 : decode cX2_cornerFour 105 = .ok (.isub, 1) := dk_100 (dk_at dksX2_cornerFour_4 10 rfl rfl)
theorem dX2_cornerFour_106 : decode cX2_cornerFour 106 = .ok (.iload_n 1, 1) := dk_27 (dk_at dksX2_cornerFour_4 11 rfl rfl)
theorem dX2_cornerFour_107 : decode cX2_cornerFour 107 = .ok (.bipush 8, 2) := dk_16 8 (dk_at dksX2_cornerFour_4 12 rfl rfl)
theorem dX2_cornerFour_109 : decode cX2_cornerFour 109 = .ok (.invokevirtual 24, 3) := dk_182 0 24 (dk_at dksX2_cornerFour_4 14 rfl rfl)
theorem dX2_cornerFour_112 : decode cX2_cornerFour 112 = .ok (.return_, 1) := dk_177 (dk_at dksX2_cornerFour_4 17 rfl rfl)
abbrev cX2_isFree : ByteArray := prog_4_method_9_code
def yX2_isFree : MethodName := ⟨RX2, "isFree", "(II)Z"⟩
def dkwX2_isFree_0 : List UInt8 := [42, 180, 0, 17, 27, 42, 180, 0, 13, 104, 28, 96, 46, 154, 0, 7, 4, 167, 0, 4, 3, 172]
abbrev dktX2_isFree_0 : List UInt8 := dkwX2_isFree_0 ++ []
theorem dksX2_isFree_0 : cX2_isFree.data.toList.drop 0 = dktX2_isFree_0 := by decide +kernel
theorem dX2_isFree_0 : decode cX2_isFree 0 = .ok (.aload_n 0, 1) := dk_42 (dk_at dksX2_isFree_0 0 rfl rfl)
theorem dX2_isFree_1 : decode cX2_isFree 1 = .ok (.getfield 17, 3) := dk_180 0 17 (dk_at dksX2_isFree_0 1 rfl rfl)
theorem dX2_isFree_4 : decode cX2_isFree 4 = .ok (.iload_n 1, 1) := dk_27 (dk_at dksX2_isFree_0 4 rfl rfl)
theorem dX2_isFree_5 : decode cX2_isFree 5 = .ok (.aload_n 0, 1) := dk_42 (dk_at dksX2_isFree_0 5 rfl rfl)
theorem dX2_isFree_6 : decode cX2_isFree 6 = .ok (.getfield 13, 3) := dk_180 0 13 (dk_at dksX2_isFree_0 6 rfl rfl)
theorem dX2_isFree_9 : decode cX2_isFree 9 = .ok (.imul, 1) := dk_104 (dk_at dksX2_isFree_0 9 rfl rfl)
theorem dX2_isFree_10 : decode cX2_isFree 10 = .ok (.iload_n 2, 1) := dk_28 (dk_at dksX2_isFree_0 10 rfl rfl)
theorem dX2_isFree_11 : decode cX2_isFree 11 = .ok (.iadd, 1) := dk_96 (dk_at dksX2_isFree_0 11 rfl rfl)
theorem dX2_isFree_12 : decode cX2_isFree 12 = .ok (.iaload, 1) := dk_46 (dk_at dksX2_isFree_0 12 rfl rfl)
theorem dX2_isFree_13 : decode cX2_isFree 13 = .ok (.ifCond .ne 7, 3) := dk_154 0 7 (dk_at dksX2_isFree_0 13 rfl rfl)
theorem dX2_isFree_16 : decode cX2_isFree 16 = .ok (.iconst 1, 1) := dk_4 (dk_at dksX2_isFree_0 16 rfl rfl)
theorem dX2_isFree_17 : decode cX2_isFree 17 = .ok (.goto 4, 3) := dk_167 0 4 (dk_at dksX2_isFree_0 17 rfl rfl)
theorem dX2_isFree_20 : decode cX2_isFree 20 = .ok (.iconst 0, 1) := dk_3 (dk_at dksX2_isFree_0 20 rfl rfl)
theorem dX2_isFree_21 : decode cX2_isFree 21 = .ok (.ireturn, 1) := dk_172 (dk_at dksX2_isFree_0 21 rfl rfl)
abbrev cX2_utah : ByteArray := prog_4_method_4_code
def yX2_utah : MethodName := ⟨RX2, "utah", "(III)V"⟩
def dkwX2_utah_3 : List UInt8 := [4, 100, 29, 16, 7, 182, 0, 24, 42, 27, 28, 29, 16, 8, 182, 0, 24, 177]
abbrev dktX2_utah_3 : List UInt8 := dkwX2_utah_3 ++ []
def dkwX2_utah_2 : List UInt8 := [42, 27, 4, 100, 28, 29, 8, 182, 0, 24, 42, 27, 28, 5, 100, 29, 16, 6, 182, 0, 24, 42, 27, 28]
abbrev dktX2_utah_2 : List UInt8 := dkwX2_utah_2 ++ dktX2_utah_3
def dkwX2_utah_1 : List UInt8 := [42, 27, 4, 100, 28, 5, 100, 29, 6, 182, 0, 24, 42, 27, 4, 100, 28, 4, 100, 29, 7, 182, 0, 24]
abbrev dktX2_utah_1 : List UInt8 := dkwX2_utah_1 ++ dktX2_utah_2
def dkwX2_utah_0 : List UInt8 := [42, 27, 5, 100, 28, 5, 100, 29, 4, 182, 0, 24, 42, 27, 5, 100, 28, 4, 100, 29, 5, 182, 0, 24]
abbrev dktX2_utah_0 : List UInt8 := dkwX2_utah_0 ++ dktX2_utah_1
theorem dksX2_utah_0 : cX2_utah.data.toList.drop 0 = dktX2_utah_0 := by decide +kernel
theorem dksX2_utah_1 : cX2_utah.data.toList.drop 24 = dktX2_utah_1 := dk_seg dksX2_utah_0 24 rfl rfl
theorem dksX2_utah_2 : cX2_utah.data.toList.drop 48 = dktX2_utah_2 := dk_seg dksX2_utah_1 24 rfl rfl
theorem dksX2_utah_3 : cX2_utah.data.toList.drop 72 = dktX2_utah_3 := dk_seg dksX2_utah_2 24 rfl rfl
theorem dX2_utah_0 : decode cX2_utah 0 = .ok (.aload_n 0, 1) := dk_42 (dk_at dksX2_utah_0 0 rfl rfl)
theorem dX2_utah_1 : decode cX2_utah 1 = .ok (.iload_n 1, 1) := dk_27 (dk_at dksX2_utah_0 1 rfl rfl)
theorem dX2_utah_2 : decode cX2_utah 2 = .ok (.iconst 2, 1) := dk_5 (dk_at dksX2_utah_0 2 rfl rfl)
theorem dX2_utah_3 : decode cX2_utah 3 = .ok (.isub, 1) := dk_100 (dk_at dksX2_utah_0 3 rfl rfl)
theorem dX2_utah_4 : decode cX2_utah 4 = .ok (.iload_n 2, 1) := dk_28 (dk_at dksX2_utah_0 4 rfl rfl)
theorem dX2_utah_5 : decode cX2_utah 5 = .ok (.iconst 2, 1) := dk_5 (dk_at dksX2_utah_0 5 rfl rfl)
theorem dX2_utah_6 : decode cX2_utah 6 = .ok (.isub, 1) := dk_100 (dk_at dksX2_utah_0 6 rfl rfl)
theorem dX2_utah_7 : decode cX2_utah 7 = .ok (.iload_n 3, 1) := dk_29 (dk_at dksX2_utah_0 7 rfl rfl)
theorem dX2_utah_8 : decode cX2_utah 8 = .ok (.iconst 1, 1) := dk_4 (dk_at dksX2_utah_0 8 rfl rfl)
theorem dX2_utah_9 : decode cX2_utah 9 = .ok (.invokevirtual 24, 3) := dk_182 0 24 (dk_at dksX2_utah_0 9 rfl rfl)
theorem dX2_utah_12 : decode cX2_utah 12 = .ok (.aload_n 0, 1) := dk_42 (dk_at dksX2_utah_0 12 rfl rfl)
theorem dX2_utah_13 : decode cX2_utah 13 = .ok (.iload_n 1, 1) := dk_27 (dk_at dksX2_utah_0 13 rfl rfl)
theorem dX2_utah_14 : decode cX2_utah 14 = .ok (.iconst 2, 1) := dk_5 (dk_at dksX2_utah_0 14 rfl rfl)
theorem dX2_utah_15 : decode cX2_utah 15 = .ok (.isub, 1) := dk_100 (dk_at dksX2_utah_0 15 rfl rfl)
theorem dX2_utah_16 : decode cX2_utah 16 = .ok (.iload_n 2, 1) := dk_28 (dk_at dksX2_utah_0 16 rfl rfl)
theorem dX2_utah_17 : decode cX2_utah 17 = .ok (.iconst 1, 1) := dk_4 (dk_at dksX2_utah_0 17 rfl rfl)
theorem dX2_utah_18 : decode cX2_utah 18 = .ok (.isub, 1) := dk_100 (dk_at dksX2_utah_0 18 rfl rfl)
theorem dX2_utah_19 : decode cX2_utah 19 = .ok (.iload_n 3, 1) := dk_29 (dk_at dksX2_utah_0 19 rfl rfl)
theorem dX2_utah_20 : decode cX2_utah 20 = .ok (.iconst 2, 1) := dk_5 (dk_at dksX2_utah_0 20 rfl rfl)
theorem dX2_utah_21 : decode cX2_utah 21 = .ok (.invokevirtual 24, 3) := dk_182 0 24 (dk_at dksX2_utah_0 21 rfl rfl)
theorem dX2_utah_24 : decode cX2_utah 24 = .ok (.aload_n 0, 1) := dk_42 (dk_at dksX2_utah_1 0 rfl rfl)
theorem dX2_utah_25 : decode cX2_utah 25 = .ok (.iload_n 1, 1) := dk_27 (dk_at dksX2_utah_1 1 rfl rfl)
theorem dX2_utah_26 : decode cX2_utah 26 = .ok (.iconst 1, 1) := dk_4 (dk_at dksX2_utah_1 2 rfl rfl)
theorem dX2_utah_27 : decode cX2_utah 27 = .ok (.isub, 1) := dk_100 (dk_at dksX2_utah_1 3 rfl rfl)
theorem dX2_utah_28 : decode cX2_utah 28 = .ok (.iload_n 2, 1) := dk_28 (dk_at dksX2_utah_1 4 rfl rfl)
theorem dX2_utah_29 : decode cX2_utah 29 = .ok (.iconst 2, 1) := dk_5 (dk_at dksX2_utah_1 5 rfl rfl)
theorem dX2_utah_30 : decode cX2_utah 30 = .ok (.isub, 1) := dk_100 (dk_at dksX2_utah_1 6 rfl rfl)
theorem dX2_utah_31 : decode cX2_utah 31 = .ok (.iload_n 3, 1) := dk_29 (dk_at dksX2_utah_1 7 rfl rfl)
theorem dX2_utah_32 : decode cX2_utah 32 = .ok (.iconst 3, 1) := dk_6 (dk_at dksX2_utah_1 8 rfl rfl)
theorem dX2_utah_33 : decode cX2_utah 33 = .ok (.invokevirtual 24, 3) := dk_182 0 24 (dk_at dksX2_utah_1 9 rfl rfl)
theorem dX2_utah_36 : decode cX2_utah 36 = .ok (.aload_n 0, 1) := dk_42 (dk_at dksX2_utah_1 12 rfl rfl)
theorem dX2_utah_37 : decode cX2_utah 37 = .ok (.iload_n 1, 1) := dk_27 (dk_at dksX2_utah_1 13 rfl rfl)
theorem dX2_utah_38 : decode cX2_utah 38 = .ok (.iconst 1, 1) := dk_4 (dk_at dksX2_utah_1 14 rfl rfl)
theorem dX2_utah_39 : decode cX2_utah 39 = .ok (.isub, 1) := dk_100 (dk_at dksX2_utah_1 15 rfl rfl)
theorem dX2_utah_40 : decode cX2_utah 40 = .ok (.iload_n 2, 1) := dk_28 (dk_at dksX2_utah_1 16 rfl rfl)
theorem dX2_utah_41 : decode cX2_utah 41 = .ok (.iconst 1, 1) := dk_4 (dk_at dksX2_utah_1 17 rfl rfl)
theorem dX2_utah_42 : decode cX2_utah 42 = .ok (.isub, 1) := dk_100 (dk_at dksX2_utah_1 18 rfl rfl)
theorem dX2_utah_43 : decode cX2_utah 43 = .ok (.iload_n 3, 1) := dk_29 (dk_at dksX2_utah_1 19 rfl rfl)
theorem dX2_utah_44 : decode cX2_utah 44 = .ok (.iconst 4, 1) := dk_7 (dk_at dksX2_utah_1 20 rfl rfl)
theorem dX2_utah_45 : decode cX2_utah 45 = .ok (.invokevirtual 24, 3) := dk_182 0 24 (dk_at dksX2_utah_1 21 rfl rfl)
theorem dX2_utah_48 : decode cX2_utah 48 = .ok (.aload_n 0, 1) := dk_42 (dk_at dksX2_utah_2 0 rfl rfl)
theorem dX2_utah_49 : decode cX2_utah 49 = .ok (.iload_n 1, 1) := dk_27 (dk_at dksX2_utah_2 1 rfl rfl)
theorem dX2_utah_50 : decode cX2_utah 50 = .ok (.iconst 1, 1) := dk_4 (dk_at dksX2_utah_2 2 rfl rfl)
theorem dX2_utah_51 : decode cX2_utah 51 = .ok (.isub, 1) := dk_100 (dk_at dksX2_utah_2 3 rfl rfl)
theorem dX2_utah_52 : decode cX2_utah 52 = .ok (.iload_n 2, 1) := dk_28 (dk_at dksX2_utah_2 4 rfl rfl)
theorem dX2_utah_53 : decode cX2_utah 53 = .ok (.iload_n 3, 1) := dk_29 (dk_at dksX2_utah_2 5 rfl rfl)
theorem dX2_utah_54 : decode cX2_utah 54 = .ok (.iconst 5, 1) := dk_8 (dk_at dksX2_utah_2 6 rfl rfl)
theorem dX2_utah_55 : decode cX2_utah 55 = .ok (.invokevirtual 24, 3) := dk_182 0 24 (dk_at dksX2_utah_2 7 rfl rfl)
theorem dX2_utah_58 : decode cX2_utah 58 = .ok (.aload_n 0, 1) := dk_42 (dk_at dksX2_utah_2 10 rfl rfl)
theorem dX2_utah_59 : decode cX2_utah 59 = .ok (.iload_n 1, 1) := dk_27 (dk_at dksX2_utah_2 11 rfl rfl)
theorem dX2_utah_60 : decode cX2_utah 60 = .ok (.iload_n 2, 1) := dk_28 (dk_at dksX2_utah_2 12 rfl rfl)
theorem dX2_utah_61 : decode cX2_utah 61 = .ok (.iconst 2, 1) := dk_5 (dk_at dksX2_utah_2 13 rfl rfl)
theorem dX2_utah_62 : decode cX2_utah 62 = .ok (.isub, 1) := dk_100 (dk_at dksX2_utah_2 14 rfl rfl)
theorem dX2_utah_63 : decode cX2_utah 63 = .ok (.iload_n 3, 1) := dk_29 (dk_at dksX2_utah_2 15 rfl rfl)
theorem dX2_utah_64 : decode cX2_utah 64 = .ok (.bipush 6, 2) := dk_16 6 (dk_at dksX2_utah_2 16 rfl rfl)
theorem dX2_utah_66 : decode cX2_utah 66 = .ok (.invokevirtual 24, 3) := dk_182 0 24 (dk_at dksX2_utah_2 18 rfl rfl)
theorem dX2_utah_69 : decode cX2_utah 69 = .ok (.aload_n 0, 1) := dk_42 (dk_at dksX2_utah_2 21 rfl rfl)
theorem dX2_utah_70 : decode cX2_utah 70 = .ok (.iload_n 1, 1) := dk_27 (dk_at dksX2_utah_2 22 rfl rfl)
theorem dX2_utah_71 : decode cX2_utah 71 = .ok (.iload_n 2, 1) := dk_28 (dk_at dksX2_utah_2 23 rfl rfl)
theorem dX2_utah_72 : decode cX2_utah 72 = .ok (.iconst 1, 1) := dk_4 (dk_at dksX2_utah_3 0 rfl rfl)
theorem dX2_utah_73 : decode cX2_utah 73 = .ok (.isub, 1) := dk_100 (dk_at dksX2_utah_3 1 rfl rfl)
theorem dX2_utah_74 : decode cX2_utah 74 = .ok (.iload_n 3, 1) := dk_29 (dk_at dksX2_utah_3 2 rfl rfl)
theorem dX2_utah_75 : decode cX2_utah 75 = .ok (.bipush 7, 2) := dk_16 7 (dk_at dksX2_utah_3 3 rfl rfl)
theorem dX2_utah_77 : decode cX2_utah 77 = .ok (.invokevirtual 24, 3) := dk_182 0 24 (dk_at dksX2_utah_3 5 rfl rfl)
theorem dX2_utah_80 : decode cX2_utah 80 = .ok (.aload_n 0, 1) := dk_42 (dk_at dksX2_utah_3 8 rfl rfl)
theorem dX2_utah_81 : decode cX2_utah 81 = .ok (.iload_n 1, 1) := dk_27 (dk_at dksX2_utah_3 9 rfl rfl)
theorem dX2_utah_82 : decode cX2_utah 82 = .ok (.iload_n 2, 1) := dk_28 (dk_at dksX2_utah_3 10 rfl rfl)
theorem dX2_utah_83 : decode cX2_utah 83 = .ok (.iload_n 3, 1) := dk_29 (dk_at dksX2_utah_3 11 rfl rfl)
theorem dX2_utah_84 : decode cX2_utah 84 = .ok (.bipush 8, 2) := dk_16 8 (dk_at dksX2_utah_3 12 rfl rfl)
theorem dX2_utah_86 : decode cX2_utah 86 = .ok (.invokevirtual 24, 3) := dk_182 0 24 (dk_at dksX2_utah_3 14 rfl rfl)
theorem dX2_utah_89 : decode cX2_utah 89 = .ok (.return_, 1) := dk_177 (dk_at dksX2_utah_3 17 rfl rfl)
abbrev cX2_bit : ByteArray := prog_4_method_11_code
def yX2_bit : MethodName := ⟨RX2, "bit", "(II)Z"⟩
def dkwX2_bit_1 : List UInt8 := [180, 0, 13, 112, 96, 46, 5, 160, 0, 7, 4, 167, 0, 4, 3, 172]
abbrev dktX2_bit_1 : List UInt8 := dkwX2_bit_1 ++ []
def dkwX2_bit_0 : List UInt8 := [42, 180, 0, 17, 28, 18, 23, 126, 42, 180, 0, 13, 112, 42, 180, 0, 13, 104, 27, 18, 23, 126, 42]
abbrev dktX2_bit_0 : List UInt8 := dkwX2_bit_0 ++ dktX2_bit_1
theorem dksX2_bit_0 : cX2_bit.data.toList.drop 0 = dktX2_bit_0 := by decide +kernel
theorem dksX2_bit_1 : cX2_bit.data.toList.drop 23 = dktX2_bit_1 := dk_seg dksX2_bit_0 23 rfl rfl
theorem dX2_bit_0 : decode cX2_bit 0 = .ok (.aload_n 0, 1) := dk_42 (dk_at dksX2_bit_0 0 rfl rfl)
theorem dX2_bit_1 : decode cX2_bit 1 = .ok (.getfield 17, 3) := dk_180 0 17 (dk_at dksX2_bit_0 1 rfl rfl)
theorem dX2_bit_4 : decode cX2_bit 4 = .ok (.iload_n 2, 1) := dk_28 (dk_at dksX2_bit_0 4 rfl rfl)
theorem dX2_bit_5 : decode cX2_bit 5 = .ok (.ldc 23, 2) := dk_18 23 (dk_at dksX2_bit_0 5 rfl rfl)
theorem dX2_bit_7 : decode cX2_bit 7 = .ok (.iand, 1) := dk_126 (dk_at dksX2_bit_0 7 rfl rfl)
theorem dX2_bit_8 : decode cX2_bit 8 = .ok (.aload_n 0, 1) := dk_42 (dk_at dksX2_bit_0 8 rfl rfl)
theorem dX2_bit_9 : decode cX2_bit 9 = .ok (.getfield 13, 3) := dk_180 0 13 (dk_at dksX2_bit_0 9 rfl rfl)
theorem dX2_bit_12 : decode cX2_bit 12 = .ok (.irem, 1) := dk_112 (dk_at dksX2_bit_0 12 rfl rfl)
theorem dX2_bit_13 : decode cX2_bit 13 = .ok (.aload_n 0, 1) := dk_42 (dk_at dksX2_bit_0 13 rfl rfl)
theorem dX2_bit_14 : decode cX2_bit 14 = .ok (.getfield 13, 3) := dk_180 0 13 (dk_at dksX2_bit_0 14 rfl rfl)
theorem dX2_bit_17 : decode cX2_bit 17 = .ok (.imul, 1) := dk_104 (dk_at dksX2_bit_0 17 rfl rfl)
theorem dX2_bit_18 : decode cX2_bit 18 = .ok (.iload_n 1, 1) := dk_27 (dk_at dksX2_bit_0 18 rfl rfl)
theorem dX2_bit_19 : decode cX2_bit 19 = .ok (.ldc 23, 2) := dk_18 23 (dk_at dksX2_bit_0 19 rfl rfl)
theorem dX2_bit_21 : decode cX2_bit 21 = .ok (.iand, 1) := dk_126 (dk_at dksX2_bit_0 21 rfl rfl)
theorem dX2_bit_22 : decode cX2_bit 22 = .ok (.aload_n 0, 1) := dk_42 (dk_at dksX2_bit_0 22 rfl rfl)
theorem dX2_bit_23 : decode cX2_bit 23 = .ok (.getfield 13, 3) := dk_180 0 13 (dk_at dksX2_bit_1 0 rfl rfl)
theorem dX2_bit_26 : decode cX2_bit 26 = .ok (.irem, 1) := dk_112 (dk_at dksX2_bit_1 3 rfl rfl)
theorem dX2_bit_27 : decode cX2_bit 27 = .ok (.iadd, 1) := dk_96 (dk_at dksX2_bit_1 4 rfl rfl)
theorem dX2_bit_28 : decode cX2_bit 28 = .ok (.iaload, 1) := dk_46 (dk_at dksX2_bit_1 5 rfl rfl)
theorem dX2_bit_29 : decode cX2_bit 29 = .ok (.iconst 2, 1) := dk_5 (dk_at dksX2_bit_1 6 rfl rfl)
theorem dX2_bit_30 : decode cX2_bit 30 = .ok (.if_icmp .ne 7, 3) := dk_160 0 7 (dk_at dksX2_bit_1 7 rfl rfl)
theorem dX2_bit_33 : decode cX2_bit 33 = .ok (.iconst 1, 1) := dk_4 (dk_at dksX2_bit_1 10 rfl rfl)
theorem dX2_bit_34 : decode cX2_bit 34 = .ok (.goto 4, 3) := dk_167 0 4 (dk_at dksX2_bit_1 11 rfl rfl)
theorem dX2_bit_37 : decode cX2_bit 37 = .ok (.iconst 0, 1) := dk_3 (dk_at dksX2_bit_1 14 rfl rfl)
theorem dX2_bit_38 : decode cX2_bit 38 = .ok (.ireturn, 1) := dk_172 (dk_at dksX2_bit_1 15 rfl rfl)
abbrev cX2_side : ByteArray := prog_4_method_12_code
def yX2_side : MethodName := ⟨RX2, "side", "()I"⟩
theorem dX2_side_0 : decode cX2_side 0 = .ok (.aload_n 0, 1) := by decide +kernel
theorem dX2_side_1 : decode cX2_side 1 = .ok (.getfield 13, 3) := by decide +kernel
theorem dX2_side_4 : decode cX2_side 4 = .ok (.ireturn, 1) := by decide +kernel
theorem q22 : (Jvm.Cond.initialized "PlacementDeskModel") ∈ lw_all := lw_g (lw_at lw_m1 7 rfl) rfl
theorem q226 : (Jvm.Cond.instantiable "PlacementDeskModel" (4 : Nat)) ∈ lw_all := lw_g (lw_at lw_m1 211 rfl) rfl
theorem q228 : (Jvm.Cond.instanceMethod ({ cls := "PlacementDeskModel", name := "<init>", desc := "()V" } : Jvm.MethodName)) ∈ lw_all := lw_g (lw_at lw_m1 213 rfl) rfl
theorem q229 : (Jvm.Cond.code ({ cls := "PlacementDeskModel", name := "<init>", desc := "()V" } : Jvm.MethodName) prog_4_method_1_code (1 : Nat) (Option.none : Option Jvm.ClassFile.FieldType)) ∈ lw_all := lw_g (lw_at lw_m1 214 rfl) rfl
theorem q230 : (Jvm.Cond.methodLink "PlacementDeskModel" (1 : Nat) ({ cls := "java/lang/Object", name := "<init>", desc := "()V" } : Jvm.MethodName)) ∈ lw_all := lw_g (lw_at lw_m1 215 rfl) rfl
theorem q231 : (Jvm.Cond.fieldLink "PlacementDeskModel" (7 : Nat) "PlacementDeskModel" "word" "[I") ∈ lw_all := lw_g (lw_at lw_m1 216 rfl) rfl
theorem q232 : (Jvm.Cond.fieldLink "PlacementDeskModel" (13 : Nat) "PlacementDeskModel" "side" "I") ∈ lw_all := lw_g (lw_at lw_m1 217 rfl) rfl
theorem q233 : (Jvm.Cond.fieldLink "PlacementDeskModel" (17 : Nat) "PlacementDeskModel" "sheet" "[I") ∈ lw_all := lw_g (lw_at lw_m1 218 rfl) rfl
theorem q234 : (Jvm.Cond.fieldLink "PlacementDeskModel" (20 : Nat) "PlacementDeskModel" "placed" "[I") ∈ lw_all := lw_g (lw_at lw_m1 219 rfl) rfl
theorem q235 : (Jvm.Cond.laysFinal "PlacementDeskModel" "PlacementDeskModel" "word" "[I") ∈ lw_all := lw_g (lw_at lw_m1 220 rfl) rfl
theorem q236 : (Jvm.Cond.soleField "PlacementDeskModel" "word") ∈ lw_all := lw_g (lw_at lw_m1 221 rfl) rfl
theorem q237 : (Jvm.Cond.lays "PlacementDeskModel" "PlacementDeskModel" "side" "I") ∈ lw_all := lw_g (lw_at lw_m1 222 rfl) rfl
theorem q238 : (Jvm.Cond.soleField "PlacementDeskModel" "side") ∈ lw_all := lw_g (lw_at lw_m1 223 rfl) rfl
theorem q239 : (Jvm.Cond.lays "PlacementDeskModel" "PlacementDeskModel" "sheet" "[I") ∈ lw_all := lw_g (lw_at lw_m1 224 rfl) rfl
theorem q240 : (Jvm.Cond.soleField "PlacementDeskModel" "sheet") ∈ lw_all := lw_g (lw_at lw_m1 225 rfl) rfl
theorem q241 : (Jvm.Cond.lays "PlacementDeskModel" "PlacementDeskModel" "placed" "[I") ∈ lw_all := lw_g (lw_at lw_m1 226 rfl) rfl
theorem q242 : (Jvm.Cond.soleField "PlacementDeskModel" "placed") ∈ lw_all := lw_g (lw_at lw_m1 227 rfl) rfl
theorem q243 : (Jvm.Cond.superclass "PlacementDeskModel" "java/lang/Object") ∈ lw_all := lw_g (lw_at lw_m1 228 rfl) rfl
theorem q246 : (Jvm.Cond.instanceMethod ({ cls := "PlacementDeskModel", name := "put", desc := "(II)V" } : Jvm.MethodName)) ∈ lw_all := lw_g (lw_at lw_m1 231 rfl) rfl
theorem q247 : (Jvm.Cond.selects "PlacementDeskModel" ({ cls := "PlacementDeskModel", name := "put", desc := "(II)V" } : Jvm.MethodName) ({ cls := "PlacementDeskModel", name := "put", desc := "(II)V" } : Jvm.MethodName)) ∈ lw_all := lw_g (lw_at lw_m1 232 rfl) rfl
theorem q248 : (Jvm.Cond.code ({ cls := "PlacementDeskModel", name := "put", desc := "(II)V" } : Jvm.MethodName) prog_4_method_2_code (3 : Nat) (Option.none : Option Jvm.ClassFile.FieldType)) ∈ lw_all := lw_g (lw_at lw_m1 233 rfl) rfl
theorem q249 : (Jvm.Cond.constant "PlacementDeskModel" (23 : Nat) (2147483647 : Int32)) ∈ lw_all := lw_g (lw_at lw_m1 234 rfl) rfl
theorem q251 : (Jvm.Cond.instanceMethod ({ cls := "PlacementDeskModel", name := "place", desc := "(I)V" } : Jvm.MethodName)) ∈ lw_all := lw_g (lw_at lw_m1 236 rfl) rfl
theorem q252 : (Jvm.Cond.selects "PlacementDeskModel" ({ cls := "PlacementDeskModel", name := "place", desc := "(I)V" } : Jvm.MethodName) ({ cls := "PlacementDeskModel", name := "place", desc := "(I)V" } : Jvm.MethodName)) ∈ lw_all := lw_g (lw_at lw_m1 237 rfl) rfl
theorem q253 : (Jvm.Cond.code ({ cls := "PlacementDeskModel", name := "place", desc := "(I)V" } : Jvm.MethodName) prog_4_method_10_code (6 : Nat) (Option.none : Option Jvm.ClassFile.FieldType)) ∈ lw_all := lw_g (lw_at lw_m1 238 rfl) rfl
theorem q254 : (Jvm.Cond.methodLink "PlacementDeskModel" (28 : Nat) ({ cls := "PlacementDeskModel", name := "cornerOne", desc := "(I)V" } : Jvm.MethodName)) ∈ lw_all := lw_g (lw_at lw_m1 239 rfl) rfl
theorem q255 : (Jvm.Cond.privateMethod ({ cls := "PlacementDeskModel", name := "cornerOne", desc := "(I)V" } : Jvm.MethodName)) ∈ lw_tbl := lw_at lw_m2 0 rfl
theorem q256 : (Jvm.Cond.instanceMethod ({ cls := "PlacementDeskModel", name := "cornerOne", desc := "(I)V" } : Jvm.MethodName)) ∈ lw_all := lw_g (lw_at lw_m2 1 rfl) rfl
theorem q257 : (Jvm.Cond.code ({ cls := "PlacementDeskModel", name := "cornerOne", desc := "(I)V" } : Jvm.MethodName) prog_4_method_5_code (2 : Nat) (Option.none : Option Jvm.ClassFile.FieldType)) ∈ lw_all := lw_g (lw_at lw_m2 2 rfl) rfl
theorem q258 : (Jvm.Cond.methodLink "PlacementDeskModel" (24 : Nat) ({ cls := "PlacementDeskModel", name := "module", desc := "(IIII)V" } : Jvm.MethodName)) ∈ lw_all := lw_g (lw_at lw_m2 3 rfl) rfl
theorem q259 : (Jvm.Cond.privateMethod ({ cls := "PlacementDeskModel", name := "module", desc := "(IIII)V" } : Jvm.MethodName)) ∈ lw_tbl := lw_at lw_m2 4 rfl
theorem q260 : (Jvm.Cond.instanceMethod ({ cls := "PlacementDeskModel", name := "module", desc := "(IIII)V" } : Jvm.MethodName)) ∈ lw_all := lw_g (lw_at lw_m2 5 rfl) rfl
theorem q261 : (Jvm.Cond.code ({ cls := "PlacementDeskModel", name := "module", desc := "(IIII)V" } : Jvm.MethodName) prog_4_method_3_code (7 : Nat) (Option.none : Option Jvm.ClassFile.FieldType)) ∈ lw_all := lw_g (lw_at lw_m2 6 rfl) rfl
theorem q262 : (Jvm.Cond.methodLink "PlacementDeskModel" (32 : Nat) ({ cls := "PlacementDeskModel", name := "cornerTwo", desc := "(I)V" } : Jvm.MethodName)) ∈ lw_all := lw_g (lw_at lw_m2 7 rfl) rfl
theorem q263 : (Jvm.Cond.privateMethod ({ cls := "PlacementDeskModel", name := "cornerTwo", desc := "(I)V" } : Jvm.MethodName)) ∈ lw_tbl := lw_at lw_m2 8 rfl
theorem q264 : (Jvm.Cond.instanceMethod ({ cls := "PlacementDeskModel", name := "cornerTwo", desc := "(I)V" } : Jvm.MethodName)) ∈ lw_all := lw_g (lw_at lw_m2 9 rfl) rfl
theorem q265 : (Jvm.Cond.code ({ cls := "PlacementDeskModel", name := "cornerTwo", desc := "(I)V" } : Jvm.MethodName) prog_4_method_6_code (2 : Nat) (Option.none : Option Jvm.ClassFile.FieldType)) ∈ lw_all := lw_g (lw_at lw_m2 10 rfl) rfl
theorem q266 : (Jvm.Cond.methodLink "PlacementDeskModel" (35 : Nat) ({ cls := "PlacementDeskModel", name := "cornerThree", desc := "(I)V" } : Jvm.MethodName)) ∈ lw_all := lw_g (lw_at lw_m2 11 rfl) rfl
theorem q267 : (Jvm.Cond.privateMethod ({ cls := "PlacementDeskModel", name := "cornerThree", desc := "(I)V" } : Jvm.MethodName)) ∈ lw_tbl := lw_at lw_m2 12 rfl
theorem q268 : (Jvm.Cond.instanceMethod ({ cls := "PlacementDeskModel", name := "cornerThree", desc := "(I)V" } : Jvm.MethodName)) ∈ lw_all := lw_g (lw_at lw_m2 13 rfl) rfl
theorem q269 : (Jvm.Cond.code ({ cls := "PlacementDeskModel", name := "cornerThree", desc := "(I)V" } : Jvm.MethodName) prog_4_method_7_code (2 : Nat) (Option.none : Option Jvm.ClassFile.FieldType)) ∈ lw_all := lw_g (lw_at lw_m2 14 rfl) rfl
theorem q270 : (Jvm.Cond.methodLink "PlacementDeskModel" (38 : Nat) ({ cls := "PlacementDeskModel", name := "cornerFour", desc := "(I)V" } : Jvm.MethodName)) ∈ lw_all := lw_g (lw_at lw_m2 15 rfl) rfl
theorem q271 : (Jvm.Cond.privateMethod ({ cls := "PlacementDeskModel", name := "cornerFour", desc := "(I)V" } : Jvm.MethodName)) ∈ lw_tbl := lw_at lw_m2 16 rfl
theorem q272 : (Jvm.Cond.instanceMethod ({ cls := "PlacementDeskModel", name := "cornerFour", desc := "(I)V" } : Jvm.MethodName)) ∈ lw_all := lw_g (lw_at lw_m2 17 rfl) rfl
theorem q273 : (Jvm.Cond.code ({ cls := "PlacementDeskModel", name := "cornerFour", desc := "(I)V" } : Jvm.MethodName) prog_4_method_8_code (2 : Nat) (Option.none : Option Jvm.ClassFile.FieldType)) ∈ lw_all := lw_g (lw_at lw_m2 18 rfl) rfl
theorem q274 : (Jvm.Cond.methodLink "PlacementDeskModel" (41 : Nat) ({ cls := "PlacementDeskModel", name := "isFree", desc := "(II)Z" } : Jvm.MethodName)) ∈ lw_all := lw_g (lw_at lw_m2 19 rfl) rfl
theorem q275 : (Jvm.Cond.privateMethod ({ cls := "PlacementDeskModel", name := "isFree", desc := "(II)Z" } : Jvm.MethodName)) ∈ lw_tbl := lw_at lw_m2 20 rfl
theorem q276 : (Jvm.Cond.instanceMethod ({ cls := "PlacementDeskModel", name := "isFree", desc := "(II)Z" } : Jvm.MethodName)) ∈ lw_all := lw_g (lw_at lw_m2 21 rfl) rfl
theorem q277 : (Jvm.Cond.code ({ cls := "PlacementDeskModel", name := "isFree", desc := "(II)Z" } : Jvm.MethodName) prog_4_method_9_code (3 : Nat) (Option.some Jvm.ClassFile.FieldType.boolean)) ∈ lw_all := lw_g (lw_at lw_m2 22 rfl) rfl
theorem q278 : (Jvm.Cond.methodLink "PlacementDeskModel" (45 : Nat) ({ cls := "PlacementDeskModel", name := "utah", desc := "(III)V" } : Jvm.MethodName)) ∈ lw_all := lw_g (lw_at lw_m2 23 rfl) rfl
theorem q279 : (Jvm.Cond.privateMethod ({ cls := "PlacementDeskModel", name := "utah", desc := "(III)V" } : Jvm.MethodName)) ∈ lw_tbl := lw_at lw_m2 24 rfl
theorem q280 : (Jvm.Cond.instanceMethod ({ cls := "PlacementDeskModel", name := "utah", desc := "(III)V" } : Jvm.MethodName)) ∈ lw_all := lw_g (lw_at lw_m2 25 rfl) rfl
theorem q281 : (Jvm.Cond.code ({ cls := "PlacementDeskModel", name := "utah", desc := "(III)V" } : Jvm.MethodName) prog_4_method_4_code (4 : Nat) (Option.none : Option Jvm.ClassFile.FieldType)) ∈ lw_all := lw_g (lw_at lw_m2 26 rfl) rfl
theorem q283 : (Jvm.Cond.instanceMethod ({ cls := "PlacementDeskModel", name := "bit", desc := "(II)Z" } : Jvm.MethodName)) ∈ lw_all := lw_g (lw_at lw_m2 28 rfl) rfl
theorem q284 : (Jvm.Cond.selects "PlacementDeskModel" ({ cls := "PlacementDeskModel", name := "bit", desc := "(II)Z" } : Jvm.MethodName) ({ cls := "PlacementDeskModel", name := "bit", desc := "(II)Z" } : Jvm.MethodName)) ∈ lw_all := lw_g (lw_at lw_m2 29 rfl) rfl
theorem q285 : (Jvm.Cond.code ({ cls := "PlacementDeskModel", name := "bit", desc := "(II)Z" } : Jvm.MethodName) prog_4_method_11_code (3 : Nat) (Option.some Jvm.ClassFile.FieldType.boolean)) ∈ lw_all := lw_g (lw_at lw_m2 30 rfl) rfl
theorem q287 : (Jvm.Cond.instanceMethod ({ cls := "PlacementDeskModel", name := "side", desc := "()I" } : Jvm.MethodName)) ∈ lw_all := lw_g (lw_at lw_m2 32 rfl) rfl
theorem q288 : (Jvm.Cond.selects "PlacementDeskModel" ({ cls := "PlacementDeskModel", name := "side", desc := "()I" } : Jvm.MethodName) ({ cls := "PlacementDeskModel", name := "side", desc := "()I" } : Jvm.MethodName)) ∈ lw_all := lw_g (lw_at lw_m2 33 rfl) rfl
theorem q289 : (Jvm.Cond.code ({ cls := "PlacementDeskModel", name := "side", desc := "()I" } : Jvm.MethodName) prog_4_method_12_code (1 : Nat) (Option.some Jvm.ClassFile.FieldType.int)) ∈ lw_all := lw_g (lw_at lw_m2 34 rfl) rfl
theorem in_X2 : ∀ w ∈ wsX20, w ∈ lw_all := lw_in wsX20 [235, 237, 239, 241] (by decide +kernel) (by decide +kernel)

/-! the law's own entry -/
set_option maxRecDepth 100000
abbrev cL_law : ByteArray := code
def dkwL_law_7 : List UInt8 := [159, 0, 5, 3, 172, 132, 3, 6, 167, 255, 109, 4, 172]
abbrev dktL_law_7 : List UInt8 := dkwL_law_7 ++ []
def dkwL_law_6 : List UInt8 := [96, 46, 42, 29, 5, 96, 46, 182, 0, 27, 159, 0, 18, 3, 172, 43, 182, 0, 28, 44, 182, 0, 32]
abbrev dktL_law_6 : List UInt8 := dkwL_law_6 ++ dktL_law_7
def dkwL_law_5 : List UInt8 := [182, 0, 22, 167, 0, 49, 43, 42, 29, 4, 96, 46, 42, 29, 5, 96, 46, 182, 0, 23, 44, 42, 29, 4]
abbrev dktL_law_5 : List UInt8 := dkwL_law_5 ++ dktL_law_6
def dkwL_law_4 : List UInt8 := [46, 182, 0, 17, 167, 0, 70, 43, 42, 29, 4, 96, 46, 182, 0, 18, 44, 42, 29, 4, 96, 46]
abbrev dktL_law_4 : List UInt8 := dkwL_law_4 ++ dktL_law_5
def dkwL_law_3 : List UInt8 := [43, 42, 29, 4, 96, 46, 42, 29, 5, 96, 46, 182, 0, 13, 44, 42, 29, 4, 96, 46, 42, 29, 5, 96]
abbrev dktL_law_3 : List UInt8 := dkwL_law_3 ++ dktL_law_4
def dkwL_law_2 : List UInt8 := [170, 0, 0, 0, 0, 0, 0, 130, 0, 0, 0, 0, 0, 0, 0, 3, 0, 0, 0, 32, 0, 0, 0, 63, 0, 0, 0, 84, 0, 0, 0, 117]
abbrev dktL_law_2 : List UInt8 := dkwL_law_2 ++ dktL_law_3
def dkwL_law_1 : List UInt8 := [163, 0, 144, 42, 29, 46, 6, 126]
abbrev dktL_law_1 : List UInt8 := dkwL_law_1 ++ dktL_law_2
def dkwL_law_0 : List UInt8 := [187, 0, 7, 89, 183, 0, 9, 76, 187, 0, 10, 89, 183, 0, 12, 77, 3, 62, 29, 42, 190, 16, 6, 100]
abbrev dktL_law_0 : List UInt8 := dkwL_law_0 ++ dktL_law_1
theorem dksL_law_0 : cL_law.data.toList.drop 0 = dktL_law_0 := by decide +kernel
theorem dksL_law_1 : cL_law.data.toList.drop 24 = dktL_law_1 := dk_seg dksL_law_0 24 rfl rfl
theorem dksL_law_2 : cL_law.data.toList.drop 32 = dktL_law_2 := dk_seg dksL_law_1 8 rfl rfl
theorem dksL_law_3 : cL_law.data.toList.drop 64 = dktL_law_3 := dk_seg dksL_law_2 32 rfl rfl
theorem dksL_law_4 : cL_law.data.toList.drop 88 = dktL_law_4 := dk_seg dksL_law_3 24 rfl rfl
theorem dksL_law_5 : cL_law.data.toList.drop 110 = dktL_law_5 := dk_seg dksL_law_4 22 rfl rfl
theorem dksL_law_6 : cL_law.data.toList.drop 134 = dktL_law_6 := dk_seg dksL_law_5 24 rfl rfl
theorem dksL_law_7 : cL_law.data.toList.drop 157 = dktL_law_7 := dk_seg dksL_law_6 23 rfl rfl
theorem dL_law_0 : decode cL_law 0 = .ok (.new 7, 3) := dk_187 0 7 (dk_at dksL_law_0 0 rfl rfl)
theorem dL_law_3 : decode cL_law 3 = .ok (.dup, 1) := dk_89 (dk_at dksL_law_0 3 rfl rfl)
theorem dL_law_4 : decode cL_law 4 = .ok (.invokespecial 9, 3) := dk_183 0 9 (dk_at dksL_law_0 4 rfl rfl)
theorem dL_law_7 : decode cL_law 7 = .ok (.astore_n 1, 1) := dk_76 (dk_at dksL_law_0 7 rfl rfl)
theorem dL_law_8 : decode cL_law 8 = .ok (.new 10, 3) := dk_187 0 10 (dk_at dksL_law_0 8 rfl rfl)
theorem dL_law_11 : decode cL_law 11 = .ok (.dup, 1) := dk_89 (dk_at dksL_law_0 11 rfl rfl)
theorem dL_law_12 : decode cL_law 12 = .ok (.invokespecial 12, 3) := dk_183 0 12 (dk_at dksL_law_0 12 rfl rfl)
theorem dL_law_15 : decode cL_law 15 = .ok (.astore_n 2, 1) := dk_77 (dk_at dksL_law_0 15 rfl rfl)
theorem dL_law_16 : decode cL_law 16 = .ok (.iconst 0, 1) := dk_3 (dk_at dksL_law_0 16 rfl rfl)
theorem dL_law_17 : decode cL_law 17 = .ok (.istore_n 3, 1) := dk_62 (dk_at dksL_law_0 17 rfl rfl)
theorem dL_law_18 : decode cL_law 18 = .ok (.iload_n 3, 1) := dk_29 (dk_at dksL_law_0 18 rfl rfl)
theorem dL_law_19 : decode cL_law 19 = .ok (.aload_n 0, 1) := dk_42 (dk_at dksL_law_0 19 rfl rfl)
theorem dL_law_20 : decode cL_law 20 = .ok (.arraylength, 1) := dk_190 (dk_at dksL_law_0 20 rfl rfl)
theorem dL_law_21 : decode cL_law 21 = .ok (.bipush 6, 2) := dk_16 6 (dk_at dksL_law_0 21 rfl rfl)
theorem dL_law_23 : decode cL_law 23 = .ok (.isub, 1) := dk_100 (dk_at dksL_law_0 23 rfl rfl)
theorem dL_law_24 : decode cL_law 24 = .ok (.if_icmp .gt 144, 3) := dk_163 0 144 (dk_at dksL_law_1 0 rfl rfl)
theorem dL_law_27 : decode cL_law 27 = .ok (.aload_n 0, 1) := dk_42 (dk_at dksL_law_1 3 rfl rfl)
theorem dL_law_28 : decode cL_law 28 = .ok (.iload_n 3, 1) := dk_29 (dk_at dksL_law_1 4 rfl rfl)
theorem dL_law_29 : decode cL_law 29 = .ok (.iaload, 1) := dk_46 (dk_at dksL_law_1 5 rfl rfl)
theorem dL_law_30 : decode cL_law 30 = .ok (.iconst 3, 1) := dk_6 (dk_at dksL_law_1 6 rfl rfl)
theorem dL_law_31 : decode cL_law 31 = .ok (.iand, 1) := dk_126 (dk_at dksL_law_1 7 rfl rfl)
theorem dL_law_32 : decode cL_law 32 = .ok (.tableswitch 130 0 3 #[32, 63, 84, 117], 32) := by decide +kernel
theorem dL_law_64 : decode cL_law 64 = .ok (.aload_n 1, 1) := dk_43 (dk_at dksL_law_3 0 rfl rfl)
theorem dL_law_65 : decode cL_law 65 = .ok (.aload_n 0, 1) := dk_42 (dk_at dksL_law_3 1 rfl rfl)
theorem dL_law_66 : decode cL_law 66 = .ok (.iload_n 3, 1) := dk_29 (dk_at dksL_law_3 2 rfl rfl)
theorem dL_law_67 : decode cL_law 67 = .ok (.iconst 1, 1) := dk_4 (dk_at dksL_law_3 3 rfl rfl)
theorem dL_law_68 : decode cL_law 68 = .ok (.iadd, 1) := dk_96 (dk_at dksL_law_3 4 rfl rfl)
theorem dL_law_69 : decode cL_law 69 = .ok (.iaload, 1) := dk_46 (dk_at dksL_law_3 5 rfl rfl)
theorem dL_law_70 : decode cL_law 70 = .ok (.aload_n 0, 1) := dk_42 (dk_at dksL_law_3 6 rfl rfl)
theorem dL_law_71 : decode cL_law 71 = .ok (.iload_n 3, 1) := dk_29 (dk_at dksL_law_3 7 rfl rfl)
theorem dL_law_72 : decode cL_law 72 = .ok (.iconst 2, 1) := dk_5 (dk_at dksL_law_3 8 rfl rfl)
theorem dL_law_73 : decode cL_law 73 = .ok (.iadd, 1) := dk_96 (dk_at dksL_law_3 9 rfl rfl)
theorem dL_law_74 : decode cL_law 74 = .ok (.iaload, 1) := dk_46 (dk_at dksL_law_3 10 rfl rfl)
theorem dL_law_75 : decode cL_law 75 = .ok (.invokevirtual 13, 3) := dk_182 0 13 (dk_at dksL_law_3 11 rfl rfl)
theorem dL_law_78 : decode cL_law 78 = .ok (.aload_n 2, 1) := dk_44 (dk_at dksL_law_3 14 rfl rfl)
theorem dL_law_79 : decode cL_law 79 = .ok (.aload_n 0, 1) := dk_42 (dk_at dksL_law_3 15 rfl rfl)
theorem dL_law_80 : decode cL_law 80 = .ok (.iload_n 3, 1) := dk_29 (dk_at dksL_law_3 16 rfl rfl)
theorem dL_law_81 : decode cL_law 81 = .ok (.iconst 1, 1) := dk_4 (dk_at dksL_law_3 17 rfl rfl)
theorem dL_law_82 : decode cL_law 82 = .ok (.iadd, 1) := dk_96 (dk_at dksL_law_3 18 rfl rfl)
theorem dL_law_83 : decode cL_law 83 = .ok (.iaload, 1) := dk_46 (dk_at dksL_law_3 19 rfl rfl)
theorem dL_law_84 : decode cL_law 84 = .ok (.aload_n 0, 1) := dk_42 (dk_at dksL_law_3 20 rfl rfl)
theorem dL_law_85 : decode cL_law 85 = .ok (.iload_n 3, 1) := dk_29 (dk_at dksL_law_3 21 rfl rfl)
theorem dL_law_86 : decode cL_law 86 = .ok (.iconst 2, 1) := dk_5 (dk_at dksL_law_3 22 rfl rfl)
theorem dL_law_87 : decode cL_law 87 = .ok (.iadd, 1) := dk_96 (dk_at dksL_law_3 23 rfl rfl)
theorem dL_law_88 : decode cL_law 88 = .ok (.iaload, 1) := dk_46 (dk_at dksL_law_4 0 rfl rfl)
theorem dL_law_89 : decode cL_law 89 = .ok (.invokevirtual 17, 3) := dk_182 0 17 (dk_at dksL_law_4 1 rfl rfl)
theorem dL_law_92 : decode cL_law 92 = .ok (.goto 70, 3) := dk_167 0 70 (dk_at dksL_law_4 4 rfl rfl)
theorem dL_law_95 : decode cL_law 95 = .ok (.aload_n 1, 1) := dk_43 (dk_at dksL_law_4 7 rfl rfl)
theorem dL_law_96 : decode cL_law 96 = .ok (.aload_n 0, 1) := dk_42 (dk_at dksL_law_4 8 rfl rfl)
theorem dL_law_97 : decode cL_law 97 = .ok (.iload_n 3, 1) := dk_29 (dk_at dksL_law_4 9 rfl rfl)
theorem dL_law_98 : decode cL_law 98 = .ok (.iconst 1, 1) := dk_4 (dk_at dksL_law_4 10 rfl rfl)
theorem dL_law_99 : decode cL_law 99 = .ok (.iadd, 1) := dk_96 (dk_at dksL_law_4 11 rfl rfl)
theorem dL_law_100 : decode cL_law 100 = .ok (.iaload, 1) := dk_46 (dk_at dksL_law_4 12 rfl rfl)
theorem dL_law_101 : decode cL_law 101 = .ok (.invokevirtual 18, 3) := dk_182 0 18 (dk_at dksL_law_4 13 rfl rfl)
theorem dL_law_104 : decode cL_law 104 = .ok (.aload_n 2, 1) := dk_44 (dk_at dksL_law_4 16 rfl rfl)
theorem dL_law_105 : decode cL_law 105 = .ok (.aload_n 0, 1) := dk_42 (dk_at dksL_law_4 17 rfl rfl)
theorem dL_law_106 : decode cL_law 106 = .ok (.iload_n 3, 1) := dk_29 (dk_at dksL_law_4 18 rfl rfl)
theorem dL_law_107 : decode cL_law 107 = .ok (.iconst 1, 1) := dk_4 (dk_at dksL_law_4 19 rfl rfl)
theorem dL_law_108 : decode cL_law 108 = .ok (.iadd, 1) := dk_96 (dk_at dksL_law_4 20 rfl rfl)
theorem dL_law_109 : decode cL_law 109 = .ok (.iaload, 1) := dk_46 (dk_at dksL_law_4 21 rfl rfl)
theorem dL_law_110 : decode cL_law 110 = .ok (.invokevirtual 22, 3) := dk_182 0 22 (dk_at dksL_law_5 0 rfl rfl)
theorem dL_law_113 : decode cL_law 113 = .ok (.goto 49, 3) := dk_167 0 49 (dk_at dksL_law_5 3 rfl rfl)
theorem dL_law_116 : decode cL_law 116 = .ok (.aload_n 1, 1) := dk_43 (dk_at dksL_law_5 6 rfl rfl)
theorem dL_law_117 : decode cL_law 117 = .ok (.aload_n 0, 1) := dk_42 (dk_at dksL_law_5 7 rfl rfl)
theorem dL_law_118 : decode cL_law 118 = .ok (.iload_n 3, 1) := dk_29 (dk_at dksL_law_5 8 rfl rfl)
theorem dL_law_119 : decode cL_law 119 = .ok (.iconst 1, 1) := dk_4 (dk_at dksL_law_5 9 rfl rfl)
theorem dL_law_120 : decode cL_law 120 = .ok (.iadd, 1) := dk_96 (dk_at dksL_law_5 10 rfl rfl)
theorem dL_law_121 : decode cL_law 121 = .ok (.iaload, 1) := dk_46 (dk_at dksL_law_5 11 rfl rfl)
theorem dL_law_122 : decode cL_law 122 = .ok (.aload_n 0, 1) := dk_42 (dk_at dksL_law_5 12 rfl rfl)
theorem dL_law_123 : decode cL_law 123 = .ok (.iload_n 3, 1) := dk_29 (dk_at dksL_law_5 13 rfl rfl)
theorem dL_law_124 : decode cL_law 124 = .ok (.iconst 2, 1) := dk_5 (dk_at dksL_law_5 14 rfl rfl)
theorem dL_law_125 : decode cL_law 125 = .ok (.iadd, 1) := dk_96 (dk_at dksL_law_5 15 rfl rfl)
theorem dL_law_126 : decode cL_law 126 = .ok (.iaload, 1) := dk_46 (dk_at dksL_law_5 16 rfl rfl)
theorem dL_law_127 : decode cL_law 127 = .ok (.invokevirtual 23, 3) := dk_182 0 23 (dk_at dksL_law_5 17 rfl rfl)
theorem dL_law_130 : decode cL_law 130 = .ok (.aload_n 2, 1) := dk_44 (dk_at dksL_law_5 20 rfl rfl)
theorem dL_law_131 : decode cL_law 131 = .ok (.aload_n 0, 1) := dk_42 (dk_at dksL_law_5 21 rfl rfl)
theorem dL_law_132 : decode cL_law 132 = .ok (.iload_n 3, 1) := dk_29 (dk_at dksL_law_5 22 rfl rfl)
theorem dL_law_133 : decode cL_law 133 = .ok (.iconst 1, 1) := dk_4 (dk_at dksL_law_5 23 rfl rfl)
theorem dL_law_134 : decode cL_law 134 = .ok (.iadd, 1) := dk_96 (dk_at dksL_law_6 0 rfl rfl)
theorem dL_law_135 : decode cL_law 135 = .ok (.iaload, 1) := dk_46 (dk_at dksL_law_6 1 rfl rfl)
theorem dL_law_136 : decode cL_law 136 = .ok (.aload_n 0, 1) := dk_42 (dk_at dksL_law_6 2 rfl rfl)
theorem dL_law_137 : decode cL_law 137 = .ok (.iload_n 3, 1) := dk_29 (dk_at dksL_law_6 3 rfl rfl)
theorem dL_law_138 : decode cL_law 138 = .ok (.iconst 2, 1) := dk_5 (dk_at dksL_law_6 4 rfl rfl)
theorem dL_law_139 : decode cL_law 139 = .ok (.iadd, 1) := dk_96 (dk_at dksL_law_6 5 rfl rfl)
theorem dL_law_140 : decode cL_law 140 = .ok (.iaload, 1) := dk_46 (dk_at dksL_law_6 6 rfl rfl)
theorem dL_law_141 : decode cL_law 141 = .ok (.invokevirtual 27, 3) := dk_182 0 27 (dk_at dksL_law_6 7 rfl rfl)
theorem dL_law_144 : decode cL_law 144 = .ok (.if_icmp .eq 18, 3) := dk_159 0 18 (dk_at dksL_law_6 10 rfl rfl)
theorem dL_law_147 : decode cL_law 147 = .ok (.iconst 0, 1) := dk_3 (dk_at dksL_law_6 13 rfl rfl)
theorem dL_law_148 : decode cL_law 148 = .ok (.ireturn, 1) := dk_172 (dk_at dksL_law_6 14 rfl rfl)
theorem dL_law_149 : decode cL_law 149 = .ok (.aload_n 1, 1) := dk_43 (dk_at dksL_law_6 15 rfl rfl)
theorem dL_law_150 : decode cL_law 150 = .ok (.invokevirtual 28, 3) := dk_182 0 28 (dk_at dksL_law_6 16 rfl rfl)
theorem dL_law_153 : decode cL_law 153 = .ok (.aload_n 2, 1) := dk_44 (dk_at dksL_law_6 19 rfl rfl)
theorem dL_law_154 : decode cL_law 154 = .ok (.invokevirtual 32, 3) := dk_182 0 32 (dk_at dksL_law_6 20 rfl rfl)
theorem dL_law_157 : decode cL_law 157 = .ok (.if_icmp .eq 5, 3) := dk_159 0 5 (dk_at dksL_law_7 0 rfl rfl)
theorem dL_law_160 : decode cL_law 160 = .ok (.iconst 0, 1) := dk_3 (dk_at dksL_law_7 3 rfl rfl)
theorem dL_law_161 : decode cL_law 161 = .ok (.ireturn, 1) := dk_172 (dk_at dksL_law_7 4 rfl rfl)
theorem dL_law_162 : decode cL_law 162 = .ok (.iinc 3 6, 3) := dk_132 3 6 (dk_at dksL_law_7 5 rfl rfl)
theorem dL_law_165 : decode cL_law 165 = .ok (.goto (-147), 3) := dk_167 255 109 (dk_at dksL_law_7 8 rfl rfl)
theorem dL_law_168 : decode cL_law 168 = .ok (.iconst 1, 1) := dk_4 (dk_at dksL_law_7 11 rfl rfl)
theorem dL_law_169 : decode cL_law 169 = .ok (.ireturn, 1) := dk_172 (dk_at dksL_law_7 12 rfl rfl)
end
section
/-! PURE: the placement's table of codes, as both programs fill it -/
set_option maxRecDepth 100000
/-- what stands at a place of the sheet: 0 nothing, 1 the fixed dark, 2 a bit of a codeword (which codeword, which bit) -/
abbrev pC : Type := Nat × Int32 × Int32
def pc0 : pC := (0, 0, 0)
def pcF : pC := (1, 0, 0)
/-- the shift of a column or row that comes round -/
def pm_k (S : Int32) : Int32 := 4 - (S + 4 - (S + 4) / 8 * 8)
def pm_ix (S row col : Int32) : Int32 := if row < 0 then (if col + pm_k S < 0 then (row + S + pm_k S) * S + (col + pm_k S + S) else (row + S) * S + (col + pm_k S)) else (if col < 0 then (row + pm_k S) * S + (col + S) else row * S + col)
/-- an index in range -/
def pm_in (i : Int32) (n : Nat) : Bool := decide (0 ≤ i.toInt) && decide (i.toInt < (n : Int))
def pm_mod (S row col pos bit : Int32) (T : List pC) : Option (List pC) := if pm_in (pm_ix S row col) T.length && pm_in pos 72 then some (T.set (pm_ix S row col).toNatClampNeg (2, pos, bit)) else none
def pm_utah (S row col pos : Int32) (T : List pC) : Option (List pC) :=
  (pm_mod S (row - 2) (col - 2) pos 1 T).bind fun T1 => (pm_mod S (row - 2) (col - 1) pos 2 T1).bind fun T2 => (pm_mod S (row - 1) (col - 2) pos 3 T2).bind fun T3 => (pm_mod S (row - 1) (col - 1) pos 4 T3).bind fun T4 => (pm_mod S (row - 1) col pos 5 T4).bind fun T5 => (pm_mod S row (col - 2) pos 6 T5).bind fun T6 => (pm_mod S row (col - 1) pos 7 T6).bind fun T7 => pm_mod S row col pos 8 T7
def pm_c1 (S pos : Int32) (T : List pC) : Option (List pC) :=
  (pm_mod S (S - 1) 0 pos 1 T).bind fun T1 => (pm_mod S (S - 1) 1 pos 2 T1).bind fun T2 => (pm_mod S (S - 1) 2 pos 3 T2).bind fun T3 => (pm_mod S 0 (S - 2) pos 4 T3).bind fun T4 => (pm_mod S 0 (S - 1) pos 5 T4).bind fun T5 => (pm_mod S 1 (S - 1) pos 6 T5).bind fun T6 => (pm_mod S 2 (S - 1) pos 7 T6).bind fun T7 => pm_mod S 3 (S - 1) pos 8 T7
def pm_c2 (S pos : Int32) (T : List pC) : Option (List pC) :=
  (pm_mod S (S - 3) 0 pos 1 T).bind fun T1 => (pm_mod S (S - 2) 0 pos 2 T1).bind fun T2 => (pm_mod S (S - 1) 0 pos 3 T2).bind fun T3 => (pm_mod S 0 (S - 4) pos 4 T3).bind fun T4 => (pm_mod S 0 (S - 3) pos 5 T4).bind fun T5 => (pm_mod S 0 (S - 2) pos 6 T5).bind fun T6 => (pm_mod S 0 (S - 1) pos 7 T6).bind fun T7 => pm_mod S 1 (S - 1) pos 8 T7
/-- a place that was reached: its eight bits, if nothing stands there -/
def pm_try (S row col pos : Int32) (T : List pC) : Option (Int32 × List pC) :=
  if pm_in (row * S + col) T.length = true then (if (T.getD (row * S + col).toNatClampNeg pc0).1 = 0 then (pm_utah S row col pos T).map fun T1 => (pos + 1, T1) else some (pos, T)) else none
def pm_up (S : Int32) : Nat → Int32 → Int32 → Int32 → List pC → Option (Int32 × Int32 × Int32 × List pC)
  | 0, _, _, _, _ => none
  | n + 1, row, col, pos, T => (if row < S ∧ ¬ col < 0 then pm_try S row col pos T else some (pos, T)).bind fun q => if ¬ row - 2 < 0 ∧ col + 2 < S then pm_up S n (row - 2) (col + 2) q.1 q.2 else some (row - 2, col + 2, q.1, q.2)
def pm_dn (S : Int32) : Nat → Int32 → Int32 → Int32 → List pC → Option (Int32 × Int32 × Int32 × List pC)
  | 0, _, _, _, _ => none
  | n + 1, row, col, pos, T => (if ¬ row < 0 ∧ col < S then pm_try S row col pos T else some (pos, T)).bind fun q => if row + 2 < S ∧ ¬ col - 2 < 0 then pm_dn S n (row + 2) (col - 2) q.1 q.2 else some (row + 2, col - 2, q.1, q.2)
/-- the two corners that sides 8, 10, 12, 14 reach -/
def pm_k1 (S row col pos : Int32) (T : List pC) : Option (Int32 × List pC) := if row = S ∧ col = 0 then (pm_c1 S pos T).map fun T1 => (pos + 1, T1) else some (pos, T)
def pm_k2 (S row col pos : Int32) (T : List pC) : Option (Int32 × List pC) := if row = S - 2 ∧ col = 0 ∧ ¬ S - S / 4 * 4 = 0 then (pm_c2 S pos T).map fun T1 => (pos + 1, T1) else some (pos, T)
/-- the corner of the end: two dark places, two light -/
def pm_fix (S : Int32) (T : List pC) : Option (List pC) :=
  if pm_in ((S - 1) * S + (S - 1)) T.length = true then (if (T.getD ((S - 1) * S + (S - 1)).toNatClampNeg pc0).1 = 0 then (if pm_in ((S - 2) * S + (S - 2)) T.length = true then some ((T.set ((S - 1) * S + (S - 1)).toNatClampNeg pcF).set ((S - 2) * S + (S - 2)).toNatClampNeg pcF) else none) else some T) else none
def pm_main (S : Int32) : Nat → Int32 → Int32 → Int32 → List pC → Option (List pC)
  | 0, _, _, _, _ => none
  | n + 1, row, col, pos, T => (pm_k1 S row col pos T).bind fun a => (pm_k2 S row col a.1 a.2).bind fun b =>
    if row = S - 2 ∧ col = 0 ∧ S - S / 8 * 8 = 4 then none else if row = S + 4 ∧ col = 2 ∧ S - S / 8 * 8 = 0 then none else
    (pm_up S 12 row col b.1 b.2).bind fun u => (pm_dn S 12 (u.1 + 1) (u.2.1 + 3) u.2.2.1 u.2.2.2).bind fun v =>
    if v.1 + 3 < S ∨ v.2.1 + 1 < S then pm_main S n (v.1 + 3) (v.2.1 + 1) v.2.2.1 v.2.2.2 else pm_fix S v.2.2.2
def pm_nil (S : Int32) : List pC := List.replicate (S * S).toNatClampNeg pc0
def pm_run (S : Int32) : Option (List pC) := pm_main S 8 4 0 0 (pm_nil S)
/-- a code that is read alike by both -/
def pm_ok (c : pC) : Bool := decide (c.1 ≤ 1) || (decide (1 ≤ c.2.2.toInt) && decide (c.2.2.toInt ≤ 8))
def pm_good (S : Int32) : Bool := match pm_run S with
  | none => false
  | some T => decide (T.length = (S * S).toNatClampNeg) && T.all pm_ok
theorem pm_good8 : pm_good 8 = true := by decide +kernel
theorem pm_good10 : pm_good 10 = true := by decide +kernel
theorem pm_good12 : pm_good 12 = true := by decide +kernel
theorem pm_good14 : pm_good 14 = true := by decide +kernel
/-- the table of a side -/
def pm_T (S : Int32) : List pC := (pm_run S).getD []
theorem pm_good_spec {S : Int32} (h : pm_good S = true) : pm_run S = some (pm_T S) ∧ (pm_T S).length = (S * S).toNatClampNeg ∧ ∀ c ∈ pm_T S, pm_ok c = true := by
  unfold pm_good at h
  cases hr : pm_run S with
  | none => rw [hr] at h; cases h
  | some T =>
    rw [hr] at h
    have e : pm_T S = T := by unfold pm_T; rw [hr]; rfl
    rw [e]
    have h1 := (Bool.and_eq_true _ _).mp h
    exact ⟨rfl, of_decide_eq_true h1.1, List.all_eq_true.mp h1.2⟩
/-- the sides -/
def pm_S (S : Int32) : Prop := S = 8 ∨ S = 10 ∨ S = 12 ∨ S = 14
theorem pm_S_good {S : Int32} (h : pm_S S) : pm_good S = true := by
  rcases h with rfl | rfl | rfl | rfl
  · exact pm_good8
  · exact pm_good10
  · exact pm_good12
  · exact pm_good14
theorem pm_in_iff {i : Int32} {n : Nat} : pm_in i n = true ↔ vp_in i n := by
  rw [vp_in_iff]
  simp [pm_in]
theorem pm_S_sq {S : Int32} (h : pm_S S) : ¬ S * S < 0 ∧ (S * S).toNatClampNeg ≤ 196 := by
  rcases h with rfl | rfl | rfl | rfl <;> decide +kernel
theorem ob_s {α β : Type} {x : Option α} {f : α → Option β} {z : β} (h : x.bind f = some z) : ∃ y, x = some y ∧ f y = some z := by
  cases x with
  | none => cases h
  | some y => exact ⟨y, rfl, h⟩
theorem ob_m {α β : Type} {x : Option α} {f : α → β} {z : β} (h : x.map f = some z) : ∃ y, x = some y ∧ f y = z := by
  cases x with
  | none => cases h
  | some y => exact ⟨y, rfl, Option.some.inj h⟩
theorem pm_mod_spec {S row col pos bit : Int32} {T T' : List pC} (h : pm_mod S row col pos bit T = some T') : vp_in (pm_ix S row col) T.length ∧ vp_in pos 72 ∧ T' = T.set (pm_ix S row col).toNatClampNeg (2, pos, bit) := by
  unfold pm_mod at h
  by_cases c : (pm_in (pm_ix S row col) T.length && pm_in pos 72) = true
  · rw [if_pos c] at h
    have c2 := (Bool.and_eq_true _ _).mp c
    exact ⟨pm_in_iff.mp c2.1, pm_in_iff.mp c2.2, (Option.some.inj h).symm⟩
  · rw [if_neg c] at h
    cases h
theorem pm_mod_len {S row col pos bit : Int32} {T T' : List pC} (h : pm_mod S row col pos bit T = some T') : T'.length = T.length := by
  rw [(pm_mod_spec h).2.2, List.length_set]
/-- eight bits, one behind the other -/
theorem pm_8 {f1 f2 f3 f4 f5 f6 f7 f8 : List pC → Option (List pC)} {T T' : List pC} (h : ((f1 T).bind fun T1 => (f2 T1).bind fun T2 => (f3 T2).bind fun T3 => (f4 T3).bind fun T4 => (f5 T4).bind fun T5 => (f6 T5).bind fun T6 => (f7 T6).bind fun T7 => f8 T7) = some T') : ∃ T1 T2 T3 T4 T5 T6 T7, f1 T = some T1 ∧ f2 T1 = some T2 ∧ f3 T2 = some T3 ∧ f4 T3 = some T4 ∧ f5 T4 = some T5 ∧ f6 T5 = some T6 ∧ f7 T6 = some T7 ∧ f8 T7 = some T' := by
  obtain ⟨T1, h1, h⟩ := ob_s h
  obtain ⟨T2, h2, h⟩ := ob_s h
  obtain ⟨T3, h3, h⟩ := ob_s h
  obtain ⟨T4, h4, h⟩ := ob_s h
  obtain ⟨T5, h5, h⟩ := ob_s h
  obtain ⟨T6, h6, h⟩ := ob_s h
  obtain ⟨T7, h7, h⟩ := ob_s h
  exact ⟨T1, T2, T3, T4, T5, T6, T7, h1, h2, h3, h4, h5, h6, h7, h⟩
theorem pm_utah_len {S row col pos : Int32} {T T' : List pC} (h : pm_utah S row col pos T = some T') : T'.length = T.length := by
  obtain ⟨T1, T2, T3, T4, T5, T6, T7, h1, h2, h3, h4, h5, h6, h7, h8⟩ := pm_8 h
  rw [pm_mod_len h8, pm_mod_len h7, pm_mod_len h6, pm_mod_len h5, pm_mod_len h4, pm_mod_len h3, pm_mod_len h2, pm_mod_len h1]
theorem pm_c1_len {S pos : Int32} {T T' : List pC} (h : pm_c1 S pos T = some T') : T'.length = T.length := by
  obtain ⟨T1, T2, T3, T4, T5, T6, T7, h1, h2, h3, h4, h5, h6, h7, h8⟩ := pm_8 h
  rw [pm_mod_len h8, pm_mod_len h7, pm_mod_len h6, pm_mod_len h5, pm_mod_len h4, pm_mod_len h3, pm_mod_len h2, pm_mod_len h1]
theorem pm_c2_len {S pos : Int32} {T T' : List pC} (h : pm_c2 S pos T = some T') : T'.length = T.length := by
  obtain ⟨T1, T2, T3, T4, T5, T6, T7, h1, h2, h3, h4, h5, h6, h7, h8⟩ := pm_8 h
  rw [pm_mod_len h8, pm_mod_len h7, pm_mod_len h6, pm_mod_len h5, pm_mod_len h4, pm_mod_len h3, pm_mod_len h2, pm_mod_len h1]
/-- the three ways of a try: nothing asked, something stands there, eight bits -/
theorem pm_try_spec {S row col pos : Int32} {T : List pC} {q : Int32 × List pC} (h : pm_try S row col pos T = some q) : vp_in (row * S + col) T.length ∧ (((T.getD (row * S + col).toNatClampNeg pc0).1 = 0 ∧ ∃ T1, pm_utah S row col pos T = some T1 ∧ q = (pos + 1, T1)) ∨ (¬ (T.getD (row * S + col).toNatClampNeg pc0).1 = 0 ∧ q = (pos, T))) := by
  unfold pm_try at h
  by_cases c : pm_in (row * S + col) T.length = true
  · rw [if_pos c] at h
    refine ⟨pm_in_iff.mp c, ?_⟩
    by_cases d : (T.getD (row * S + col).toNatClampNeg pc0).1 = 0
    · rw [if_pos d] at h
      obtain ⟨T1, h1, h2⟩ := ob_m h
      exact Or.inl ⟨d, T1, h1, h2.symm⟩
    · rw [if_neg d] at h
      exact Or.inr ⟨d, (Option.some.inj h).symm⟩
  · rw [if_neg c] at h
    cases h
theorem pm_try_len {S row col pos : Int32} {T : List pC} {q : Int32 × List pC} (h : pm_try S row col pos T = some q) : q.2.length = T.length := by
  rcases (pm_try_spec h).2 with ⟨-, T1, h1, rfl⟩ | ⟨-, rfl⟩
  · exact pm_utah_len h1
  · rfl
theorem pm_fix_spec {S : Int32} {T T' : List pC} (h : pm_fix S T = some T') : vp_in ((S - 1) * S + (S - 1)) T.length ∧ (((T.getD ((S - 1) * S + (S - 1)).toNatClampNeg pc0).1 = 0 ∧ vp_in ((S - 2) * S + (S - 2)) T.length ∧ T' = (T.set ((S - 1) * S + (S - 1)).toNatClampNeg pcF).set ((S - 2) * S + (S - 2)).toNatClampNeg pcF) ∨ (¬ (T.getD ((S - 1) * S + (S - 1)).toNatClampNeg pc0).1 = 0 ∧ T' = T)) := by
  unfold pm_fix at h
  by_cases c : pm_in ((S - 1) * S + (S - 1)) T.length = true
  · rw [if_pos c] at h
    refine ⟨pm_in_iff.mp c, ?_⟩
    by_cases d : (T.getD ((S - 1) * S + (S - 1)).toNatClampNeg pc0).1 = 0
    · rw [if_pos d] at h
      by_cases g : pm_in ((S - 2) * S + (S - 2)) T.length = true
      · rw [if_pos g] at h
        exact Or.inl ⟨d, pm_in_iff.mp g, (Option.some.inj h).symm⟩
      · rw [if_neg g] at h
        cases h
    · rw [if_neg d] at h
      exact Or.inr ⟨d, (Option.some.inj h).symm⟩
  · rw [if_neg c] at h
    cases h
/-- what the class holds for a code, what the reference holds; b: the codewords, bytes -/
def pm_cv (b : Nat → Nat) (c : pC) : Int32 := if c.1 = 0 then -1 else if c.1 = 1 then 1 else if nI (b c.2.1.toNatClampNeg) &&& (1 <<< ((8 - c.2.2) &&& 31)) = 0 then 0 else 1
def pm_mv (b : Nat → Nat) (c : pC) : Int32 := if c.1 = 0 then 0 else if c.1 = 1 then 2 else 1 + ((nI (b c.2.1.toNatClampNeg) >>> ((8 - c.2.2) &&& 31)) &&& 1)
def pcl (b : Nat → Nat) (T : List pC) : Nat → Int32 := fun i => pm_cv b (T.getD i pc0)
def pmd (b : Nat → Nat) (T : List pC) : Nat → Int32 := fun i => pm_mv b (T.getD i pc0)
theorem pm_getD_set {T : List pC} {k : Nat} (c : pC) (h : k < T.length) (j : Nat) : (T.set k c).getD j pc0 = if j = k then c else T.getD j pc0 := by
  simp only [List.getD_eq_getElem?_getD]
  by_cases e : j = k
  · subst e
    rw [if_pos rfl, List.getElem?_set_self h]
    rfl
  · rw [if_neg e, List.getElem?_set_ne (Ne.symm e)]
theorem pcl_set {b : Nat → Nat} {T : List pC} {k : Nat} {c : pC} {x : Int32} (h : k < T.length) (hx : x = pm_cv b c) : upd (pcl b T) k x = pcl b (T.set k c) := by
  funext j
  unfold pcl upd
  rw [pm_getD_set c h]
  by_cases e : j = k
  · rw [if_pos e, if_pos e, hx]
  · rw [if_neg e, if_neg e]
theorem pmd_set {b : Nat → Nat} {T : List pC} {k : Nat} {c : pC} {x : Int32} (h : k < T.length) (hx : x = pm_mv b c) : upd (pmd b T) k x = pmd b (T.set k c) := by
  funext j
  unfold pmd upd
  rw [pm_getD_set c h]
  by_cases e : j = k
  · rw [if_pos e, if_pos e, hx]
  · rw [if_neg e, if_neg e]
theorem pm_nil_getD (S : Int32) (i : Nat) : (pm_nil S).getD i pc0 = pc0 := by
  unfold pm_nil
  rw [List.getD_eq_getElem?_getD, List.getElem?_replicate]
  by_cases h : i < (S * S).toNatClampNeg
  · rw [if_pos h]; rfl
  · rw [if_neg h]; rfl
theorem pcl_nil (b : Nat → Nat) (S : Int32) : pcl b (pm_nil S) = fun _ => -1 := by
  funext i
  unfold pcl
  rw [pm_nil_getD]
  rfl
theorem pmd_nil (b : Nat → Nat) (S : Int32) : pmd b (pm_nil S) = fun _ => 0 := by
  funext i
  unfold pmd
  rw [pm_nil_getD]
  rfl
theorem pm_cv_free {b : Nat → Nat} {c : pC} : pm_cv b c < 0 ↔ c.1 = 0 := by
  unfold pm_cv
  by_cases h : c.1 = 0
  · rw [if_pos h]
    exact ⟨fun _ => h, fun _ => by decide⟩
  · rw [if_neg h]
    refine ⟨fun z => absurd z ?_, fun z => absurd z h⟩
    by_cases h1 : c.1 = 1
    · rw [if_pos h1]; decide
    · rw [if_neg h1]
      by_cases h2 : nI (b c.2.1.toNatClampNeg) &&& (1 <<< ((8 - c.2.2) &&& 31)) = 0
      · rw [if_pos h2]; decide
      · rw [if_neg h2]; decide
theorem pm_mv_free {b : Nat → Nat} {c : pC} : pm_mv b c = 0 ↔ c.1 = 0 := by
  unfold pm_mv
  by_cases h : c.1 = 0
  · rw [if_pos h]
    exact ⟨fun _ => h, fun _ => rfl⟩
  · rw [if_neg h]
    refine ⟨fun z => absurd z ?_, fun z => absurd z h⟩
    by_cases h1 : c.1 = 1
    · rw [if_pos h1]; decide
    · rw [if_neg h1]
      obtain ⟨j, hj, e⟩ := pk_andE (nI (b c.2.1.toNatClampNeg) >>> ((8 - c.2.2) &&& 31)) (m := 1) 1 (by decide +kernel)
      rw [e]
      intro z
      rcases (show j = 0 ∨ j = 1 by omega) with rfl | rfl
      · exact absurd z (by decide +kernel)
      · exact absurd z (by decide +kernel)
theorem pm_bits : ∀ n, n < 256 → ∀ k, k < 9 → 1 ≤ k → (¬ nI n &&& (1 <<< ((8 - nI k) &&& 31)) = 0 ↔ (nI n >>> ((8 - nI k) &&& 31)) &&& 1 = 1) := by decide +kernel
/-- both read a good code alike -/
theorem pm_alike {b : Nat → Nat} (hb : ∀ j, b j < 256) {c : pC} (h : pm_ok c = true) : pm_cv b c = 1 ↔ pm_mv b c = 2 := by
  unfold pm_cv pm_mv
  by_cases h0 : c.1 = 0
  · rw [if_pos h0, if_pos h0]; decide
  · rw [if_neg h0, if_neg h0]
    by_cases h1 : c.1 = 1
    · rw [if_pos h1, if_pos h1]; decide
    · rw [if_neg h1, if_neg h1]
      have hk : 1 ≤ c.2.2.toInt ∧ c.2.2.toInt ≤ 8 := by
        unfold pm_ok at h
        rcases (Bool.or_eq_true _ _).mp h with q | q
        · have := of_decide_eq_true q
          omega
        · have q2 := (Bool.and_eq_true _ _).mp q
          exact ⟨of_decide_eq_true q2.1, of_decide_eq_true q2.2⟩
      obtain ⟨k, hk9, ek⟩ := vp_in_of (x := c.2.2) (n := 9) (vp_in_iff.mpr ⟨by omega, by omega⟩) (by decide)
      have hk1 : 1 ≤ k := by
        have e1 := hk.1
        rw [ek, nI_toInt (by omega)] at e1
        omega
      rw [ek]
      have e := pm_bits (b c.2.1.toNatClampNeg) (hb _) k hk9 hk1
      obtain ⟨j, hj, ej⟩ := pk_andE (nI (b c.2.1.toNatClampNeg) >>> ((8 - nI k) &&& 31)) (m := 1) 1 (by decide +kernel)
      rw [ej] at e ⊢
      by_cases h2 : nI (b c.2.1.toNatClampNeg) &&& (1 <<< ((8 - nI k) &&& 31)) = 0
      · rw [if_pos h2]
        rcases (show j = 0 ∨ j = 1 by omega) with rfl | rfl
        · decide +kernel
        · exact absurd h2 (e.mpr (by decide +kernel))
      · rw [if_neg h2]
        rcases (show j = 0 ∨ j = 1 by omega) with rfl | rfl
        · exact absurd (e.mp h2) (by decide +kernel)
        · decide +kernel
theorem pm_mem_getD {T : List pC} {i : Nat} (h : i < T.length) : T.getD i pc0 ∈ T := by
  rw [List.getD_eq_getElem?_getD, List.getElem?_eq_getElem h]
  exact List.getElem_mem h
theorem pm_nil_ok {S : Int32} : ∀ c ∈ pm_nil S, pm_ok c = true := by
  intro c hc
  rw [List.eq_of_mem_replicate hc]
  decide +kernel
theorem pm_nil_len (S : Int32) : (pm_nil S).length = (S * S).toNatClampNeg := List.length_replicate
/-- reading both sheets at a place in range -/
theorem pm_same {b : Nat → Nat} (hb : ∀ j, b j < 256) {T : List pC} (hT : ∀ c ∈ T, pm_ok c = true) {i : Nat} (h : i < T.length) : pcl b T i = 1 ↔ pmd b T i = 2 := pm_alike hb (hT _ (pm_mem_getD h))
/-- the index of the question 'bit' -/
theorem pm_rem {x S : Int32} (hS : pm_S S) : ∃ j : Nat, j < S.toNatClampNeg ∧ (x &&& 2147483647) - (x &&& 2147483647) / S * S = nI j := by
  have e := pk_and x (m := 2147483647) 31 (by decide +kernel)
  have hlt : x.toBitVec.toNat % 2 ^ 31 < 2 ^ 31 := Nat.mod_lt _ (by decide)
  rw [e]
  rcases hS with rfl | rfl | rfl | rfl
  · exact ⟨_, Nat.mod_lt _ (by decide), pk_rem (d := 8) hlt (by decide) (by decide)⟩
  · exact ⟨_, Nat.mod_lt _ (by decide), pk_rem (d := 10) hlt (by decide) (by decide)⟩
  · exact ⟨_, Nat.mod_lt _ (by decide), pk_rem (d := 12) hlt (by decide) (by decide)⟩
  · exact ⟨_, Nat.mod_lt _ (by decide), pk_rem (d := 14) hlt (by decide) (by decide)⟩
theorem pm_sqN : ∀ {S : Int32}, pm_S S → S = nI S.toNatClampNeg ∧ (S * S).toNatClampNeg = S.toNatClampNeg * S.toNatClampNeg ∧ S.toNatClampNeg ≤ 14 := by
  intro S h
  rcases h with rfl | rfl | rfl | rfl <;> decide +kernel
theorem pm_bit_in {S x y : Int32} (hS : pm_S S) : vp_in (((y &&& 2147483647) - (y &&& 2147483647) / S * S) * S + ((x &&& 2147483647) - (x &&& 2147483647) / S * S)) (S * S).toNatClampNeg := by
  obtain ⟨i, hi, ei⟩ := pm_rem (x := x) hS
  obtain ⟨j, hj, ej⟩ := pm_rem (x := y) hS
  obtain ⟨e1, e2, e3⟩ := pm_sqN hS
  rw [ei, ej, e2]
  generalize hN : S.toNatClampNeg = N at *
  rw [e1, pk_mul, nI_add]
  refine vp_in_nI ?_ (Nat.lt_of_le_of_lt (Nat.mul_le_mul e3 e3) (by decide))
  calc j * N + i < j * N + N := Nat.add_lt_add_left hi _
    _ = (j + 1) * N := by rw [Nat.add_mul, Nat.one_mul]
    _ ≤ N * N := Nat.mul_le_mul_right N hj
/-- the index of 'put' -/
theorem pm_put_in (x : Int32) : vp_in ((x &&& 2147483647) - (x &&& 2147483647) / 72 * 72) 72 := by
  have e := pk_and x (m := 2147483647) 31 (by decide +kernel)
  have hlt : x.toBitVec.toNat % 2 ^ 31 < 2 ^ 31 := Nat.mod_lt _ (by decide)
  rw [e, show (72 : Int32) = nI 72 from rfl, pk_rem hlt (by decide) (by decide)]
  exact vp_in_nI (Nat.mod_lt _ (by decide)) (by decide)
/-- the codewords as ints, as the bytes of a String -/
def pd_wd (b : Nat → Nat) : Nat → Int32 := fun j => nI (b j)
def pd_by (b : Nat → Nat) : Nat → Int32 := fun j => (nI (b j)).toInt8.toInt32
def pd_pu (b : Nat → Nat) (k v : Nat) : Nat → Nat := fun j => if j = k then v else b j
theorem pd_pu_lt {b : Nat → Nat} (hb : ∀ j, b j < 256) {k v : Nat} (hv : v < 256) : ∀ j, pd_pu b k v j < 256 := by
  intro j
  unfold pd_pu
  by_cases h : j = k
  · rw [if_pos h]; exact hv
  · rw [if_neg h]; exact hb j
theorem pd_wd_pu (b : Nat → Nat) (k v : Nat) : upd (pd_wd b) k (nI v) = pd_wd (pd_pu b k v) := by
  funext j
  unfold upd pd_wd pd_pu
  by_cases h : j = k
  · rw [if_pos h, if_pos h]
  · rw [if_neg h, if_neg h]
theorem pd_by_and {b : Nat → Nat} (hb : ∀ j, b j < 256) (j : Nat) : pd_by b j &&& 255 = nI (b j) := sc_k8 _ (hb j)
theorem pm_cv2 (b : Nat → Nat) (p k : Int32) : pm_cv b (2, p, k) = if nI (b p.toNatClampNeg) &&& (1 <<< ((8 - k) &&& 31)) = 0 then 0 else 1 := by
  unfold pm_cv
  rw [if_neg (show ¬ (2 : Nat) = 0 by decide), if_neg (show ¬ (2 : Nat) = 1 by decide)]
theorem pm_mv2 (b : Nat → Nat) (p k : Int32) : pm_mv b (2, p, k) = 1 + ((nI (b p.toNatClampNeg) >>> ((8 - k) &&& 31)) &&& 1) := by
  unfold pm_mv
  rw [if_neg (show ¬ (2 : Nat) = 0 by decide), if_neg (show ¬ (2 : Nat) = 1 by decide)]
theorem pm_cvF (b : Nat → Nat) : pm_cv b pcF = 1 := rfl
theorem pm_mvF (b : Nat → Nat) : pm_mv b pcF = 2 := rfl
theorem pm_up_0 (S row col pos : Int32) (T : List pC) : pm_up S 0 row col pos T = none := rfl
theorem pm_up_s (S : Int32) (k : Nat) (row col pos : Int32) (T : List pC) : pm_up S (k + 1) row col pos T = (if row < S ∧ ¬ col < 0 then pm_try S row col pos T else some (pos, T)).bind fun q => if ¬ row - 2 < 0 ∧ col + 2 < S then pm_up S k (row - 2) (col + 2) q.1 q.2 else some (row - 2, col + 2, q.1, q.2) := rfl
theorem pm_dn_0 (S row col pos : Int32) (T : List pC) : pm_dn S 0 row col pos T = none := rfl
theorem pm_dn_s (S : Int32) (k : Nat) (row col pos : Int32) (T : List pC) : pm_dn S (k + 1) row col pos T = (if ¬ row < 0 ∧ col < S then pm_try S row col pos T else some (pos, T)).bind fun q => if row + 2 < S ∧ ¬ col - 2 < 0 then pm_dn S k (row + 2) (col - 2) q.1 q.2 else some (row + 2, col - 2, q.1, q.2) := rfl
theorem pm_main_0 (S row col pos : Int32) (T : List pC) : pm_main S 0 row col pos T = none := rfl
/-- one turn of the outer loop, in its pieces -/
theorem pm_main_s {S : Int32} {k : Nat} {row col pos : Int32} {T T1 : List pC} (h : pm_main S (k + 1) row col pos T = some T1) : ∃ a b u v, pm_k1 S row col pos T = some a ∧ pm_k2 S row col a.1 a.2 = some b ∧ ¬ (row = S - 2 ∧ col = 0 ∧ S - S / 8 * 8 = 4) ∧ ¬ (row = S + 4 ∧ col = 2 ∧ S - S / 8 * 8 = 0) ∧ pm_up S 12 row col b.1 b.2 = some u ∧ pm_dn S 12 (u.1 + 1) (u.2.1 + 3) u.2.2.1 u.2.2.2 = some v ∧ (if v.1 + 3 < S ∨ v.2.1 + 1 < S then pm_main S k (v.1 + 3) (v.2.1 + 1) v.2.2.1 v.2.2.2 else pm_fix S v.2.2.2) = some T1 := by
  have h : ((pm_k1 S row col pos T).bind fun a => (pm_k2 S row col a.1 a.2).bind fun b => if row = S - 2 ∧ col = 0 ∧ S - S / 8 * 8 = 4 then none else if row = S + 4 ∧ col = 2 ∧ S - S / 8 * 8 = 0 then none else (pm_up S 12 row col b.1 b.2).bind fun u => (pm_dn S 12 (u.1 + 1) (u.2.1 + 3) u.2.2.1 u.2.2.2).bind fun v => if v.1 + 3 < S ∨ v.2.1 + 1 < S then pm_main S k (v.1 + 3) (v.2.1 + 1) v.2.2.1 v.2.2.2 else pm_fix S v.2.2.2) = some T1 := h
  obtain ⟨a, h1, h⟩ := ob_s h
  obtain ⟨b, h2, h⟩ := ob_s h
  by_cases c3 : row = S - 2 ∧ col = 0 ∧ S - S / 8 * 8 = 4
  · rw [if_pos c3] at h
    cases h
  · rw [if_neg c3] at h
    by_cases c4 : row = S + 4 ∧ col = 2 ∧ S - S / 8 * 8 = 0
    · rw [if_pos c4] at h
      cases h
    · rw [if_neg c4] at h
      obtain ⟨u, h5, h⟩ := ob_s h
      obtain ⟨v, h6, h⟩ := ob_s h
      exact ⟨a, b, u, v, h1, h2, c3, c4, h5, h6, h⟩
theorem pm_if_len {S row col pos : Int32} {T : List pC} {q : Int32 × List pC} {c : Prop} [Decidable c] (h : (if c then pm_try S row col pos T else some (pos, T)) = some q) : q.2.length = T.length := by
  by_cases d : c
  · rw [if_pos d] at h
    exact pm_try_len h
  · rw [if_neg d] at h
    cases h
    rfl
theorem pm_k1_len {S row col pos : Int32} {T : List pC} {q : Int32 × List pC} (h : pm_k1 S row col pos T = some q) : q.2.length = T.length := by
  unfold pm_k1 at h
  by_cases d : row = S ∧ col = 0
  · rw [if_pos d] at h
    obtain ⟨T1, h1, rfl⟩ := ob_m h
    exact pm_c1_len h1
  · rw [if_neg d] at h
    cases h
    rfl
theorem pm_k2_len {S row col pos : Int32} {T : List pC} {q : Int32 × List pC} (h : pm_k2 S row col pos T = some q) : q.2.length = T.length := by
  unfold pm_k2 at h
  by_cases d : row = S - 2 ∧ col = 0 ∧ ¬ S - S / 4 * 4 = 0
  · rw [if_pos d] at h
    obtain ⟨T1, h1, rfl⟩ := ob_m h
    exact pm_c2_len h1
  · rw [if_neg d] at h
    cases h
    rfl
theorem pm_up_len {S : Int32} : ∀ (k : Nat) {row col pos : Int32} {T : List pC} {u : Int32 × Int32 × Int32 × List pC}, pm_up S k row col pos T = some u → u.2.2.2.length = T.length := by
  intro k
  induction k with
  | zero =>
    intro row col pos T u h
    rw [pm_up_0] at h
    cases h
  | succ k ih =>
    intro row col pos T u h
    rw [pm_up_s] at h
    obtain ⟨q, h1, h⟩ := ob_s h
    by_cases d : ¬ row - 2 < 0 ∧ col + 2 < S
    · rw [if_pos d] at h
      exact (ih h).trans (pm_if_len h1)
    · rw [if_neg d] at h
      cases h
      exact pm_if_len h1
theorem pm_dn_len {S : Int32} : ∀ (k : Nat) {row col pos : Int32} {T : List pC} {u : Int32 × Int32 × Int32 × List pC}, pm_dn S k row col pos T = some u → u.2.2.2.length = T.length := by
  intro k
  induction k with
  | zero =>
    intro row col pos T u h
    rw [pm_dn_0] at h
    cases h
  | succ k ih =>
    intro row col pos T u h
    rw [pm_dn_s] at h
    obtain ⟨q, h1, h⟩ := ob_s h
    by_cases d : row + 2 < S ∧ ¬ col - 2 < 0
    · rw [if_pos d] at h
      exact (ih h).trans (pm_if_len h1)
    · rw [if_neg d] at h
      cases h
      exact pm_if_len h1
end
section
/-! BASE: the classes whose objects the worlds hold, a contract's start and end in this claim's words, calls -/
abbrev vwCl : List vw_C := [(RX0, TX0, 3), (RX1, TX1, 4), (RJ0, TJ0, 4), (RX2, TX2, 4)]
/-- the method that the interface names -/
def pd_xc : MethodName := ⟨"java/lang/CharSequence", "charAt", "(I)C"⟩
/-- what rides along: the two statics, and what the interface's call asks -/
def pd_E (A : Nat → Prop) (U : State) (H : Heap) : Prop := va_Z RJ0 "COMPACT_STRINGS" "Z" (.int 1) A U H ∧ va_Zq RJ2 "SIOOBE_FORMATTER" "Ljava/util/function/BiFunction;" A U H ∧ va_Fw RJ0 pd_xc yJ0_charAt U
theorem pd_E.go {A A' : Nat → Prop} {u U : State} {H H1 : Heap} (h : pd_E A u H) (hvm : u.vm.Alike U.vm) (hq : ∀ a : Nat, a < H.size → ¬ A a → H1[a]? = H[a]?) (hAB : ∀ q, A' q → A q) : pd_E A' U H1 :=
  ⟨((h.1.kept hq).narrow hAB).moved hvm, ((h.2.1.kept hq).narrow hAB).moved hvm, h.2.2.moved (by decide +kernel) hvm⟩
/-- a contract's start: the cells ws, the arrays' classes tys -/
def pd_Pc (av : List Value) (D : va_G) (ws : va_W) (tys : List (ClassId × FieldType)) (sz : Nat) : Array Value → State → Prop := va_Pc av (fun U => U.heap.size = sz ∧ va_P D vwCl ws U.heap ∧ va_K D vwCl tys U ∧ va_D (fun _ => True) ws ∧ pd_E (va_A ws sz) U U.heap)
theorem pd_Pc.blind {av : List Value} {D : va_G} {ws : va_W} {tys : List (ClassId × FieldType)} {sz : Nat} : FrameBlind (pd_Pc av D ws tys sz) := by
  intro a U g mk q
  obtain ⟨q0, q1, qP, qK, qD, qE⟩ := q
  exact ⟨q0, q1, qP, va_K.moved (u := U) (U := U.calling g mk a) (Vm.Alike.refl U.vm) qK, qD, pd_E.go (u := U) (U := U.calling g mk a) qE (Vm.Alike.refl U.vm) (fun _ _ _ => rfl) (fun _ h => h)⟩
theorem pd_map_some {is : List Nat} {ws wc : va_W} (h : is.map (fun i => ws[i]?) = wc.map some) : is.filterMap (fun i => ws[i]?) = wc := by
  have e : is.filterMap (fun i => ws[i]?) = (is.map (fun i => ws[i]?)).filterMap id := by
    rw [List.filterMap_map]
    rfl
  rw [e, h, List.filterMap_map]
  induction wc with
  | nil => rfl
  | cons a l ih => simp
theorem pd_pre {s : State} {H : Heap} {locs : List Loc} {A : Nat → Prop} {D : va_G} {ws wc : va_W} {tys tysc : List (ClassId × FieldType)} {av : List Value} (isC isT : List Nat) (hP : va_P D vwCl ws H) (hK : va_K D vwCl tys s) (hD : va_D A ws) (hE : pd_E A s s.heap) (hS : va_S A s.heap H locs) (hA : ∀ q : Nat, s.heap.size ≤ q → A q)
    (hC : isC.map (fun i => ws[i]?) = wc.map some) (hn : va_nd isC = true) (hT : isT.filterMap (fun i => tys[i]?) = tysc) : ∀ U : State, U.heap = H → s.WarmedH U.vm → pd_Pc av D wc tysc H.size av.toArray U := by
  intro U hU hW
  subst hU
  refine ⟨rfl, rfl, hP.sub isC (pd_map_some hC), va_K.moved hW.alike (hK.sub isT hT), (hD.sub isC hn hC).weaken (fun _ _ _ _ => trivial), ?_⟩
  exact hE.go hW.alike (fun a h1 h2 => hS.2.1 a h1 h2) (va_free hD hS hA isC hC)
/-- a reader's start: it changes nothing, so no frame rides along -/
def pd_Pr (av : List Value) (D : va_G) (ws : va_W) (tys : List (ClassId × FieldType)) : Array Value → State → Prop := va_Pc av (fun U => va_P D vwCl ws U.heap ∧ va_K D vwCl tys U ∧ pd_E (fun _ => False) U U.heap)
theorem pd_Pr.blind {av : List Value} {D : va_G} {ws : va_W} {tys : List (ClassId × FieldType)} : FrameBlind (pd_Pr av D ws tys) := by
  intro a U g mk q
  obtain ⟨q0, qP, qK, qE⟩ := q
  exact ⟨q0, qP, va_K.moved (u := U) (U := U.calling g mk a) (Vm.Alike.refl U.vm) qK, pd_E.go (u := U) (U := U.calling g mk a) qE (Vm.Alike.refl U.vm) (fun _ _ _ => rfl) (fun _ h => h)⟩
theorem pd_prer {s : State} {H : Heap} {locs : List Loc} {A : Nat → Prop} {D : va_G} {ws wc : va_W} {tys tysc : List (ClassId × FieldType)} {av : List Value} (isC isT : List Nat) (hP : va_P D vwCl ws H) (hK : va_K D vwCl tys s) (hE : pd_E A s s.heap) (hS : va_S A s.heap H locs)
    (hC : isC.filterMap (fun i => ws[i]?) = wc) (hT : isT.filterMap (fun i => tys[i]?) = tysc) : ∀ U : State, U.heap = H → s.WarmedH U.vm → pd_Pr av D wc tysc av.toArray U := by
  intro U hU hW
  subst hU
  exact ⟨rfl, hP.sub isC hC, va_K.moved hW.alike (hK.sub isT hT), hE.go hW.alike (fun a h1 h2 => hS.2.1 a h1 h2) (fun _ h => h.elim)⟩
/-- the end of a method that makes no cell and answers nothing: the cells behind it -/
def pd_Qv (D : va_G) (w1 : va_W) (A : Nat → Prop) : Array Value → State → Outcome → State → Prop := va_Qv (fun _ : Unit => True) (fun _ t => va_P D vwCl w1 t.heap ∧ va_D A w1) A
/-- a call of such a method -/
theorem pd_goV {p : Program} {l : Launch} {e : Env} {R : Room} {s : State} {m : MethodId} {args : Array Value} {below : List Frame} {meth : Method} {c : Code} {H : Heap} {locs : List Loc} {cells slots : Nat} {Q : State → Prop} {pc : Nat} {ls : Array Slot} {rest st0 : List Value} {av : Array Value} {A : Nat → Prop} {D : va_G} {ws wc wr w1 : va_W} (isC isR : List Nat)
    (hP : va_P D vwCl ws H) (hD : va_D A ws) (hS : va_S A s.heap H locs) (hA : ∀ q : Nat, s.heap.size ≤ q → A q)
    (hC : isC.map (fun i => ws[i]?) = wc.map some) (hR : isR.map (fun i => ws[i]?) = wr.map some) (hn : va_nd isR = true) (hdis : ∀ i ∈ isR, i ∉ isC)
    (hr : va_Run p l e R s m args below meth c H locs cells slots 0 0 (F0 m pc ls st0) rest (pd_Qv D w1 (va_A wc H.size) av) (va_A wc H.size))
    (kk : ∀ (H1 : Heap) (locs1 : List Loc), va_P D vwCl (wr ++ w1) H1 → va_D A (wr ++ w1) → va_S A s.heap H1 locs1 → W p l e R s m args below meth c H1 locs1 cells slots Q (F0 m (pc + 3) ls rest)) : W p l e R s m args below meth c H locs cells slots Q (F0 m pc ls st0) := by
  have hFc := va_free (wc := wc) hD hS hA isC hC
  refine va_callv hr hS (fun q _ h => hFc q h) hFc (fun u t H1 locs1 ht hvm hw hB hz1 hk1 hS1 => ?_)
  obtain ⟨hP1, hD1⟩ := hB
  rw [ht] at hP1
  obtain ⟨hP2, hD2⟩ := va_join hP hD isC isR hC hR hn hdis hk1 hFc hP1 hD1
  exact kk H1 locs1 hP2 hD2 hS1
/-- an array's cell depends on its values in range alone -/
theorem pd_arr {D : va_G} {q : Nat} {cA : ClassId} {n : Nat} {f g : Nat → Int32} {H : Heap} (h : va_at D vwCl (q, .inl (cA, n, .inl f)) H) (e : ∀ j, j < n → f j = g j) : va_at D vwCl (q, .inl (cA, n, .inl g)) H := by
  have h1 : H[q]? = some (arrV cA n (fun j => .int (f j))) := h
  show H[q]? = some (arrV cA n (fun j => .int (g j)))
  rw [h1]
  have e2 : (Array.ofFn (n := n) fun j => (Value.int (f j.val))) = Array.ofFn (n := n) fun j => (Value.int (g j.val)) := by
    congr 1
    funext j
    rw [e j.val j.isLt]
  show some ({ cls := cA, slots := Array.ofFn (n := n) fun j => (Value.int (f j.val)), vm := .none } : Cell) = some ({ cls := cA, slots := Array.ofFn (n := n) fun j => (Value.int (g j.val)), vm := .none } : Cell)
  rw [e2]
theorem pd_arrP {D : va_G} {ws : va_W} {H : Heap} {A : Nat → Prop} (k : Nat) {q : Nat} {cA : ClassId} {n : Nat} {f g : Nat → Int32} (hP : va_P D vwCl ws H) (hD : va_D A ws) (hk : ws[k]? = some (q, .inl (cA, n, .inl f))) (e : ∀ j, j < n → f j = g j) : va_P D vwCl (ws.set k (q, .inl (cA, n, .inl g))) H ∧ va_D A (ws.set k (q, .inl (cA, n, .inl g))) :=
  ⟨hP.set hD hk (pd_arr (hP k _ hk) e) (fun _ _ => rfl), hD.set hk⟩
/-- the cells of a placed sheet: the object, its bits, its text, the text's bytes -/
abbrev pd_w1 (aD aB aS aV : Nat) (kB kV : ClassId) (S : Int32) (n : Nat) (f g : Nat → Int32) : va_W := [(aD, .inr (1, [.ref aS, .int S, .int S, .ref aB])), (aB, .inl (kB, n, .inl f)), (aS, .inr (2, [.ref aV, .int 0, .int 0, .int 0])), (aV, .inl (kV, 72, .inl g))]
/-- the end of a method that makes no cell and answers an int -/
def pd_Qi (D : va_G) (w1 : va_W) (v : Int32) (A : Nat → Prop) : Array Value → State → Outcome → State → Prop := va_Qi (fun (r : Int32) (_ : Unit) => r = v) (fun _ t => va_P D vwCl w1 t.heap ∧ va_D A w1) A
theorem pd_goI {p : Program} {l : Launch} {e : Env} {R : Room} {s : State} {m : MethodId} {args : Array Value} {below : List Frame} {meth : Method} {c : Code} {H : Heap} {locs : List Loc} {cells slots : Nat} {Q : State → Prop} {pc : Nat} {ls : Array Slot} {rest st0 : List Value} {av : Array Value} {A : Nat → Prop} {D : va_G} {ws wc wr w1 : va_W} {v : Int32} (isC isR : List Nat)
    (hP : va_P D vwCl ws H) (hD : va_D A ws) (hS : va_S A s.heap H locs) (hA : ∀ q : Nat, s.heap.size ≤ q → A q)
    (hC : isC.map (fun i => ws[i]?) = wc.map some) (hR : isR.map (fun i => ws[i]?) = wr.map some) (hn : va_nd isR = true) (hdis : ∀ i ∈ isR, i ∉ isC)
    (hr : va_Run p l e R s m args below meth c H locs cells slots 0 0 (F0 m pc ls st0) rest (pd_Qi D w1 v (va_A wc H.size) av) (va_A wc H.size))
    (kk : ∀ (H1 : Heap) (locs1 : List Loc), va_P D vwCl (wr ++ w1) H1 → va_D A (wr ++ w1) → va_S A s.heap H1 locs1 → W p l e R s m args below meth c H1 locs1 cells slots Q (F0 m (pc + 3) ls (.int v :: rest))) : W p l e R s m args below meth c H locs cells slots Q (F0 m pc ls st0) := by
  have hFc := va_free (wc := wc) hD hS hA isC hC
  refine va_calli hr hS (fun q _ h => hFc q h) hFc (fun r u t H1 locs1 ht hvm hw hB hz1 hk1 hS1 => ?_)
  obtain ⟨hP1, hD1⟩ := hB
  rw [ht] at hP1
  obtain ⟨hP2, hD2⟩ := va_join hP hD isC isR hC hR hn hdis hk1 hFc hP1 hD1
  obtain rfl : r = v := hw
  exact kk H1 locs1 hP2 hD2 hS1
/-- the end of a method that makes cells and answers nothing; u: what isn't known of the cells behind it -/
def pd_QA {S : Type} (D : va_G) (post : S → Prop) (w1 : S → va_W) (t1 : S → List (ClassId × FieldType)) (A : Nat → Prop) : Array Value → State → Outcome → State → Prop := va_Qv post (fun u t => va_P D vwCl (w1 u) t.heap ∧ va_K D vwCl (t1 u) t ∧ va_D A (w1 u)) A
theorem pd_goA {S : Type} {p : Program} {l : Launch} {e : Env} {R : Room} {s : State} {m : MethodId} {args : Array Value} {below : List Frame} {meth : Method} {c : Code} {H : Heap} {locs : List Loc} {cells slots mc ms : Nat} {Q : State → Prop} {pc : Nat} {ls : Array Slot} {rest st0 : List Value} {av : Array Value} {A : Nat → Prop} {D : va_G} {ws wc wr : va_W} {tys : List (ClassId × FieldType)} {post : S → Prop} {w1 : S → va_W} {t1 : S → List (ClassId × FieldType)} (isC isR : List Nat)
    (hK : va_K D vwCl tys s) (hP : va_P D vwCl ws H) (hD : va_D A ws) (hS : va_S A s.heap H locs) (hA : ∀ q : Nat, s.heap.size ≤ q → A q)
    (hC : isC.map (fun i => ws[i]?) = wc.map some) (hR : isR.map (fun i => ws[i]?) = wr.map some) (hn : va_nd isR = true) (hdis : ∀ i ∈ isR, i ∉ isC)
    (hr : va_Run p l e R s m args below meth c H locs cells slots mc ms (F0 m pc ls st0) rest (pd_QA D post w1 t1 (va_A wc H.size) av) (va_A wc H.size))
    (kk : ∀ (u : S) (H1 : Heap) (locs1 : List Loc), post u → va_K D vwCl (tys ++ t1 u) s → va_P D vwCl (wr ++ w1 u) H1 → va_D A (wr ++ w1 u) → va_S A s.heap H1 locs1 → W p l e R s m args below meth c H1 locs1 (cells + mc) (slots + ms) Q (F0 m (pc + 3) ls rest)) : W p l e R s m args below meth c H locs cells slots Q (F0 m pc ls st0) := by
  have hFc := va_free (wc := wc) hD hS hA isC hC
  refine va_callv hr hS (fun q _ h => hFc q h) hFc (fun u t H1 locs1 ht hvm hw hB hz1 hk1 hS1 => ?_)
  obtain ⟨hP1, hK1, hD1⟩ := hB
  rw [ht] at hP1
  obtain ⟨hP2, hD2⟩ := va_join hP hD isC isR hC hR hn hdis hk1 hFc hP1 hD1
  exact kk u H1 locs1 hw (hK.app (va_K.moved hvm.symm hK1)) hP2 hD2 hS1
/-- the same of a method that answers a cell -/
def pd_QR {S : Type} (D : va_G) (post : S → Prop) (w1 : S → Nat → va_W) (t1 : S → List (ClassId × FieldType)) (A : Nat → Prop) : Array Value → State → Outcome → State → Prop := va_Qr post (fun u q t => va_P D vwCl (w1 u q) t.heap ∧ va_K D vwCl (t1 u) t ∧ va_D A (w1 u q)) A
theorem pd_goR {S : Type} {p : Program} {l : Launch} {e : Env} {R : Room} {s : State} {m : MethodId} {args : Array Value} {below : List Frame} {meth : Method} {c : Code} {H : Heap} {locs : List Loc} {cells slots mc ms : Nat} {Q : State → Prop} {pc : Nat} {ls : Array Slot} {rest st0 : List Value} {av : Array Value} {A : Nat → Prop} {D : va_G} {ws wc wr : va_W} {tys : List (ClassId × FieldType)} {post : S → Prop} {w1 : S → Nat → va_W} {t1 : S → List (ClassId × FieldType)} (isC isR : List Nat)
    (hK : va_K D vwCl tys s) (hP : va_P D vwCl ws H) (hD : va_D A ws) (hS : va_S A s.heap H locs) (hA : ∀ q : Nat, s.heap.size ≤ q → A q)
    (hC : isC.map (fun i => ws[i]?) = wc.map some) (hR : isR.map (fun i => ws[i]?) = wr.map some) (hn : va_nd isR = true) (hdis : ∀ i ∈ isR, i ∉ isC)
    (hr : va_Run p l e R s m args below meth c H locs cells slots mc ms (F0 m pc ls st0) rest (pd_QR D post w1 t1 (va_A wc H.size) av) (va_A wc H.size))
    (kk : ∀ (u : S) (q : Nat) (H1 : Heap) (locs1 : List Loc), post u → va_K D vwCl (tys ++ t1 u) s → va_P D vwCl (wr ++ w1 u q) H1 → va_D A (wr ++ w1 u q) → va_S A s.heap H1 locs1 → W p l e R s m args below meth c H1 locs1 (cells + mc) (slots + ms) Q (F0 m (pc + 3) ls (.ref q :: rest))) : W p l e R s m args below meth c H locs cells slots Q (F0 m pc ls st0) := by
  have hFc := va_free (wc := wc) hD hS hA isC hC
  refine va_callr hr hS (fun q _ h => hFc q h) hFc (fun u q t H1 locs1 ht hvm hw hB hz1 hk1 hS1 => ?_)
  obtain ⟨hP1, hK1, hD1⟩ := hB
  rw [ht] at hP1
  obtain ⟨hP2, hD2⟩ := va_join hP hD isC isR hC hR hn hdis hk1 hFc hP1 hD1
  exact kk u q H1 locs1 hw (hK.app (va_K.moved hvm.symm hK1)) hP2 hD2 hS1
/-- a reader's call, its answer known -/
theorem pd_read {p : Program} {l : Launch} {e : Env} {R : Room} {s : State} {m : MethodId} {args : Array Value} {below : List Frame} {meth : Method} {c : Code} {H : Heap} {locs : List Loc} {cells slots : Nat} {Q : State → Prop} {pc : Nat} {ls : Array Slot} {rest st0 : List Value} {a : Array Value} {v : Int32} (hr : CallRun p l e R s m args below meth c H locs cells slots 0 0 (F0 m pc ls st0) rest (vp_Si (fun r => r = v) a) (fun _ => False))
    (kk : W p l e R s m args below meth c H locs cells slots Q (F0 m (pc + 3) ls (.int v :: rest))) : W p l e R s m args below meth c H locs cells slots Q (F0 m pc ls st0) := vp_callSi hr (fun r h => by rw [show r = v from h]; exact kk)
theorem pd_readF {p : Program} {l : Launch} {e : Env} {R : Room} {s : State} {m : MethodId} {args : Array Value} {below : List Frame} {meth : Method} {c : Code} {H : Heap} {locs : List Loc} {cells slots : Nat} {Q : State → Prop} {pc : Nat} {ls : Array Slot} {rest st0 : List Value} {a : Array Value} {v : Int32} (hr : va_Run5 p l e R s m args below meth c H locs cells slots 0 0 (F0 m pc ls st0) rest (vp_Si (fun r => r = v) a) (fun _ => False))
    (kk : W p l e R s m args below meth c H locs cells slots Q (F0 m (pc + 5) ls (.int v :: rest))) : W p l e R s m args below meth c H locs cells slots Q (F0 m pc ls st0) := va_csFi hr (fun r h => by rw [show r = v from h]; exact kk)
/-- what a call through the interface asks -/
theorem lw_F {own : String} {idx : Nat} {C : String} {x y : MethodName} {b : ByteArray} {L : Nat} {r : Option FieldType} (h1 : Cond.methodLink own idx x ∈ lw_all) (h2 : Cond.selects C x y ∈ lw_all) (h3 : Cond.instanceMethod y ∈ lw_all) (h4 : Cond.initialized y.cls ∈ lw_all) (h5 : Cond.code y b L r ∈ lw_all) : GoodIn lw_all (va_wsF own idx C x y (ws_ y b L r)) := by
  refine lw_app ?_ (lw_meth h5)
  intro w hw
  simp only [List.mem_cons, List.not_mem_nil, or_false] at hw
  rcases hw with e | e | e | e
  · rw [e]; exact h1
  · rw [e]; exact h2
  · rw [e]; exact h3
  · rw [e]; exact h4
theorem pd_iincm2 (x : Int32) : x + Int32.ofInt (-2) = x - 2 := by
  rw [Int32.sub_eq_add_neg]
  rfl
theorem pd_in72 {i : Int32} (h : vp_in i 72) : ¬ i < 0 ∧ i < 72 := by
  obtain ⟨j, hj, rfl⟩ := vp_in_of h (by decide)
  exact ⟨nI_pos (by omega), nI_lt (b := 72) hj (by decide)⟩
/-- one more place of a loop over an array -/
theorem pd_upto {f g : Nat → Int32} {i n : Nat} {x : Int32} (hi : i < n) (hn : n < 2 ^ 31) (h : ∀ j, j < i → f j = g j) (hx : x = g i) : ∀ j, j < i + 1 → upd f (nI i).toNatClampNeg x j = g j := by
  intro j hj
  rw [nI_clamp (by omega)]
  by_cases e : j = i
  · subst e
    rw [pk_us, hx]
  · rw [pk_un e]
    exact h j (by omega)
theorem vp_lt {i : Int32} {n : Nat} (h : vp_in i n) : i.toNatClampNeg < n := Nat.not_le.mp fun q => h (Or.inr q)
theorem pd_len72 : (72 : Int32).toNatClampNeg = 72 := by decide +kernel
end
section
/-! THE JDK: Preconditions.checkIndex, String.checkIndex, StringLatin1.charAt, String.isLatin1, String.charAt, Arrays.fill, StringUTF16.compress, String.<init> -/
set_option maxHeartbeats 4000000 in
set_option maxRecDepth 100000 in
/-- an index in range is handed back -/
theorem metJ2_checkIndex_n (l : Launch) (dC : Nat → ClassId) (dI : Nat → Nat → Nat) (i n : Int32) (h1 : ¬ i < 0) (h2 : i < n) : Met l yJ2_checkIndex (ws_ yJ2_checkIndex cJ2_checkIndex 3 (some .int)) ({ frames := 0, cells := 0, slots := 0, locals := 0 }) (pd_Pr [.int i, .int n, .null] (dC, dI) [] []) (vp_Si (fun r => r = i)) 0 0 (fun _ => False) := by
  refine Met.ofW (cc := cJ2_checkIndex) (maxL := 3) (ret := (some .int)) (by decide) rfl ?_
  intro p e s m args below meth c s₁ B hml hv
  obtain ⟨rfl, hP, hK, hE⟩ := hv
  have hx := B.exec
  have hb := B.bytes
  have hr := B.returns
  have hts := atoms_spec (ws := ws_ yJ2_checkIndex cJ2_checkIndex 3 (some .int)) B.pre
  have hts : ∀ w ∈ lw_all, w.before _ s = true := fun w h => hts w (List.mem_cons_of_mem _ h)
  have hown : s.vm.findClass RJ2 = some m.cls := findClass_of_methodNamed B.named
  have hlocks := B.notSynchronized
  have hS : va_S (fun _ : Nat => False) s.heap s.heap [] := va_S.rf
  have hP : va_P (dC, dI) vwCl [] s.heap := hP
  have hl := lv_entry ([.int i, .int n, .null]) (n := 3) (Nat.le_of_ble_eq_true rfl)
  rw [lg_entry_eq]
  generalize (lg_sl ([.int i, .int n, .null]) ++ List.replicate (3 - (lg_sl ([.int i, .int n, .null])).length) Slot.unset).toArray = ls at hl ⊢
  have hl : lv_has ls 3 [(0, .int i), (1, .int n), (2, .null)] := hl
  refine lv_iload_n hx hb dJ2_checkIndex_0 rfl (lv_at hl 0 rfl) ?_
  refine lv_if_lt (tgt := 9) hx hb dJ2_checkIndex_1 (by decide) (fun c1 => ?_) (fun c1 => ?_)
  · exact absurd c1 h1
  · refine lv_iload_n hx hb dJ2_checkIndex_4 rfl (lv_at hl 0 rfl) ?_
    refine lv_iload_n hx hb dJ2_checkIndex_5 rfl (lv_at hl 1 rfl) ?_
    refine lv_icmp_lt (tgt := 16) hx hb dJ2_checkIndex_6 (by decide) (fun c2 => ?_) (fun c2 => ?_)
    · refine lv_iload_n hx hb dJ2_checkIndex_16 rfl (lv_at hl 0 rfl) ?_
      exact W.iret (v := i) hx hb hr (fun t ht hW => ⟨i, rfl, rfl, ht⟩) hS.2.2 dJ2_checkIndex_17
    · exact absurd h2 c2
set_option maxHeartbeats 4000000 in
set_option maxRecDepth 100000 in
/-- an index in range is handed back -/
theorem metJ2_checkIndex_r (l : Launch) (dC : Nat → ClassId) (dI : Nat → Nat → Nat) (i n : Int32) (t : Nat) (h1 : ¬ i < 0) (h2 : i < n) : Met l yJ2_checkIndex (ws_ yJ2_checkIndex cJ2_checkIndex 3 (some .int)) ({ frames := 0, cells := 0, slots := 0, locals := 0 }) (pd_Pr [.int i, .int n, .ref t] (dC, dI) [] []) (vp_Si (fun r => r = i)) 0 0 (fun _ => False) := by
  refine Met.ofW (cc := cJ2_checkIndex) (maxL := 3) (ret := (some .int)) (by decide) rfl ?_
  intro p e s m args below meth c s₁ B hml hv
  obtain ⟨rfl, hP, hK, hE⟩ := hv
  have hx := B.exec
  have hb := B.bytes
  have hr := B.returns
  have hts := atoms_spec (ws := ws_ yJ2_checkIndex cJ2_checkIndex 3 (some .int)) B.pre
  have hts : ∀ w ∈ lw_all, w.before _ s = true := fun w h => hts w (List.mem_cons_of_mem _ h)
  have hown : s.vm.findClass RJ2 = some m.cls := findClass_of_methodNamed B.named
  have hlocks := B.notSynchronized
  have hS : va_S (fun _ : Nat => False) s.heap s.heap [] := va_S.rf
  have hP : va_P (dC, dI) vwCl [] s.heap := hP
  have hl := lv_entry ([.int i, .int n, .ref t]) (n := 3) (Nat.le_of_ble_eq_true rfl)
  rw [lg_entry_eq]
  generalize (lg_sl ([.int i, .int n, .ref t]) ++ List.replicate (3 - (lg_sl ([.int i, .int n, .ref t])).length) Slot.unset).toArray = ls at hl ⊢
  have hl : lv_has ls 3 [(0, .int i), (1, .int n), (2, .ref t)] := hl
  refine lv_iload_n hx hb dJ2_checkIndex_0 rfl (lv_at hl 0 rfl) ?_
  refine lv_if_lt (tgt := 9) hx hb dJ2_checkIndex_1 (by decide) (fun c1 => ?_) (fun c1 => ?_)
  · exact absurd c1 h1
  · refine lv_iload_n hx hb dJ2_checkIndex_4 rfl (lv_at hl 0 rfl) ?_
    refine lv_iload_n hx hb dJ2_checkIndex_5 rfl (lv_at hl 1 rfl) ?_
    refine lv_icmp_lt (tgt := 16) hx hb dJ2_checkIndex_6 (by decide) (fun c2 => ?_) (fun c2 => ?_)
    · refine lv_iload_n hx hb dJ2_checkIndex_16 rfl (lv_at hl 0 rfl) ?_
      exact W.iret (v := i) hx hb hr (fun t ht hW => ⟨i, rfl, rfl, ht⟩) hS.2.2 dJ2_checkIndex_17
    · exact absurd h2 c2
set_option maxHeartbeats 4000000 in
set_option maxRecDepth 100000 in
/-- an index in range: nothing happens -/
theorem metJ0_checkIndex (l : Launch) (dC : Nat → ClassId) (dI : Nat → Nat → Nat) (i n : Int32) (h1 : ¬ i < 0) (h2 : i < n) : Met l yJ0_checkIndex (ws_ yJ0_checkIndex cJ0_checkIndex 2 none) ({ frames := 1, cells := 0, slots := 0, locals := 22 }) (pd_Pr [.int i, .int n] (dC, dI) [] []) (va_Sv (fun _ => True)) 0 0 (fun _ => False) := by
  refine Met.ofW (cc := cJ0_checkIndex) (maxL := 2) (ret := none) (by decide) rfl ?_
  intro p e s m args below meth c s₁ B hml hv
  obtain ⟨rfl, hP, hK, hE⟩ := hv
  have hx := B.exec
  have hb := B.bytes
  have hr := B.returns
  have hts := atoms_spec (ws := ws_ yJ0_checkIndex cJ0_checkIndex 2 none) B.pre
  have hts : ∀ w ∈ lw_all, w.before _ s = true := fun w h => hts w (List.mem_cons_of_mem _ h)
  have hown : s.vm.findClass RJ0 = some m.cls := findClass_of_methodNamed B.named
  have hlocks := B.notSynchronized
  have hS : va_S (fun _ : Nat => False) s.heap s.heap [] := va_S.rf
  have hP : va_P (dC, dI) vwCl [] s.heap := hP
  have hl := lv_entry ([.int i, .int n]) (n := 2) (Nat.le_of_ble_eq_true rfl)
  rw [lg_entry_eq]
  generalize (lg_sl ([.int i, .int n]) ++ List.replicate (2 - (lg_sl ([.int i, .int n])).length) Slot.unset).toArray = ls at hl ⊢
  have hl : lv_has ls 2 [(0, .int i), (1, .int n)] := hl
  refine lv_iload_n hx hb dJ0_checkIndex_0 rfl (lv_at hl 0 rfl) ?_
  refine lv_iload_n hx hb dJ0_checkIndex_1 rfl (lv_at hl 1 rfl) ?_
  rcases hE.2.1 with hZ | ⟨x0, hZ⟩
  · refine va_gets (v := .null) hx hb hZ hS hown (hts _ q86) (fun _ h9 => h9) dJ0_checkIndex_2 ?_
    refine pd_read (v := i) (W.runS (As := [.int i, .int n, .null]) (rest := []) ⟨hx, hb, hml, hown, hts⟩ (metJ2_checkIndex_n l dC dI i n h1 h2) (va_cwS 3 hts (lw_S q179 q180 q20 q181) rfl rfl rfl (by decide +kernel) ⟨Nat.le_of_ble_eq_true rfl, Nat.le_of_ble_eq_true rfl⟩) ⟨pd_Pr.blind, pd_prer [] [] hP hK hE hS rfl rfl⟩ rfl rfl hl.1 rfl (lv_room (Nat.le_of_ble_eq_true rfl)) dJ0_checkIndex_5 ⟨Nat.le_of_ble_eq_true rfl, Nat.le_of_ble_eq_true rfl⟩) ?_
    refine lv_pop hx hb dJ0_checkIndex_8 rfl ?_
    exact W.vret hx hb hr (fun t ht hW => ⟨rfl, trivial, ht⟩) hS.2.2 dJ0_checkIndex_9
  · refine va_gets (v := .ref x0) hx hb hZ hS hown (hts _ q86) (fun _ h9 => h9) dJ0_checkIndex_2 ?_
    refine pd_read (v := i) (W.runS (As := [.int i, .int n, .ref x0]) (rest := []) ⟨hx, hb, hml, hown, hts⟩ (metJ2_checkIndex_r l dC dI i n x0 h1 h2) (va_cwS 3 hts (lw_S q179 q180 q20 q181) rfl rfl rfl (by decide +kernel) ⟨Nat.le_of_ble_eq_true rfl, Nat.le_of_ble_eq_true rfl⟩) ⟨pd_Pr.blind, pd_prer [] [] hP hK hE hS rfl rfl⟩ rfl rfl hl.1 rfl (lv_room (Nat.le_of_ble_eq_true rfl)) dJ0_checkIndex_5 ⟨Nat.le_of_ble_eq_true rfl, Nat.le_of_ble_eq_true rfl⟩) ?_
    refine lv_pop hx hb dJ0_checkIndex_8 rfl ?_
    exact W.vret hx hb hr (fun t ht hW => ⟨rfl, trivial, ht⟩) hS.2.2 dJ0_checkIndex_9
set_option maxHeartbeats 4000000 in
set_option maxRecDepth 100000 in
/-- the byte at a place, from 0 to 255 -/
theorem metJ4_charAt (l : Launch) (dC : Nat → ClassId) (dI : Nat → Nat → Nat) (aV : Nat) (kV : ClassId) (g : Nat → Int32) (i : Int32) (h : vp_in i 72) : Met l yJ4_charAt (ws_ yJ4_charAt cJ4_charAt 2 (some .char)) ({ frames := 2, cells := 0, slots := 0, locals := 43 }) (pd_Pr [.ref aV, .int i] (dC, dI) [(aV, .inl (kV, 72, .inl g))] [(kV, .byte)]) (vp_Si (fun r => r = g i.toNatClampNeg &&& 255)) 0 0 (fun _ => False) := by
  refine Met.ofW (cc := cJ4_charAt) (maxL := 2) (ret := (some .char)) (by decide) rfl ?_
  intro p e s m args below meth c s₁ B hml hv
  obtain ⟨rfl, hP, hK, hE⟩ := hv
  have hx := B.exec
  have hb := B.bytes
  have hr := B.returns
  have hts := atoms_spec (ws := ws_ yJ4_charAt cJ4_charAt 2 (some .char)) B.pre
  have hts : ∀ w ∈ lw_all, w.before _ s = true := fun w h => hts w (List.mem_cons_of_mem _ h)
  have hown : s.vm.findClass RJ4 = some m.cls := findClass_of_methodNamed B.named
  have hlocks := B.notSynchronized
  have hS : va_S (fun _ : Nat => False) s.heap s.heap [] := va_S.rf
  have hP : va_P (dC, dI) vwCl [(aV, .inl (kV, 72, .inl g))] s.heap := hP
  have hl := lv_entry ([.ref aV, .int i]) (n := 2) (Nat.le_of_ble_eq_true rfl)
  rw [lg_entry_eq]
  generalize (lg_sl ([.ref aV, .int i]) ++ List.replicate (2 - (lg_sl ([.ref aV, .int i])).length) Slot.unset).toArray = ls at hl ⊢
  have hl : lv_has ls 2 [(0, .ref aV), (1, .int i)] := hl
  refine lv_iload_n hx hb dJ4_charAt_0 rfl (lv_at hl 1 rfl) ?_
  refine lv_aload_n hx hb dJ4_charAt_1 rfl (lv_at hl 0 rfl) ?_
  refine va_alen (v := 72) hx hb hK hP 0 0 rfl rfl rfl dJ4_charAt_2 ?_
  refine va_csv (W.runS (As := [.int i, .int 72]) (rest := []) ⟨hx, hb, hml, hown, hts⟩ (metJ0_checkIndex l dC dI i 72 (pd_in72 h).1 (pd_in72 h).2) (va_cwS 2 hts (lw_S q176 q177 q18 q178) rfl rfl rfl (by decide +kernel) ⟨Nat.le_of_ble_eq_true rfl, Nat.le_of_ble_eq_true rfl⟩) ⟨pd_Pr.blind, pd_prer [] [] hP hK hE hS rfl rfl⟩ rfl rfl hl.1 rfl (lv_room (Nat.le_of_ble_eq_true rfl)) dJ4_charAt_3 ⟨Nat.le_of_ble_eq_true rfl, Nat.le_of_ble_eq_true rfl⟩) (fun _ => ?_)
  refine lv_aload_n hx hb dJ4_charAt_6 rfl (lv_at hl 0 rfl) ?_
  refine lv_iload_n hx hb dJ4_charAt_7 rfl (lv_at hl 1 rfl) ?_
  refine va_bald hx hb hK hP 0 0 rfl rfl h dJ4_charAt_8 ?_
  refine lv_sipush (v := 255) hx hb dJ4_charAt_9 (by decide) ?_
  refine lv_iand hx hb dJ4_charAt_12 ?_
  refine lv_i2c (v := g i.toNatClampNeg &&& 255) hx hb dJ4_charAt_13 (sc_c2 _) ?_
  exact W.zret (v := g i.toNatClampNeg &&& 255) hx hb hr (sc_nar _) (fun t ht hW => ⟨_, rfl, rfl, ht⟩) hS.2.2 dJ4_charAt_14
set_option maxHeartbeats 4000000 in
set_option maxRecDepth 100000 in
/-- a text of bytes says so -/
theorem metJ0_isLatin1 (l : Launch) (dC : Nat → ClassId) (dI : Nat → Nat → Nat) (aS aV : Nat) : Met l yJ0_isLatin1 (ws_ yJ0_isLatin1 cJ0_isLatin1 1 (some .boolean)) ({ frames := 0, cells := 0, slots := 0, locals := 0 }) (pd_Pr [.ref aS] (dC, dI) [(aS, .inr (2, [.ref aV, .int 0, .int 0, .int 0]))] []) (vp_Si (fun r => r = 1)) 0 0 (fun _ => False) := by
  refine Met.ofW (cc := cJ0_isLatin1) (maxL := 1) (ret := (some .boolean)) (by decide) rfl ?_
  intro p e s m args below meth c s₁ B hml hv
  obtain ⟨rfl, hP, hK, hE⟩ := hv
  have hx := B.exec
  have hb := B.bytes
  have hr := B.returns
  have hts := atoms_spec (ws := ws_ yJ0_isLatin1 cJ0_isLatin1 1 (some .boolean)) B.pre
  have hts : ∀ w ∈ lw_all, w.before _ s = true := fun w h => hts w (List.mem_cons_of_mem _ h)
  have hown : s.vm.findClass RJ0 = some m.cls := findClass_of_methodNamed B.named
  have hlocks := B.notSynchronized
  have hS : va_S (fun _ : Nat => False) s.heap s.heap [] := va_S.rf
  have hP : va_P (dC, dI) vwCl [(aS, .inr (2, [.ref aV, .int 0, .int 0, .int 0]))] s.heap := hP
  have hl := lv_entry ([.ref aS]) (n := 1) (Nat.le_of_ble_eq_true rfl)
  rw [lg_entry_eq]
  generalize (lg_sl ([.ref aS]) ++ List.replicate (1 - (lg_sl ([.ref aS])).length) Slot.unset).toArray = ls at hl ⊢
  have hl : lv_has ls 1 [(0, .ref aS)] := hl
  refine va_gets (v := .int 1) hx hb hE.1 hS hown (hts _ q44) (fun _ h9 => h9) dJ0_isLatin1_0 ?_
  refine lv_if_eq (tgt := 17) hx hb dJ0_isLatin1_3 (by decide) (fun c1 => ?_) (fun c1 => ?_)
  · exact absurd c1 (by decide)
  · refine lv_aload_n hx hb dJ0_isLatin1_6 rfl (lv_at hl 0 rfl) ?_
    refine va_get (D := (dC, dI)) (ci := 2) (v := .int 0) (C := RJ0) (T := TJ0) (N := 4) hx hb hts in_J0 hown hK hP 0 rfl rfl 1 (by decide) (hts _ q96) (fun _ h9 => h9) rfl dJ0_isLatin1_7 ?_
    refine lv_if_ne (tgt := 17) hx hb dJ0_isLatin1_10 (by decide) (fun c2 => ?_) (fun c2 => ?_)
    · exact absurd rfl c2
    · refine lv_iconst (v := 1) hx hb dJ0_isLatin1_13 (by decide) ?_
      refine lv_goto (tgt := 18) hx hb dJ0_isLatin1_14 (by decide) ?_
      exact W.zret (v := 1) hx hb hr rfl (fun t ht hW => ⟨1, rfl, rfl, ht⟩) hS.2.2 dJ0_isLatin1_18
set_option maxHeartbeats 4000000 in
set_option maxRecDepth 100000 in
/-- the sign at a place -/
theorem metJ0_charAt (l : Launch) (dC : Nat → ClassId) (dI : Nat → Nat → Nat) (aS aV : Nat) (kV : ClassId) (g : Nat → Int32) (i : Int32) (h : vp_in i 72) : Met l yJ0_charAt (ws_ yJ0_charAt cJ0_charAt 2 (some .char)) ({ frames := 3, cells := 0, slots := 0, locals := 64 }) (pd_Pr [.ref aS, .int i] (dC, dI) [(aS, .inr (2, [.ref aV, .int 0, .int 0, .int 0])), (aV, .inl (kV, 72, .inl g))] [(kV, .byte)]) (vp_Si (fun r => r = g i.toNatClampNeg &&& 255)) 0 0 (fun _ => False) := by
  refine Met.ofW (cc := cJ0_charAt) (maxL := 2) (ret := (some .char)) (by decide) rfl ?_
  intro p e s m args below meth c s₁ B hml hv
  obtain ⟨rfl, hP, hK, hE⟩ := hv
  have hx := B.exec
  have hb := B.bytes
  have hr := B.returns
  have hts := atoms_spec (ws := ws_ yJ0_charAt cJ0_charAt 2 (some .char)) B.pre
  have hts : ∀ w ∈ lw_all, w.before _ s = true := fun w h => hts w (List.mem_cons_of_mem _ h)
  have hown : s.vm.findClass RJ0 = some m.cls := findClass_of_methodNamed B.named
  have hlocks := B.notSynchronized
  have hS : va_S (fun _ : Nat => False) s.heap s.heap [] := va_S.rf
  have hP : va_P (dC, dI) vwCl [(aS, .inr (2, [.ref aV, .int 0, .int 0, .int 0])), (aV, .inl (kV, 72, .inl g))] s.heap := hP
  have hl := lv_entry ([.ref aS, .int i]) (n := 2) (Nat.le_of_ble_eq_true rfl)
  rw [lg_entry_eq]
  generalize (lg_sl ([.ref aS, .int i]) ++ List.replicate (2 - (lg_sl ([.ref aS, .int i])).length) Slot.unset).toArray = ls at hl ⊢
  have hl : lv_has ls 2 [(0, .ref aS), (1, .int i)] := hl
  refine lv_aload_n hx hb dJ0_charAt_0 rfl (lv_at hl 0 rfl) ?_
  refine pd_read (v := 1) (W.runV (As := []) (rest := []) ⟨hx, hb, hml, hown, hts⟩ (metJ0_isLatin1 l dC dI aS aV) (cwV 0 hts (lw_V q169 q170 q171 q18 q172) rfl rfl rfl (by decide +kernel) ⟨Nat.le_of_ble_eq_true rfl, Nat.le_of_ble_eq_true rfl⟩) ⟨pd_Pr.blind, va_recv hK hP (ci := 2) (q0 := 0) rfl rfl, pd_prer [0] [] hP hK hE hS rfl rfl⟩ rfl rfl hl.1 rfl (lv_room (Nat.le_of_ble_eq_true rfl)) dJ0_charAt_1 ⟨Nat.le_of_ble_eq_true rfl, Nat.le_of_ble_eq_true rfl⟩) ?_
  refine lv_if_eq (tgt := 16) hx hb dJ0_charAt_4 (by decide) (fun c2 => ?_) (fun c2 => ?_)
  · exact absurd c2 (by decide)
  · refine lv_aload_n hx hb dJ0_charAt_7 rfl (lv_at hl 0 rfl) ?_
    refine va_get (D := (dC, dI)) (ci := 2) (v := .ref aV) (C := RJ0) (T := TJ0) (N := 4) hx hb hts in_J0 hown hK hP 0 rfl rfl 0 (by decide) (hts _ q95) (fun _ h9 => h9) rfl dJ0_charAt_8 ?_
    refine lv_iload_n hx hb dJ0_charAt_11 rfl (lv_at hl 1 rfl) ?_
    refine pd_read (v := g i.toNatClampNeg &&& 255) (W.runS (As := [.ref aV, .int i]) (rest := []) ⟨hx, hb, hml, hown, hts⟩ (metJ4_charAt l dC dI aV kV g i h) (va_cwS 2 hts (lw_S q173 q174 q23 q175) rfl rfl rfl (by decide +kernel) ⟨Nat.le_of_ble_eq_true rfl, Nat.le_of_ble_eq_true rfl⟩) ⟨pd_Pr.blind, pd_prer [1] [0] hP hK hE hS rfl rfl⟩ rfl rfl hl.1 rfl (lv_room (Nat.le_of_ble_eq_true rfl)) dJ0_charAt_12 ⟨Nat.le_of_ble_eq_true rfl, Nat.le_of_ble_eq_true rfl⟩) ?_
    exact W.zret (v := g i.toNatClampNeg &&& 255) hx hb hr (sc_nar _) (fun t ht hW => ⟨_, rfl, rfl, ht⟩) hS.2.2 dJ0_charAt_15
set_option maxHeartbeats 4000000 in
set_option maxRecDepth 100000 in
/-- every place holds the value -/
theorem metJ3_fill (l : Launch) (dC : Nat → ClassId) (dI : Nat → Nat → Nat) (sz : Nat) (aB : Nat) (kB : ClassId) (n : Nat) (f : Nat → Int32) (v : Int32) (hn : n < 2 ^ 31) : Met l yJ3_fill (ws_ yJ3_fill cJ3_fill 4 none) ({ frames := 0, cells := 0, slots := 0, locals := 0 }) (pd_Pc [.ref aB, .int v] (dC, dI) [(aB, .inl (kB, n, .inl f))] [(kB, .byte)] sz) (pd_Qv (dC, dI) [(aB, .inl (kB, n, .inl (fun _ => vp_nar .byte v)))] (va_A [(aB, .inl (kB, n, .inl f))] sz)) 0 0 (va_A [(aB, .inl (kB, n, .inl f))] sz) := by
  refine Met.ofW (cc := cJ3_fill) (maxL := 4) (ret := none) (by decide) rfl ?_
  intro p e s m args below meth c s₁ B hml hv
  obtain ⟨rfl, hsz, hP, hK, hD0, hE⟩ := hv
  have hx := B.exec
  have hb := B.bytes
  have hr := B.returns
  have hts := atoms_spec (ws := ws_ yJ3_fill cJ3_fill 4 none) B.pre
  have hts : ∀ w ∈ lw_all, w.before _ s = true := fun w h => hts w (List.mem_cons_of_mem _ h)
  have hown : s.vm.findClass RJ3 = some m.cls := findClass_of_methodNamed B.named
  have hlocks := B.notSynchronized
  subst hsz
  have hD := hD0.self (sz := s.heap.size)
  generalize hAe : va_A [(aB, .inl (kB, n, .inl f))] s.heap.size = A at hD hE ⊢
  have hA : ∀ q : Nat, s.heap.size ≤ q → A q := fun q h => by rw [← hAe]; exact Or.inr h
  have hS : va_S A s.heap s.heap [] := va_S.rf
  have hP : va_P (dC, dI) vwCl [(aB, .inl (kB, n, .inl f))] s.heap := hP
  have hl := lv_entry ([.ref aB, .int v]) (n := 4) (Nat.le_of_ble_eq_true rfl)
  rw [lg_entry_eq]
  generalize (lg_sl ([.ref aB, .int v]) ++ List.replicate (4 - (lg_sl ([.ref aB, .int v])).length) Slot.unset).toArray = ls at hl ⊢
  have hl : lv_has ls 4 [(0, .ref aB), (1, .int v)] := hl
  have loop : ∀ (k i : Nat) (f1 : Nat → Int32) (H : Heap) (locs : List Loc) (ls : Array Slot), i + k = n → (∀ j, j < i → f1 j = vp_nar .byte v) → va_P (dC, dI) vwCl [(aB, .inl (kB, n, .inl f1))] H → va_D A [(aB, .inl (kB, n, .inl f1))] → va_S A s.heap H locs → lv_has ls 4 [(2, .int (nI i)), (3, .int (Int32.ofNat n)), (0, .ref aB), (1, .int v)] → W p l e (headSpec (ws_ yJ3_fill cJ3_fill 4 none) ({ frames := 0, cells := 0, slots := 0, locals := 0 })).room s m ([.ref aB, .int v] : List Value).toArray below meth c H locs 0 0 (MQ below (pd_Qv (dC, dI) [(aB, .inl (kB, n, .inl (fun _ => vp_nar .byte v)))] A) ([.ref aB, .int v] : List Value).toArray s 0 0 A) (F0 m 5 ls []) := by
    intro k
    induction k with
    | zero =>
      intro i f1 H locs ls hi hf hP hD hS hl
      refine lv_iload_n hx hb dJ3_fill_5 rfl (lv_at hl 0 rfl) ?_
      refine lv_iload_n hx hb dJ3_fill_6 rfl (lv_at hl 1 rfl) ?_
      refine lv_icmp_ge (tgt := 20) hx hb dJ3_fill_7 (by decide) (fun c1 => ?_) (fun c1 => ?_)
      · obtain ⟨hP, hD⟩ := pd_arrP (g := fun _ => vp_nar .byte v) 0 hP hD rfl (fun j hj => hf j (by omega))
        have hP : va_P (dC, dI) vwCl [(aB, .inl (kB, n, .inl (fun _ => vp_nar .byte v)))] H := hP
        have hD : va_D A [(aB, .inl (kB, n, .inl (fun _ => vp_nar .byte v)))] := hD
        exact W.vret hx hb hr (fun t ht hW => ⟨⟨(), rfl, trivial, by rw [ht]; exact hP, hD⟩, hS.F ht⟩) hS.2.2 dJ3_fill_20
      · exact absurd (nI_le (a := n) (b := i) (by omega) (by omega)) c1
    | succ k ih =>
      intro i f1 H locs ls hi hf hP hD hS hl
      refine lv_iload_n hx hb dJ3_fill_5 rfl (lv_at hl 0 rfl) ?_
      refine lv_iload_n hx hb dJ3_fill_6 rfl (lv_at hl 1 rfl) ?_
      refine lv_icmp_ge (tgt := 20) hx hb dJ3_fill_7 (by decide) (fun c2 => ?_) (fun c2 => ?_)
      · exact absurd c2 (nI_ge (a := i) (b := n) (by omega) hn)
      · refine lv_aload_n hx hb dJ3_fill_10 rfl (lv_at hl 2 rfl) ?_
        refine lv_iload_n hx hb dJ3_fill_11 rfl (lv_at hl 0 rfl) ?_
        refine lv_iload_n hx hb dJ3_fill_12 rfl (lv_at hl 3 rfl) ?_
        refine va_bast hx hb hK hP hD hS 0 0 rfl rfl (vp_in_nI (by omega) hn) dJ3_fill_13 (fun H locs hP hD hS => ?_)
        have hP : va_P (dC, dI) vwCl [(aB, .inl (kB, n, .inl (upd f1 ((nI i)).toNatClampNeg (vp_nar .byte v))))] H := hP
        have hD : va_D A [(aB, .inl (kB, n, .inl (upd f1 ((nI i)).toNatClampNeg (vp_nar .byte v))))] := hD
        refine lv_iinc (v := nI (i + 1)) (lv' := [(2, .int (nI (i + 1))), (3, .int (Int32.ofNat n)), (0, .ref aB), (1, .int v)]) hx hb dJ3_fill_14 hl (k := 0) rfl (nI_1 i) (by decide) rfl (fun ls hl => ?_)
        refine lv_goto (tgt := 5) hx hb dJ3_fill_17 (by decide) ?_
        exact ih (i + 1) _ _ _ ls (by omega) (pd_upto (by omega) hn hf rfl) hP hD hS hl
  refine lv_iconst (v := 0) hx hb dJ3_fill_0 (by decide) ?_
  refine lv_istore_n (lv' := [(2, .int 0), (0, .ref aB), (1, .int v)]) hx hb dJ3_fill_1 rfl hl (by decide) rfl (fun ls hl => ?_)
  refine lv_aload_n hx hb dJ3_fill_2 rfl (lv_at hl 1 rfl) ?_
  refine va_alen (v := (Int32.ofNat n)) hx hb hK hP 0 0 rfl rfl rfl dJ3_fill_3 ?_
  refine lv_istore_n (lv' := [(3, .int (Int32.ofNat n)), (2, .int 0), (0, .ref aB), (1, .int v)]) hx hb dJ3_fill_4 rfl hl (by decide) rfl (fun ls hl => ?_)
  exact loop n 0 f _ _ ls (by omega) (fun j hj => absurd hj (Nat.not_lt_zero j)) hP hD hS (lv_sub hl [1, 0, 2, 3] rfl)
set_option maxHeartbeats 4000000 in
set_option maxRecDepth 100000 in
/-- all signs fit a byte: they are copied -/
theorem metJ1_compress_2 (l : Launch) (dC : Nat → ClassId) (dI : Nat → Nat → Nat) (sz : Nat) (aC aB : Nat) (kC kB : ClassId) (b : Nat → Nat) (f : Nat → Int32) (hb256 : ∀ j, b j < 256) : Met l yJ1_compress_2 (ws_ yJ1_compress_2 cJ1_compress_2 7 (some .int)) ({ frames := 0, cells := 0, slots := 0, locals := 0 }) (pd_Pc [.ref aC, .int 0, .ref aB, .int 0, .int 72] (dC, dI) [(aC, .inl (kC, 72, .inl (pd_wd b))), (aB, .inl (kB, 72, .inl f))] [(kC, .char), (kB, .byte)] sz) (pd_Qi (dC, dI) [(aC, .inl (kC, 72, .inl (pd_wd b))), (aB, .inl (kB, 72, .inl (pd_by b)))] 72 (va_A [(aC, .inl (kC, 72, .inl (pd_wd b))), (aB, .inl (kB, 72, .inl f))] sz)) 0 0 (va_A [(aC, .inl (kC, 72, .inl (pd_wd b))), (aB, .inl (kB, 72, .inl f))] sz) := by
  refine Met.ofW (cc := cJ1_compress_2) (maxL := 7) (ret := (some .int)) (by decide) rfl ?_
  intro p e s m args below meth c s₁ B hml hv
  obtain ⟨rfl, hsz, hP, hK, hD0, hE⟩ := hv
  have hx := B.exec
  have hb := B.bytes
  have hr := B.returns
  have hts := atoms_spec (ws := ws_ yJ1_compress_2 cJ1_compress_2 7 (some .int)) B.pre
  have hts : ∀ w ∈ lw_all, w.before _ s = true := fun w h => hts w (List.mem_cons_of_mem _ h)
  have hown : s.vm.findClass RJ1 = some m.cls := findClass_of_methodNamed B.named
  have hlocks := B.notSynchronized
  subst hsz
  have hD := hD0.self (sz := s.heap.size)
  generalize hAe : va_A [(aC, .inl (kC, 72, .inl (pd_wd b))), (aB, .inl (kB, 72, .inl f))] s.heap.size = A at hD hE ⊢
  have hA : ∀ q : Nat, s.heap.size ≤ q → A q := fun q h => by rw [← hAe]; exact Or.inr h
  have hS : va_S A s.heap s.heap [] := va_S.rf
  have hP : va_P (dC, dI) vwCl [(aC, .inl (kC, 72, .inl (pd_wd b))), (aB, .inl (kB, 72, .inl f))] s.heap := hP
  have hl := lv_entry ([.ref aC, .int 0, .ref aB, .int 0, .int 72]) (n := 7) (Nat.le_of_ble_eq_true rfl)
  rw [lg_entry_eq]
  generalize (lg_sl ([.ref aC, .int 0, .ref aB, .int 0, .int 72]) ++ List.replicate (7 - (lg_sl ([.ref aC, .int 0, .ref aB, .int 0, .int 72])).length) Slot.unset).toArray = ls at hl ⊢
  have hl : lv_has ls 7 [(0, .ref aC), (1, .int 0), (2, .ref aB), (3, .int 0), (4, .int 72)] := hl
  have loop : ∀ (k i : Nat) (f1 : Nat → Int32) (H : Heap) (locs : List Loc) (ls : Array Slot), i + k = 72 → (∀ j, j < i → f1 j = pd_by b j) → va_P (dC, dI) vwCl [(aC, .inl (kC, 72, .inl (pd_wd b))), (aB, .inl (kB, 72, .inl f1))] H → va_D A [(aC, .inl (kC, 72, .inl (pd_wd b))), (aB, .inl (kB, 72, .inl f1))] → va_S A s.heap H locs → lv_has ls 7 [(5, .int (nI i)), (3, .int (nI i)), (1, .int (nI i)), (0, .ref aC), (2, .ref aB), (4, .int 72)] → W p l e (headSpec (ws_ yJ1_compress_2 cJ1_compress_2 7 (some .int)) ({ frames := 0, cells := 0, slots := 0, locals := 0 })).room s m ([.ref aC, .int 0, .ref aB, .int 0, .int 72] : List Value).toArray below meth c H locs 0 0 (MQ below (pd_Qi (dC, dI) [(aC, .inl (kC, 72, .inl (pd_wd b))), (aB, .inl (kB, 72, .inl (pd_by b)))] 72 A) ([.ref aC, .int 0, .ref aB, .int 0, .int 72] : List Value).toArray s 0 0 A) (F0 m 3 ls []) := by
    intro k
    induction k with
    | zero =>
      intro i f1 H locs ls hi hf hP hD hS hl
      refine lv_iload hx hb dJ1_compress_2_3 (lv_at hl 0 rfl) ?_
      refine lv_iload hx hb dJ1_compress_2_5 (lv_at hl 5 rfl) ?_
      refine lv_icmp_ge (tgt := 44) hx hb dJ1_compress_2_7 (by decide) (fun c1 => ?_) (fun c1 => ?_)
      · obtain ⟨hP, hD⟩ := pd_arrP (g := pd_by b) 1 hP hD rfl (fun j hj => hf j (by omega))
        have hP : va_P (dC, dI) vwCl [(aC, .inl (kC, 72, .inl (pd_wd b))), (aB, .inl (kB, 72, .inl (pd_by b)))] H := hP
        have hD : va_D A [(aC, .inl (kC, 72, .inl (pd_wd b))), (aB, .inl (kB, 72, .inl (pd_by b)))] := hD
        refine lv_iload hx hb dJ1_compress_2_44 (lv_at hl 5 rfl) ?_
        exact W.iret (v := 72) hx hb hr (fun t ht hW => ⟨⟨72, (), rfl, rfl, by rw [ht]; exact hP, hD⟩, hS.F ht⟩) hS.2.2 dJ1_compress_2_46
      · exact absurd (nI_le (a := 72) (b := i) (by omega) (by omega)) c1
    | succ k ih =>
      intro i f1 H locs ls hi hf hP hD hS hl
      refine lv_iload hx hb dJ1_compress_2_3 (lv_at hl 0 rfl) ?_
      refine lv_iload hx hb dJ1_compress_2_5 (lv_at hl 5 rfl) ?_
      refine lv_icmp_ge (tgt := 44) hx hb dJ1_compress_2_7 (by decide) (fun c2 => ?_) (fun c2 => ?_)
      · exact absurd c2 (nI_ge (a := i) (b := 72) (by omega) (by decide))
      · have hiN : (nI i).toNatClampNeg = i := nI_clamp (by omega)
        refine lv_aload_n hx hb dJ1_compress_2_10 rfl (lv_at hl 3 rfl) ?_
        refine lv_iload_n hx hb dJ1_compress_2_11 rfl (lv_at hl 2 rfl) ?_
        refine va_cald hx hb hK hP 0 0 rfl rfl (vp_in_nI (by omega) (by decide)) dJ1_compress_2_12 ?_
        rw [show pd_wd b (nI i).toNatClampNeg = nI (b i) by rw [hiN]; rfl]
        refine lv_istore (lv' := [(6, .int (nI (b i))), (5, .int (nI i)), (3, .int (nI i)), (1, .int (nI i)), (0, .ref aC), (2, .ref aB), (4, .int 72)]) hx hb dJ1_compress_2_13 hl (by decide) rfl (fun ls hl => ?_)
        refine lv_iload hx hb dJ1_compress_2_15 (lv_at hl 0 rfl) ?_
        refine lv_sipush (v := 255) hx hb dJ1_compress_2_17 (by decide) ?_
        refine lv_icmp_le (tgt := 26) hx hb dJ1_compress_2_20 (by decide) (fun c3 => ?_) (fun c3 => ?_)
        · refine lv_aload_n hx hb dJ1_compress_2_26 rfl (lv_at hl 5 rfl) ?_
          refine lv_iload_n hx hb dJ1_compress_2_27 rfl (lv_at hl 2 rfl) ?_
          refine lv_iload hx hb dJ1_compress_2_28 (lv_at hl 0 rfl) ?_
          refine lv_i2b (v := pd_by b i) hx hb dJ1_compress_2_30 rfl ?_
          refine va_bast hx hb hK hP hD hS 1 1 rfl rfl (vp_in_nI (by omega) (by decide)) dJ1_compress_2_31 (fun H locs hP hD hS => ?_)
          have hP : va_P (dC, dI) vwCl [(aC, .inl (kC, 72, .inl (pd_wd b))), (aB, .inl (kB, 72, .inl (upd f1 ((nI i)).toNatClampNeg (vp_nar .byte (pd_by b i)))))] H := hP
          have hD : va_D A [(aC, .inl (kC, 72, .inl (pd_wd b))), (aB, .inl (kB, 72, .inl (upd f1 ((nI i)).toNatClampNeg (vp_nar .byte (pd_by b i)))))] := hD
          refine lv_iinc (v := nI (i + 1)) (lv' := [(1, .int (nI (i + 1))), (6, .int (nI (b i))), (5, .int (nI i)), (3, .int (nI i)), (0, .ref aC), (2, .ref aB), (4, .int 72)]) hx hb dJ1_compress_2_32 hl (k := 3) rfl (nI_1 i) (by decide) rfl (fun ls hl => ?_)
          refine lv_iinc (v := nI (i + 1)) (lv' := [(3, .int (nI (i + 1))), (1, .int (nI (i + 1))), (6, .int (nI (b i))), (5, .int (nI i)), (0, .ref aC), (2, .ref aB), (4, .int 72)]) hx hb dJ1_compress_2_35 hl (k := 3) rfl (nI_1 i) (by decide) rfl (fun ls hl => ?_)
          refine lv_iinc (v := nI (i + 1)) (lv' := [(5, .int (nI (i + 1))), (3, .int (nI (i + 1))), (1, .int (nI (i + 1))), (6, .int (nI (b i))), (0, .ref aC), (2, .ref aB), (4, .int 72)]) hx hb dJ1_compress_2_38 hl (k := 3) rfl (nI_1 i) (by decide) rfl (fun ls hl => ?_)
          refine lv_goto (tgt := 3) hx hb dJ1_compress_2_41 (by decide) ?_
          exact ih (i + 1) _ _ _ ls (by omega) (pd_upto (n := 72) (by omega) (by decide) hf (pk_vb _)) hP hD hS (lv_sub hl [0, 1, 2, 4, 5, 6] rfl)
        · exact absurd (nI_le (a := b i) (b := 255) (Nat.le_of_lt_succ (hb256 i)) (by decide)) c3
  refine lv_iconst (v := 0) hx hb dJ1_compress_2_0 (by decide) ?_
  refine lv_istore (lv' := [(5, .int 0), (0, .ref aC), (1, .int 0), (2, .ref aB), (3, .int 0), (4, .int 72)]) hx hb dJ1_compress_2_1 hl (by decide) rfl (fun ls hl => ?_)
  exact loop 72 0 f _ _ ls (by omega) (fun j hj => absurd hj (Nat.not_lt_zero j)) hP hD hS (lv_sub hl [0, 4, 2, 1, 3, 5] rfl)
set_option maxHeartbeats 4000000 in
set_option maxRecDepth 100000 in
/-- the signs as bytes, in a new array -/
theorem metJ1_compress (l : Launch) (dC : Nat → ClassId) (dI : Nat → Nat → Nat) (sz : Nat) (aC : Nat) (kC : ClassId) (b : Nat → Nat) (hb256 : ∀ j, b j < 256) : Met l yJ1_compress (ws_ yJ1_compress cJ1_compress 6 (some (.array .byte))) ({ frames := 1, cells := 1, slots := 72, locals := 26 }) (pd_Pc [.ref aC, .int 0, .int 72] (dC, dI) [(aC, .inl (kC, 72, .inl (pd_wd b)))] [(kC, .char)] sz) (pd_QR (dC, dI) (fun _ : ClassId => True) (fun u a => [(aC, .inl (kC, 72, .inl (pd_wd b))), (a, .inl (u, 72, .inl (pd_by b)))]) (fun u => [(u, .byte)]) (va_A [(aC, .inl (kC, 72, .inl (pd_wd b)))] sz)) 1 72 (va_A [(aC, .inl (kC, 72, .inl (pd_wd b)))] sz) := by
  refine Met.ofW (cc := cJ1_compress) (maxL := 6) (ret := (some (.array .byte))) (by decide) rfl ?_
  intro p e s m args below meth c s₁ B hml hv
  obtain ⟨rfl, hsz, hP, hK, hD0, hE⟩ := hv
  have hx := B.exec
  have hb := B.bytes
  have hr := B.returns
  have hts := atoms_spec (ws := ws_ yJ1_compress cJ1_compress 6 (some (.array .byte))) B.pre
  have hts : ∀ w ∈ lw_all, w.before _ s = true := fun w h => hts w (List.mem_cons_of_mem _ h)
  have hown : s.vm.findClass RJ1 = some m.cls := findClass_of_methodNamed B.named
  have hlocks := B.notSynchronized
  subst hsz
  have hD := hD0.self (sz := s.heap.size)
  generalize hAe : va_A [(aC, .inl (kC, 72, .inl (pd_wd b)))] s.heap.size = A at hD hE ⊢
  have hA : ∀ q : Nat, s.heap.size ≤ q → A q := fun q h => by rw [← hAe]; exact Or.inr h
  have hS : va_S A s.heap s.heap [] := va_S.rf
  have hP : va_P (dC, dI) vwCl [(aC, .inl (kC, 72, .inl (pd_wd b)))] s.heap := hP
  have hl := lv_entry ([.ref aC, .int 0, .int 72]) (n := 6) (Nat.le_of_ble_eq_true rfl)
  rw [lg_entry_eq]
  generalize (lg_sl ([.ref aC, .int 0, .int 72]) ++ List.replicate (6 - (lg_sl ([.ref aC, .int 0, .int 72])).length) Slot.unset).toArray = ls at hl ⊢
  have hl : lv_has ls 6 [(0, .ref aC), (1, .int 0), (2, .int 72)] := hl
  refine lv_iload_n hx hb dJ1_compress_0 rfl (lv_at hl 2 rfl) ?_
  refine va_newa (atype := .byte) (ty := .byte) (n := 72) (N' := 72) (a0 := (72, .inl (fun _ => 0))) hx hb (hts _ q107) rfl hK hP hD hS hA (fun _ => rfl) (by decide) pd_len72 (Nat.le_of_ble_eq_true rfl) (Nat.le_of_ble_eq_true rfl) (Nat.le_of_ble_eq_true rfl) dJ1_compress_1 (fun aB kB H hK hP hD hS => ?_)
  have hP : va_P (dC, dI) vwCl [(aC, .inl (kC, 72, .inl (pd_wd b))), (aB, .inl (kB, 72, .inl (fun _ => 0)))] H := hP
  have hD : va_D A [(aC, .inl (kC, 72, .inl (pd_wd b))), (aB, .inl (kB, 72, .inl (fun _ => 0)))] := hD
  have hK : va_K (dC, dI) vwCl [(kC, .char), (kB, .byte)] s := hK
  refine W.widen (k := 1) (n := 72) (Nat.le_of_ble_eq_true rfl) (Nat.le_of_ble_eq_true rfl) ?_
  refine lv_astore_n (lv' := [(3, .ref aB), (0, .ref aC), (1, .int 0), (2, .int 72)]) hx hb dJ1_compress_3 rfl hl (by decide) rfl (fun ls hl => ?_)
  refine lv_aload_n hx hb dJ1_compress_4 rfl (lv_at hl 1 rfl) ?_
  refine lv_iload_n hx hb dJ1_compress_5 rfl (lv_at hl 2 rfl) ?_
  refine lv_aload_n hx hb dJ1_compress_6 rfl (lv_at hl 0 rfl) ?_
  refine lv_iconst (v := 0) hx hb dJ1_compress_7 (by decide) ?_
  refine lv_iload_n hx hb dJ1_compress_8 rfl (lv_at hl 3 rfl) ?_
  refine pd_goI (ws := [(aC, .inl (kC, 72, .inl (pd_wd b))), (aB, .inl (kB, 72, .inl (fun _ => 0)))]) (wc := [(aC, .inl (kC, 72, .inl (pd_wd b))), (aB, .inl (kB, 72, .inl (fun _ => 0)))]) (wr := []) (w1 := [(aC, .inl (kC, 72, .inl (pd_wd b))), (aB, .inl (kB, 72, .inl (pd_by b)))]) (v := 72) [0, 1] [] hP hD hS hA rfl rfl (by decide) (by decide) (va_runS (As := [.ref aC, .int 0, .ref aB, .int 0, .int 72]) (rest := []) ⟨hx, hb, hml, hown, hts⟩ (metJ1_compress_2 l dC dI _ aC aB kC kB b (fun _ => 0) hb256) (va_cwS 5 hts (lw_S q49 q50 q19 q51) rfl rfl rfl (by decide +kernel) ⟨Nat.le_of_ble_eq_true rfl, Nat.le_of_ble_eq_true rfl⟩) ⟨pd_Pc.blind, pd_pre [0, 1] [0, 1] hP hK hD hE hS hA rfl (by decide) rfl⟩ rfl rfl hl.1 rfl (lv_room (Nat.le_of_ble_eq_true rfl)) dJ1_compress_9 ⟨Nat.le_of_ble_eq_true rfl, Nat.le_of_ble_eq_true rfl⟩) (fun H locs hP hD hS => ?_)
  have hP : va_P (dC, dI) vwCl [(aC, .inl (kC, 72, .inl (pd_wd b))), (aB, .inl (kB, 72, .inl (pd_by b)))] H := hP
  have hD : va_D A [(aC, .inl (kC, 72, .inl (pd_wd b))), (aB, .inl (kB, 72, .inl (pd_by b)))] := hD
  refine lv_istore (lv' := [(4, .int 72), (3, .ref aB), (0, .ref aC), (1, .int 0), (2, .int 72)]) hx hb dJ1_compress_12 hl (by decide) rfl (fun ls hl => ?_)
  refine lv_iload hx hb dJ1_compress_14 (lv_at hl 0 rfl) ?_
  refine lv_iload_n hx hb dJ1_compress_16 rfl (lv_at hl 4 rfl) ?_
  refine lv_icmp_eq (tgt := 57) hx hb dJ1_compress_17 (by decide) (fun c1 => ?_) (fun c1 => ?_)
  · refine lv_aload_n hx hb dJ1_compress_57 rfl (lv_at hl 1 rfl) ?_
    have hK := hK.sub (tys' := [(kB, .byte)]) [1] rfl
    exact W.aret (v := .ref aB) hx hb hr (Or.inr ⟨_, rfl⟩) (Or.inr ⟨_, rfl⟩) (fun t ht hW => ⟨⟨kB, aB, rfl, trivial, by rw [ht]; exact hP, va_K.moved hW.alike hK, hD⟩, hS.F ht⟩) hS.2.2 dJ1_compress_58
  · exact absurd rfl c1
set_option maxHeartbeats 4000000 in
set_option maxRecDepth 100000 in
/-- as many bytes as signs: coder 0 -/
theorem metJ1_coderFromArrayLen (l : Launch) (dC : Nat → ClassId) (dI : Nat → Nat → Nat) (aB : Nat) (kB : ClassId) (g : Nat → Int32) : Met l yJ1_coderFromArrayLen (ws_ yJ1_coderFromArrayLen cJ1_coderFromArrayLen 2 (some .byte)) ({ frames := 0, cells := 0, slots := 0, locals := 0 }) (pd_Pr [.ref aB, .int 72] (dC, dI) [(aB, .inl (kB, 72, .inl g))] [(kB, .byte)]) (vp_Si (fun r => r = 0)) 0 0 (fun _ => False) := by
  refine Met.ofW (cc := cJ1_coderFromArrayLen) (maxL := 2) (ret := (some .byte)) (by decide) rfl ?_
  intro p e s m args below meth c s₁ B hml hv
  obtain ⟨rfl, hP, hK, hE⟩ := hv
  have hx := B.exec
  have hb := B.bytes
  have hr := B.returns
  have hts := atoms_spec (ws := ws_ yJ1_coderFromArrayLen cJ1_coderFromArrayLen 2 (some .byte)) B.pre
  have hts : ∀ w ∈ lw_all, w.before _ s = true := fun w h => hts w (List.mem_cons_of_mem _ h)
  have hown : s.vm.findClass RJ1 = some m.cls := findClass_of_methodNamed B.named
  have hlocks := B.notSynchronized
  have hS : va_S (fun _ : Nat => False) s.heap s.heap [] := va_S.rf
  have hP : va_P (dC, dI) vwCl [(aB, .inl (kB, 72, .inl g))] s.heap := hP
  have hl := lv_entry ([.ref aB, .int 72]) (n := 2) (Nat.le_of_ble_eq_true rfl)
  rw [lg_entry_eq]
  generalize (lg_sl ([.ref aB, .int 72]) ++ List.replicate (2 - (lg_sl ([.ref aB, .int 72])).length) Slot.unset).toArray = ls at hl ⊢
  have hl : lv_has ls 2 [(0, .ref aB), (1, .int 72)] := hl
  refine lv_iload_n hx hb dJ1_coderFromArrayLen_0 rfl (lv_at hl 1 rfl) ?_
  refine lv_aload_n hx hb dJ1_coderFromArrayLen_1 rfl (lv_at hl 0 rfl) ?_
  refine va_alen (v := 72) hx hb hK hP 0 0 rfl rfl rfl dJ1_coderFromArrayLen_2 ?_
  refine lv_isub hx hb dJ1_coderFromArrayLen_3 ?_
  refine lv_bipush (v := 31) hx hb dJ1_coderFromArrayLen_4 (by decide) ?_
  refine lv_iushr (v := 0) hx hb dJ1_coderFromArrayLen_6 (by decide +kernel) ?_
  refine lv_i2b (v := 0) hx hb dJ1_coderFromArrayLen_7 (by decide +kernel) ?_
  exact W.zret (v := 0) hx hb hr rfl (fun t ht hW => ⟨0, rfl, rfl, ht⟩) hS.2.2 dJ1_coderFromArrayLen_8
set_option maxHeartbeats 4000000 in
set_option maxRecDepth 100000 in
/-- the text of 72 signs that fit a byte -/
theorem metJ0_init_2 (l : Launch) (dC : Nat → ClassId) (dI : Nat → Nat → Nat) (sz : Nat) (aS aC : Nat) (kC : ClassId) (b : Nat → Nat) (hb256 : ∀ j, b j < 256) : Met l yJ0_init_2 (ws_ yJ0_init_2 cJ0_init_2 6 none) ({ frames := 2, cells := 1, slots := 72, locals := 51 }) (pd_Pc [.ref aS, .ref aC, .int 0, .int 72, .null] (dC, dI) [(aS, .inr (2, [.null, .int 0, .int 0, .int 0])), (aC, .inl (kC, 72, .inl (pd_wd b)))] [(kC, .char)] sz) (pd_QA (dC, dI) (fun _ : Nat × ClassId => True) (fun u => [(aS, .inr (2, [.ref u.1, .int 0, .int 0, .int 0])), (aC, .inl (kC, 72, .inl (pd_wd b))), (u.1, .inl (u.2, 72, .inl (pd_by b)))]) (fun u => [(u.2, .byte)]) (va_A [(aS, .inr (2, [.null, .int 0, .int 0, .int 0])), (aC, .inl (kC, 72, .inl (pd_wd b)))] sz)) 1 72 (va_A [(aS, .inr (2, [.null, .int 0, .int 0, .int 0])), (aC, .inl (kC, 72, .inl (pd_wd b)))] sz) := by
  refine Met.ofW (cc := cJ0_init_2) (maxL := 6) (ret := none) (by decide) rfl ?_
  intro p e s m args below meth c s₁ B hml hv
  obtain ⟨rfl, hsz, hP, hK, hD0, hE⟩ := hv
  have hx := B.exec
  have hb := B.bytes
  have hr := B.returns
  have hts := atoms_spec (ws := ws_ yJ0_init_2 cJ0_init_2 6 none) B.pre
  have hts : ∀ w ∈ lw_all, w.before _ s = true := fun w h => hts w (List.mem_cons_of_mem _ h)
  have hown : s.vm.findClass RJ0 = some m.cls := findClass_of_methodNamed B.named
  have hlocks := B.notSynchronized
  have hin : meth.name = "<init>" := (name_of_methodNamed B.named B.method).1
  subst hsz
  have hD := hD0.self (sz := s.heap.size)
  generalize hAe : va_A [(aS, .inr (2, [.null, .int 0, .int 0, .int 0])), (aC, .inl (kC, 72, .inl (pd_wd b)))] s.heap.size = A at hD hE ⊢
  have hA : ∀ q : Nat, s.heap.size ≤ q → A q := fun q h => by rw [← hAe]; exact Or.inr h
  have hS : va_S A s.heap s.heap [] := va_S.rf
  have hP : va_P (dC, dI) vwCl [(aS, .inr (2, [.null, .int 0, .int 0, .int 0])), (aC, .inl (kC, 72, .inl (pd_wd b)))] s.heap := hP
  have hl := lv_entry ([.ref aS, .ref aC, .int 0, .int 72, .null]) (n := 6) (Nat.le_of_ble_eq_true rfl)
  rw [lg_entry_eq]
  generalize (lg_sl ([.ref aS, .ref aC, .int 0, .int 72, .null]) ++ List.replicate (6 - (lg_sl ([.ref aS, .ref aC, .int 0, .int 72, .null])).length) Slot.unset).toArray = ls at hl ⊢
  have hl : lv_has ls 6 [(0, .ref aS), (1, .ref aC), (2, .int 0), (3, .int 72), (4, .null)] := hl
  refine lv_aload_n hx hb dJ0_init_2_0 rfl (lv_at hl 0 rfl) ?_
  refine W.objInit hx hb hown (hts _ q42) (hts _ q30) (hts _ q31) rfl (by rw [hml]; exact hl.1) rfl dJ0_init_2_1 (Nat.le_of_ble_eq_true rfl) (Nat.le_of_ble_eq_true rfl) ?_
  refine W.eq (g2 := F0 m 4 ls []) rfl ?_
  refine lv_iload_n hx hb dJ0_init_2_4 rfl (lv_at hl 3 rfl) ?_
  refine lv_if_ne (tgt := 27) hx hb dJ0_init_2_5 (by decide) (fun c1 => ?_) (fun c1 => ?_)
  · refine va_gets (v := .int 1) hx hb hE.1 hS hown (hts _ q44) (fun _ h9 => h9) dJ0_init_2_27 ?_
    refine lv_if_eq (tgt := 58) hx hb dJ0_init_2_30 (by decide) (fun c2 => ?_) (fun c2 => ?_)
    · exact absurd c2 (by decide)
    · refine lv_aload_n hx hb dJ0_init_2_33 rfl (lv_at hl 1 rfl) ?_
      refine lv_iload_n hx hb dJ0_init_2_34 rfl (lv_at hl 2 rfl) ?_
      refine lv_iload_n hx hb dJ0_init_2_35 rfl (lv_at hl 3 rfl) ?_
      refine pd_goR (ws := [(aS, .inr (2, [.null, .int 0, .int 0, .int 0])), (aC, .inl (kC, 72, .inl (pd_wd b)))]) (wc := [(aC, .inl (kC, 72, .inl (pd_wd b)))]) (wr := [(aS, .inr (2, [.null, .int 0, .int 0, .int 0]))]) [1] [0] hK hP hD hS hA rfl rfl (by decide) (by decide) (va_runS (As := [.ref aC, .int 0, .int 72]) (rest := []) ⟨hx, hb, hml, hown, hts⟩ (metJ1_compress l dC dI _ aC kC b hb256) (va_cwS 3 hts (lw_S q46 q47 q19 q48) rfl rfl rfl (by decide +kernel) ⟨Nat.le_of_ble_eq_true rfl, Nat.le_of_ble_eq_true rfl⟩) ⟨pd_Pc.blind, pd_pre [1] [0] hP hK hD hE hS hA rfl (by decide) rfl⟩ rfl rfl hl.1 rfl (lv_room (Nat.le_of_ble_eq_true rfl)) dJ0_init_2_36 ⟨Nat.le_of_ble_eq_true rfl, Nat.le_of_ble_eq_true rfl⟩) (fun u aV H locs hw hK hP hD hS => ?_)
      have hP : va_P (dC, dI) vwCl [(aS, .inr (2, [.null, .int 0, .int 0, .int 0])), (aC, .inl (kC, 72, .inl (pd_wd b))), (aV, .inl (u, 72, .inl (pd_by b)))] H := hP
      have hD : va_D A [(aS, .inr (2, [.null, .int 0, .int 0, .int 0])), (aC, .inl (kC, 72, .inl (pd_wd b))), (aV, .inl (u, 72, .inl (pd_by b)))] := hD
      have hK : va_K (dC, dI) vwCl [(kC, .char), (u, .byte)] s := hK
      refine W.widen (k := 1) (n := 72) (Nat.le_of_ble_eq_true rfl) (Nat.le_of_ble_eq_true rfl) ?_
      refine lv_astore (lv' := [(5, .ref aV), (0, .ref aS), (1, .ref aC), (2, .int 0), (3, .int 72), (4, .null)]) hx hb dJ0_init_2_39 hl (by decide) rfl (fun ls hl => ?_)
      refine lv_aload_n hx hb dJ0_init_2_41 rfl (lv_at hl 1 rfl) ?_
      refine lv_aload hx hb dJ0_init_2_42 (lv_at hl 0 rfl) ?_
      refine lv_iload_n hx hb dJ0_init_2_44 rfl (lv_at hl 4 rfl) ?_
      refine pd_read (v := 0) (W.runS (As := [.ref aV, .int 72]) (rest := [.ref aS]) ⟨hx, hb, hml, hown, hts⟩ (metJ1_coderFromArrayLen l dC dI aV u (pd_by b)) (va_cwS 2 hts (lw_S q91 q92 q19 q93) rfl rfl rfl (by decide +kernel) ⟨Nat.le_of_ble_eq_true rfl, Nat.le_of_ble_eq_true rfl⟩) ⟨pd_Pr.blind, pd_prer [2] [1] hP hK hE hS rfl rfl⟩ rfl rfl hl.1 rfl (lv_room (Nat.le_of_ble_eq_true rfl)) dJ0_init_2_45 ⟨Nat.le_of_ble_eq_true rfl, Nat.le_of_ble_eq_true rfl⟩) ?_
      refine va_putF (D := (dC, dI)) (ci := 2) (v := .int 0) (ty := .byte) (C := RJ0) (T := TJ0) (N := 4) hx hb hts in_J0 tyJ0 tyJ0_ok nmJ0 hown hK hP hD hS 0 rfl rfl 1 (by decide) (hts _ q96) (fun _ h9 => h9) rfl hin rfl (by decide +kernel) rfl rfl (Nat.le_of_ble_eq_true rfl) dJ0_init_2_48 (fun H locs hP hD hS => ?_)
      have hP : va_P (dC, dI) vwCl [(aS, .inr (2, [.null, .int 0, .int 0, .int 0])), (aC, .inl (kC, 72, .inl (pd_wd b))), (aV, .inl (u, 72, .inl (pd_by b)))] H := hP
      have hD : va_D A [(aS, .inr (2, [.null, .int 0, .int 0, .int 0])), (aC, .inl (kC, 72, .inl (pd_wd b))), (aV, .inl (u, 72, .inl (pd_by b)))] := hD
      refine lv_aload_n hx hb dJ0_init_2_51 rfl (lv_at hl 1 rfl) ?_
      refine lv_aload hx hb dJ0_init_2_52 (lv_at hl 0 rfl) ?_
      refine va_putF (D := (dC, dI)) (ci := 2) (v := .ref aV) (ty := .array .byte) (C := RJ0) (T := TJ0) (N := 4) hx hb hts in_J0 tyJ0 tyJ0_ok nmJ0 hown hK hP hD hS 0 rfl rfl 0 (by decide) (hts _ q95) (fun _ h9 => h9) rfl hin rfl (by decide +kernel) rfl rfl (Nat.le_of_ble_eq_true rfl) dJ0_init_2_54 (fun H locs hP hD hS => ?_)
      have hP : va_P (dC, dI) vwCl [(aS, .inr (2, [.ref aV, .int 0, .int 0, .int 0])), (aC, .inl (kC, 72, .inl (pd_wd b))), (aV, .inl (u, 72, .inl (pd_by b)))] H := hP
      have hD : va_D A [(aS, .inr (2, [.ref aV, .int 0, .int 0, .int 0])), (aC, .inl (kC, 72, .inl (pd_wd b))), (aV, .inl (u, 72, .inl (pd_by b)))] := hD
      have hK := hK.sub (tys' := [(u, .byte)]) [1] rfl
      exact W.vret hx hb hr (fun t ht hW => ⟨⟨(aV, u), rfl, trivial, by rw [ht]; exact hP, va_K.moved hW.alike hK, hD⟩, hS.F ht⟩) hS.2.2 dJ0_init_2_57
  · exact absurd c1 (by decide)
set_option maxHeartbeats 4000000 in
set_option maxRecDepth 100000 in
/-- the text of 72 signs that fit a byte -/
theorem metJ0_init (l : Launch) (dC : Nat → ClassId) (dI : Nat → Nat → Nat) (sz : Nat) (aS aC : Nat) (kC : ClassId) (b : Nat → Nat) (hb256 : ∀ j, b j < 256) : Met l yJ0_init (ws_ yJ0_init cJ0_init 2 none) ({ frames := 3, cells := 1, slots := 72, locals := 76 }) (pd_Pc [.ref aS, .ref aC] (dC, dI) [(aS, .inr (2, [.null, .int 0, .int 0, .int 0])), (aC, .inl (kC, 72, .inl (pd_wd b)))] [(kC, .char)] sz) (pd_QA (dC, dI) (fun _ : Nat × ClassId => True) (fun u => [(aS, .inr (2, [.ref u.1, .int 0, .int 0, .int 0])), (aC, .inl (kC, 72, .inl (pd_wd b))), (u.1, .inl (u.2, 72, .inl (pd_by b)))]) (fun u => [(u.2, .byte)]) (va_A [(aS, .inr (2, [.null, .int 0, .int 0, .int 0])), (aC, .inl (kC, 72, .inl (pd_wd b)))] sz)) 1 72 (va_A [(aS, .inr (2, [.null, .int 0, .int 0, .int 0])), (aC, .inl (kC, 72, .inl (pd_wd b)))] sz) := by
  refine Met.ofW (cc := cJ0_init) (maxL := 2) (ret := none) (by decide) rfl ?_
  intro p e s m args below meth c s₁ B hml hv
  obtain ⟨rfl, hsz, hP, hK, hD0, hE⟩ := hv
  have hx := B.exec
  have hb := B.bytes
  have hr := B.returns
  have hts := atoms_spec (ws := ws_ yJ0_init cJ0_init 2 none) B.pre
  have hts : ∀ w ∈ lw_all, w.before _ s = true := fun w h => hts w (List.mem_cons_of_mem _ h)
  have hown : s.vm.findClass RJ0 = some m.cls := findClass_of_methodNamed B.named
  have hlocks := B.notSynchronized
  have hin : meth.name = "<init>" := (name_of_methodNamed B.named B.method).1
  subst hsz
  have hD := hD0.self (sz := s.heap.size)
  generalize hAe : va_A [(aS, .inr (2, [.null, .int 0, .int 0, .int 0])), (aC, .inl (kC, 72, .inl (pd_wd b)))] s.heap.size = A at hD hE ⊢
  have hA : ∀ q : Nat, s.heap.size ≤ q → A q := fun q h => by rw [← hAe]; exact Or.inr h
  have hS : va_S A s.heap s.heap [] := va_S.rf
  have hP : va_P (dC, dI) vwCl [(aS, .inr (2, [.null, .int 0, .int 0, .int 0])), (aC, .inl (kC, 72, .inl (pd_wd b)))] s.heap := hP
  have hl := lv_entry ([.ref aS, .ref aC]) (n := 2) (Nat.le_of_ble_eq_true rfl)
  rw [lg_entry_eq]
  generalize (lg_sl ([.ref aS, .ref aC]) ++ List.replicate (2 - (lg_sl ([.ref aS, .ref aC])).length) Slot.unset).toArray = ls at hl ⊢
  have hl : lv_has ls 2 [(0, .ref aS), (1, .ref aC)] := hl
  refine lv_aload_n hx hb dJ0_init_0 rfl (lv_at hl 0 rfl) ?_
  refine lv_aload_n hx hb dJ0_init_1 rfl (lv_at hl 1 rfl) ?_
  refine lv_iconst (v := 0) hx hb dJ0_init_2 (by decide) ?_
  refine lv_aload_n hx hb dJ0_init_3 rfl (lv_at hl 1 rfl) ?_
  refine va_alen (v := 72) hx hb hK hP 1 0 rfl rfl rfl dJ0_init_4 ?_
  refine lv_null hx hb dJ0_init_5 ?_
  refine pd_goA (ws := [(aS, .inr (2, [.null, .int 0, .int 0, .int 0])), (aC, .inl (kC, 72, .inl (pd_wd b)))]) (wc := [(aS, .inr (2, [.null, .int 0, .int 0, .int 0])), (aC, .inl (kC, 72, .inl (pd_wd b)))]) (wr := []) [0, 1] [] hK hP hD hS hA rfl rfl (by decide) (by decide) (va_runI (As := [.ref aC, .int 0, .int 72, .null]) (rest := []) ⟨hx, hb, hml, hown, hts⟩ (metJ0_init_2 l dC dI _ aS aC kC b hb256) (cwI 4 hts (lw_meth q41) rfl rfl rfl (hts _ q18) (hts _ q39) (hts _ q40) rfl (by decide +kernel) ⟨Nat.le_of_ble_eq_true rfl, Nat.le_of_ble_eq_true rfl⟩) ⟨pd_Pc.blind, pd_pre [0, 1] [0] hP hK hD hE hS hA rfl (by decide) rfl⟩ rfl rfl hl.1 rfl (lv_room (Nat.le_of_ble_eq_true rfl)) dJ0_init_6 ⟨Nat.le_of_ble_eq_true rfl, Nat.le_of_ble_eq_true rfl⟩) (fun u H locs hw hK hP hD hS => ?_)
  obtain ⟨aV, kV⟩ := u
  have hP : va_P (dC, dI) vwCl [(aS, .inr (2, [.ref aV, .int 0, .int 0, .int 0])), (aC, .inl (kC, 72, .inl (pd_wd b))), (aV, .inl (kV, 72, .inl (pd_by b)))] H := hP
  have hD : va_D A [(aS, .inr (2, [.ref aV, .int 0, .int 0, .int 0])), (aC, .inl (kC, 72, .inl (pd_wd b))), (aV, .inl (kV, 72, .inl (pd_by b)))] := hD
  have hK : va_K (dC, dI) vwCl [(kC, .char), (kV, .byte)] s := hK
  refine W.widen (k := 1) (n := 72) (Nat.le_of_ble_eq_true rfl) (Nat.le_of_ble_eq_true rfl) ?_
  have hK := hK.sub (tys' := [(kV, .byte)]) [1] rfl
  exact W.vret hx hb hr (fun t ht hW => ⟨⟨(aV, kV), rfl, trivial, by rw [ht]; exact hP, va_K.moved hW.alike hK, hD⟩, hS.F ht⟩) hS.2.2 dJ0_init_9
end
section
/-! DefaultPlacement: its methods but place -/
set_option maxHeartbeats 4000000 in
set_option maxRecDepth 100000 in
/-- what stands at a place in range -/
theorem metX1_noBit (l : Launch) (dC : Nat → ClassId) (dI : Nat → Nat → Nat) (aD aB aS : Nat) (kB : ClassId) (S : Int32) (n : Nat) (f : Nat → Int32) (col row : Int32) (h : vp_in (row * S + col) n) : Met l yX1_noBit (ws_ yX1_noBit cX1_noBit 3 (some .boolean)) ({ frames := 0, cells := 0, slots := 0, locals := 0 }) (pd_Pr [.ref aD, .int col, .int row] (dC, dI) [(aD, .inr (1, [.ref aS, .int S, .int S, .ref aB])), (aB, .inl (kB, n, .inl f))] [(kB, .byte)]) (vp_Si (fun r => r = if f (row * S + col).toNatClampNeg < 0 then 1 else 0)) 0 0 (fun _ => False) := by
  refine Met.ofW (cc := cX1_noBit) (maxL := 3) (ret := (some .boolean)) (by decide) rfl ?_
  intro p e s m args below meth c s₁ B hml hv
  obtain ⟨rfl, hP, hK, hE⟩ := hv
  have hx := B.exec
  have hb := B.bytes
  have hr := B.returns
  have hts := atoms_spec (ws := ws_ yX1_noBit cX1_noBit 3 (some .boolean)) B.pre
  have hts : ∀ w ∈ lw_all, w.before _ s = true := fun w h => hts w (List.mem_cons_of_mem _ h)
  have hown : s.vm.findClass RX1 = some m.cls := findClass_of_methodNamed B.named
  have hlocks := B.notSynchronized
  have hS : va_S (fun _ : Nat => False) s.heap s.heap [] := va_S.rf
  have hP : va_P (dC, dI) vwCl [(aD, .inr (1, [.ref aS, .int S, .int S, .ref aB])), (aB, .inl (kB, n, .inl f))] s.heap := hP
  have hl := lv_entry ([.ref aD, .int col, .int row]) (n := 3) (Nat.le_of_ble_eq_true rfl)
  rw [lg_entry_eq]
  generalize (lg_sl ([.ref aD, .int col, .int row]) ++ List.replicate (3 - (lg_sl ([.ref aD, .int col, .int row])).length) Slot.unset).toArray = ls at hl ⊢
  have hl : lv_has ls 3 [(0, .ref aD), (1, .int col), (2, .int row)] := hl
  refine lv_aload_n hx hb dX1_noBit_0 rfl (lv_at hl 0 rfl) ?_
  refine va_get (D := (dC, dI)) (ci := 1) (v := .ref aB) (C := RX1) (T := TX1) (N := 4) hx hb hts in_X1 hown hK hP 0 rfl rfl 3 (by decide) (hts _ q118) (fun _ h9 => h9) rfl dX1_noBit_1 ?_
  refine lv_iload_n hx hb dX1_noBit_4 rfl (lv_at hl 2 rfl) ?_
  refine lv_aload_n hx hb dX1_noBit_5 rfl (lv_at hl 0 rfl) ?_
  refine va_get (D := (dC, dI)) (ci := 1) (v := .int S) (C := RX1) (T := TX1) (N := 4) hx hb hts in_X1 hown hK hP 0 rfl rfl 2 (by decide) (hts _ q117) (fun _ h9 => h9) rfl dX1_noBit_6 ?_
  refine lv_imul hx hb dX1_noBit_9 ?_
  refine lv_iload_n hx hb dX1_noBit_10 rfl (lv_at hl 1 rfl) ?_
  refine lv_iadd hx hb dX1_noBit_11 ?_
  refine va_bald hx hb hK hP 1 0 rfl rfl h dX1_noBit_12 ?_
  refine lv_if_ge (tgt := 20) hx hb dX1_noBit_13 (by decide) (fun c1 => ?_) (fun c1 => ?_)
  · refine lv_iconst (v := 0) hx hb dX1_noBit_20 (by decide) ?_
    exact W.zret (v := 0) hx hb hr rfl (fun t ht hW => ⟨0, rfl, (if_neg (Int32.not_lt.mpr c1)).symm, ht⟩) hS.2.2 dX1_noBit_21
  · refine lv_iconst (v := 1) hx hb dX1_noBit_16 (by decide) ?_
    refine lv_goto (tgt := 21) hx hb dX1_noBit_17 (by decide) ?_
    exact W.zret (v := 1) hx hb hr rfl (fun t ht hW => ⟨1, rfl, (if_pos (Int32.not_le.mp c1)).symm, ht⟩) hS.2.2 dX1_noBit_21
set_option maxHeartbeats 4000000 in
set_option maxRecDepth 100000 in
/-- what stands at a place in range -/
theorem metX1_getBit (l : Launch) (dC : Nat → ClassId) (dI : Nat → Nat → Nat) (aD aB aS : Nat) (kB : ClassId) (S : Int32) (n : Nat) (f : Nat → Int32) (col row : Int32) (h : vp_in (row * S + col) n) : Met l yX1_getBit (ws_ yX1_getBit cX1_getBit 3 (some .boolean)) ({ frames := 0, cells := 0, slots := 0, locals := 0 }) (pd_Pr [.ref aD, .int col, .int row] (dC, dI) [(aD, .inr (1, [.ref aS, .int S, .int S, .ref aB])), (aB, .inl (kB, n, .inl f))] [(kB, .byte)]) (vp_Si (fun r => r = if f (row * S + col).toNatClampNeg = 1 then 1 else 0)) 0 0 (fun _ => False) := by
  refine Met.ofW (cc := cX1_getBit) (maxL := 3) (ret := (some .boolean)) (by decide) rfl ?_
  intro p e s m args below meth c s₁ B hml hv
  obtain ⟨rfl, hP, hK, hE⟩ := hv
  have hx := B.exec
  have hb := B.bytes
  have hr := B.returns
  have hts := atoms_spec (ws := ws_ yX1_getBit cX1_getBit 3 (some .boolean)) B.pre
  have hts : ∀ w ∈ lw_all, w.before _ s = true := fun w h => hts w (List.mem_cons_of_mem _ h)
  have hown : s.vm.findClass RX1 = some m.cls := findClass_of_methodNamed B.named
  have hlocks := B.notSynchronized
  have hS : va_S (fun _ : Nat => False) s.heap s.heap [] := va_S.rf
  have hP : va_P (dC, dI) vwCl [(aD, .inr (1, [.ref aS, .int S, .int S, .ref aB])), (aB, .inl (kB, n, .inl f))] s.heap := hP
  have hl := lv_entry ([.ref aD, .int col, .int row]) (n := 3) (Nat.le_of_ble_eq_true rfl)
  rw [lg_entry_eq]
  generalize (lg_sl ([.ref aD, .int col, .int row]) ++ List.replicate (3 - (lg_sl ([.ref aD, .int col, .int row])).length) Slot.unset).toArray = ls at hl ⊢
  have hl : lv_has ls 3 [(0, .ref aD), (1, .int col), (2, .int row)] := hl
  refine lv_aload_n hx hb dX1_getBit_0 rfl (lv_at hl 0 rfl) ?_
  refine va_get (D := (dC, dI)) (ci := 1) (v := .ref aB) (C := RX1) (T := TX1) (N := 4) hx hb hts in_X1 hown hK hP 0 rfl rfl 3 (by decide) (hts _ q118) (fun _ h9 => h9) rfl dX1_getBit_1 ?_
  refine lv_iload_n hx hb dX1_getBit_4 rfl (lv_at hl 2 rfl) ?_
  refine lv_aload_n hx hb dX1_getBit_5 rfl (lv_at hl 0 rfl) ?_
  refine va_get (D := (dC, dI)) (ci := 1) (v := .int S) (C := RX1) (T := TX1) (N := 4) hx hb hts in_X1 hown hK hP 0 rfl rfl 2 (by decide) (hts _ q117) (fun _ h9 => h9) rfl dX1_getBit_6 ?_
  refine lv_imul hx hb dX1_getBit_9 ?_
  refine lv_iload_n hx hb dX1_getBit_10 rfl (lv_at hl 1 rfl) ?_
  refine lv_iadd hx hb dX1_getBit_11 ?_
  refine va_bald hx hb hK hP 1 0 rfl rfl h dX1_getBit_12 ?_
  refine lv_iconst (v := 1) hx hb dX1_getBit_13 (by decide) ?_
  refine lv_icmp_ne (tgt := 21) hx hb dX1_getBit_14 (by decide) (fun c1 => ?_) (fun c1 => ?_)
  · refine lv_iconst (v := 0) hx hb dX1_getBit_21 (by decide) ?_
    exact W.zret (v := 0) hx hb hr rfl (fun t ht hW => ⟨0, rfl, (if_neg c1).symm, ht⟩) hS.2.2 dX1_getBit_22
  · refine lv_iconst (v := 1) hx hb dX1_getBit_17 (by decide) ?_
    refine lv_goto (tgt := 22) hx hb dX1_getBit_18 (by decide) ?_
    exact W.zret (v := 1) hx hb hr rfl (fun t ht hW => ⟨1, rfl, (if_pos c1).symm, ht⟩) hS.2.2 dX1_getBit_22
set_option maxHeartbeats 4000000 in
set_option maxRecDepth 100000 in
/-- a bit at a place in range -/
theorem metX1_setBit (l : Launch) (dC : Nat → ClassId) (dI : Nat → Nat → Nat) (sz : Nat) (aD aB aS : Nat) (kB : ClassId) (S : Int32) (n : Nat) (f : Nat → Int32) (col row z : Int32) (h : vp_in (row * S + col) n) : Met l yX1_setBit (ws_ yX1_setBit cX1_setBit 4 none) ({ frames := 0, cells := 0, slots := 0, locals := 0 }) (pd_Pc [.ref aD, .int col, .int row, .int z] (dC, dI) [(aD, .inr (1, [.ref aS, .int S, .int S, .ref aB])), (aB, .inl (kB, n, .inl f))] [(kB, .byte)] sz) (pd_Qv (dC, dI) [(aD, .inr (1, [.ref aS, .int S, .int S, .ref aB])), (aB, .inl (kB, n, .inl (upd f (row * S + col).toNatClampNeg (if z = 0 then 0 else 1))))] (va_A [(aD, .inr (1, [.ref aS, .int S, .int S, .ref aB])), (aB, .inl (kB, n, .inl f))] sz)) 0 0 (va_A [(aD, .inr (1, [.ref aS, .int S, .int S, .ref aB])), (aB, .inl (kB, n, .inl f))] sz) := by
  refine Met.ofW (cc := cX1_setBit) (maxL := 4) (ret := none) (by decide) rfl ?_
  intro p e s m args below meth c s₁ B hml hv
  obtain ⟨rfl, hsz, hP, hK, hD0, hE⟩ := hv
  have hx := B.exec
  have hb := B.bytes
  have hr := B.returns
  have hts := atoms_spec (ws := ws_ yX1_setBit cX1_setBit 4 none) B.pre
  have hts : ∀ w ∈ lw_all, w.before _ s = true := fun w h => hts w (List.mem_cons_of_mem _ h)
  have hown : s.vm.findClass RX1 = some m.cls := findClass_of_methodNamed B.named
  have hlocks := B.notSynchronized
  subst hsz
  have hD := hD0.self (sz := s.heap.size)
  generalize hAe : va_A [(aD, .inr (1, [.ref aS, .int S, .int S, .ref aB])), (aB, .inl (kB, n, .inl f))] s.heap.size = A at hD hE ⊢
  have hA : ∀ q : Nat, s.heap.size ≤ q → A q := fun q h => by rw [← hAe]; exact Or.inr h
  have hS : va_S A s.heap s.heap [] := va_S.rf
  have hP : va_P (dC, dI) vwCl [(aD, .inr (1, [.ref aS, .int S, .int S, .ref aB])), (aB, .inl (kB, n, .inl f))] s.heap := hP
  have hl := lv_entry ([.ref aD, .int col, .int row, .int z]) (n := 4) (Nat.le_of_ble_eq_true rfl)
  rw [lg_entry_eq]
  generalize (lg_sl ([.ref aD, .int col, .int row, .int z]) ++ List.replicate (4 - (lg_sl ([.ref aD, .int col, .int row, .int z])).length) Slot.unset).toArray = ls at hl ⊢
  have hl : lv_has ls 4 [(0, .ref aD), (1, .int col), (2, .int row), (3, .int z)] := hl
  refine lv_aload_n hx hb dX1_setBit_0 rfl (lv_at hl 0 rfl) ?_
  refine va_get (D := (dC, dI)) (ci := 1) (v := .ref aB) (C := RX1) (T := TX1) (N := 4) hx hb hts in_X1 hown hK hP 0 rfl rfl 3 (by decide) (hts _ q118) (fun _ h9 => h9) rfl dX1_setBit_1 ?_
  refine lv_iload_n hx hb dX1_setBit_4 rfl (lv_at hl 2 rfl) ?_
  refine lv_aload_n hx hb dX1_setBit_5 rfl (lv_at hl 0 rfl) ?_
  refine va_get (D := (dC, dI)) (ci := 1) (v := .int S) (C := RX1) (T := TX1) (N := 4) hx hb hts in_X1 hown hK hP 0 rfl rfl 2 (by decide) (hts _ q117) (fun _ h9 => h9) rfl dX1_setBit_6 ?_
  refine lv_imul hx hb dX1_setBit_9 ?_
  refine lv_iload_n hx hb dX1_setBit_10 rfl (lv_at hl 1 rfl) ?_
  refine lv_iadd hx hb dX1_setBit_11 ?_
  refine lv_iload_n hx hb dX1_setBit_12 rfl (lv_at hl 3 rfl) ?_
  refine lv_if_eq (tgt := 20) hx hb dX1_setBit_13 (by decide) (fun c1 => ?_) (fun c1 => ?_)
  · refine lv_iconst (v := 0) hx hb dX1_setBit_20 (by decide) ?_
    refine lv_i2b (v := 0) hx hb dX1_setBit_21 (by decide +kernel) ?_
    refine va_bast hx hb hK hP hD hS 1 0 rfl rfl h dX1_setBit_22 (fun H locs hP hD hS => ?_)
    have hP : va_P (dC, dI) vwCl [(aD, .inr (1, [.ref aS, .int S, .int S, .ref aB])), (aB, .inl (kB, n, .inl (upd f (((row * S) + col)).toNatClampNeg (vp_nar .byte 0))))] H := hP
    have hD : va_D A [(aD, .inr (1, [.ref aS, .int S, .int S, .ref aB])), (aB, .inl (kB, n, .inl (upd f (((row * S) + col)).toNatClampNeg (vp_nar .byte 0))))] := hD
    rw [show vp_nar .byte 0 = (if z = 0 then 0 else 1 : Int32) by rw [if_pos c1]; decide +kernel] at hP hD
    exact W.vret hx hb hr (fun t ht hW => ⟨⟨(), rfl, trivial, by rw [ht]; exact hP, hD⟩, hS.F ht⟩) hS.2.2 dX1_setBit_23
  · refine lv_iconst (v := 1) hx hb dX1_setBit_16 (by decide) ?_
    refine lv_goto (tgt := 21) hx hb dX1_setBit_17 (by decide) ?_
    refine lv_i2b (v := 1) hx hb dX1_setBit_21 (by decide +kernel) ?_
    refine va_bast hx hb hK hP hD hS 1 0 rfl rfl h dX1_setBit_22 (fun H locs hP hD hS => ?_)
    have hP : va_P (dC, dI) vwCl [(aD, .inr (1, [.ref aS, .int S, .int S, .ref aB])), (aB, .inl (kB, n, .inl (upd f (((row * S) + col)).toNatClampNeg (vp_nar .byte 1))))] H := hP
    have hD : va_D A [(aD, .inr (1, [.ref aS, .int S, .int S, .ref aB])), (aB, .inl (kB, n, .inl (upd f (((row * S) + col)).toNatClampNeg (vp_nar .byte 1))))] := hD
    rw [show vp_nar .byte 1 = (if z = 0 then 0 else 1 : Int32) by rw [if_neg c1]; decide +kernel] at hP hD
    exact W.vret hx hb hr (fun t ht hW => ⟨⟨(), rfl, trivial, by rw [ht]; exact hP, hD⟩, hS.F ht⟩) hS.2.2 dX1_setBit_23
set_option maxHeartbeats 4000000 in
set_option maxRecDepth 100000 in
/-- an empty sheet -/
theorem metX1_init (l : Launch) (dC : Nat → ClassId) (dI : Nat → Nat → Nat) (sz : Nat) (aD aS : Nat) (S : Int32) (n : Nat) (h0 : ¬ S * S < 0) (hn : (S * S).toNatClampNeg = n) (hn196 : n ≤ 196) : Met l yX1_init (ws_ yX1_init cX1_init 4 none) ({ frames := 1, cells := 1, slots := 196, locals := 23 }) (pd_Pc [.ref aD, .ref aS, .int S, .int S] (dC, dI) [(aD, .inr (1, [.null, .int 0, .int 0, .null]))] [] sz) (pd_QA (dC, dI) (fun _ : Nat × ClassId => True) (fun u => [(aD, .inr (1, [.ref aS, .int S, .int S, .ref u.1])), (u.1, .inl (u.2, n, .inl (fun _ => -1)))]) (fun u => [(u.2, .byte)]) (va_A [(aD, .inr (1, [.null, .int 0, .int 0, .null]))] sz)) 1 196 (va_A [(aD, .inr (1, [.null, .int 0, .int 0, .null]))] sz) := by
  refine Met.ofW (cc := cX1_init) (maxL := 4) (ret := none) (by decide) rfl ?_
  intro p e s m args below meth c s₁ B hml hv
  obtain ⟨rfl, hsz, hP, hK, hD0, hE⟩ := hv
  have hx := B.exec
  have hb := B.bytes
  have hr := B.returns
  have hts := atoms_spec (ws := ws_ yX1_init cX1_init 4 none) B.pre
  have hts : ∀ w ∈ lw_all, w.before _ s = true := fun w h => hts w (List.mem_cons_of_mem _ h)
  have hown : s.vm.findClass RX1 = some m.cls := findClass_of_methodNamed B.named
  have hlocks := B.notSynchronized
  have hin : meth.name = "<init>" := (name_of_methodNamed B.named B.method).1
  subst hsz
  have hD := hD0.self (sz := s.heap.size)
  generalize hAe : va_A [(aD, .inr (1, [.null, .int 0, .int 0, .null]))] s.heap.size = A at hD hE ⊢
  have hA : ∀ q : Nat, s.heap.size ≤ q → A q := fun q h => by rw [← hAe]; exact Or.inr h
  have hS : va_S A s.heap s.heap [] := va_S.rf
  have hP : va_P (dC, dI) vwCl [(aD, .inr (1, [.null, .int 0, .int 0, .null]))] s.heap := hP
  have hl := lv_entry ([.ref aD, .ref aS, .int S, .int S]) (n := 4) (Nat.le_of_ble_eq_true rfl)
  rw [lg_entry_eq]
  generalize (lg_sl ([.ref aD, .ref aS, .int S, .int S]) ++ List.replicate (4 - (lg_sl ([.ref aD, .ref aS, .int S, .int S])).length) Slot.unset).toArray = ls at hl ⊢
  have hl : lv_has ls 4 [(0, .ref aD), (1, .ref aS), (2, .int S), (3, .int S)] := hl
  refine lv_aload_n hx hb dX1_init_0 rfl (lv_at hl 0 rfl) ?_
  refine W.objInit hx hb hown (hts _ q111) (hts _ q30) (hts _ q31) rfl (by rw [hml]; exact hl.1) rfl dX1_init_1 (Nat.le_of_ble_eq_true rfl) (Nat.le_of_ble_eq_true rfl) ?_
  refine W.eq (g2 := F0 m 4 ls []) rfl ?_
  refine lv_aload_n hx hb dX1_init_4 rfl (lv_at hl 0 rfl) ?_
  refine lv_aload_n hx hb dX1_init_5 rfl (lv_at hl 1 rfl) ?_
  refine va_putF (D := (dC, dI)) (ci := 1) (v := .ref aS) (ty := .object "java/lang/CharSequence") (C := RX1) (T := TX1) (N := 4) hx hb hts in_X1 tyX1 tyX1_ok nmX1 hown hK hP hD hS 0 rfl rfl 0 (by decide) (hts _ q115) (fun _ h9 => h9) rfl hin rfl (by decide +kernel) rfl rfl (Nat.le_of_ble_eq_true rfl) dX1_init_6 (fun H locs hP hD hS => ?_)
  have hP : va_P (dC, dI) vwCl [(aD, .inr (1, [.ref aS, .int 0, .int 0, .null]))] H := hP
  have hD : va_D A [(aD, .inr (1, [.ref aS, .int 0, .int 0, .null]))] := hD
  refine lv_aload_n hx hb dX1_init_9 rfl (lv_at hl 0 rfl) ?_
  refine lv_iload_n hx hb dX1_init_10 rfl (lv_at hl 2 rfl) ?_
  refine va_putF (D := (dC, dI)) (ci := 1) (v := .int S) (ty := .int) (C := RX1) (T := TX1) (N := 4) hx hb hts in_X1 tyX1 tyX1_ok nmX1 hown hK hP hD hS 0 rfl rfl 2 (by decide) (hts _ q117) (fun _ h9 => h9) rfl hin rfl (by decide +kernel) rfl rfl (Nat.le_of_ble_eq_true rfl) dX1_init_11 (fun H locs hP hD hS => ?_)
  have hP : va_P (dC, dI) vwCl [(aD, .inr (1, [.ref aS, .int 0, .int S, .null]))] H := hP
  have hD : va_D A [(aD, .inr (1, [.ref aS, .int 0, .int S, .null]))] := hD
  refine lv_aload_n hx hb dX1_init_14 rfl (lv_at hl 0 rfl) ?_
  refine lv_iload_n hx hb dX1_init_15 rfl (lv_at hl 3 rfl) ?_
  refine va_putF (D := (dC, dI)) (ci := 1) (v := .int S) (ty := .int) (C := RX1) (T := TX1) (N := 4) hx hb hts in_X1 tyX1 tyX1_ok nmX1 hown hK hP hD hS 0 rfl rfl 1 (by decide) (hts _ q116) (fun _ h9 => h9) rfl hin rfl (by decide +kernel) rfl rfl (Nat.le_of_ble_eq_true rfl) dX1_init_16 (fun H locs hP hD hS => ?_)
  have hP : va_P (dC, dI) vwCl [(aD, .inr (1, [.ref aS, .int S, .int S, .null]))] H := hP
  have hD : va_D A [(aD, .inr (1, [.ref aS, .int S, .int S, .null]))] := hD
  refine lv_aload_n hx hb dX1_init_19 rfl (lv_at hl 0 rfl) ?_
  refine lv_iload_n hx hb dX1_init_20 rfl (lv_at hl 2 rfl) ?_
  refine lv_iload_n hx hb dX1_init_21 rfl (lv_at hl 3 rfl) ?_
  refine lv_imul hx hb dX1_init_22 ?_
  refine va_newa (atype := .byte) (ty := .byte) (n := (S * S)) (N' := n) (a0 := (n, .inl (fun _ => 0))) hx hb (hts _ q107) rfl hK hP hD hS hA (fun _ => rfl) h0 hn (Nat.le_trans (Nat.mul_le_mul_right _ hn196) (Nat.le_of_ble_eq_true rfl)) (Nat.le_of_ble_eq_true rfl) (Nat.le_trans (Nat.le_of_eq (Nat.zero_add n)) hn196) dX1_init_23 (fun aB kB H hK hP hD hS => ?_)
  have hP : va_P (dC, dI) vwCl [(aD, .inr (1, [.ref aS, .int S, .int S, .null])), (aB, .inl (kB, n, .inl (fun _ => 0)))] H := hP
  have hD : va_D A [(aD, .inr (1, [.ref aS, .int S, .int S, .null])), (aB, .inl (kB, n, .inl (fun _ => 0)))] := hD
  have hK : va_K (dC, dI) vwCl [(kB, .byte)] s := hK
  refine W.widen (k := 1) (n := 196) (Nat.le_of_ble_eq_true rfl) (Nat.le_trans (Nat.le_of_eq (Nat.zero_add n)) hn196) ?_
  refine va_putF (D := (dC, dI)) (ci := 1) (v := .ref aB) (ty := .array .byte) (C := RX1) (T := TX1) (N := 4) hx hb hts in_X1 tyX1 tyX1_ok nmX1 hown hK hP hD hS 0 rfl rfl 3 (by decide) (hts _ q118) (fun _ h9 => h9) rfl hin rfl (by decide +kernel) rfl rfl (Nat.le_of_ble_eq_true rfl) dX1_init_25 (fun H locs hP hD hS => ?_)
  have hP : va_P (dC, dI) vwCl [(aD, .inr (1, [.ref aS, .int S, .int S, .ref aB])), (aB, .inl (kB, n, .inl (fun _ => 0)))] H := hP
  have hD : va_D A [(aD, .inr (1, [.ref aS, .int S, .int S, .ref aB])), (aB, .inl (kB, n, .inl (fun _ => 0)))] := hD
  refine lv_aload_n hx hb dX1_init_28 rfl (lv_at hl 0 rfl) ?_
  refine va_get (D := (dC, dI)) (ci := 1) (v := .ref aB) (C := RX1) (T := TX1) (N := 4) hx hb hts in_X1 hown hK hP 0 rfl rfl 3 (by decide) (hts _ q118) (fun _ h9 => h9) rfl dX1_init_29 ?_
  refine lv_iconst (v := (-1)) hx hb dX1_init_32 (by decide) ?_
  refine pd_goV (ws := [(aD, .inr (1, [.ref aS, .int S, .int S, .ref aB])), (aB, .inl (kB, n, .inl (fun _ => 0)))]) (wc := [(aB, .inl (kB, n, .inl (fun _ => 0)))]) (wr := [(aD, .inr (1, [.ref aS, .int S, .int S, .ref aB]))]) (w1 := [(aB, .inl (kB, n, .inl (fun _ => vp_nar .byte (-1))))]) [1] [0] hP hD hS hA rfl rfl (by decide) (by decide) (va_runS (As := [.ref aB, .int (-1)]) (rest := []) ⟨hx, hb, hml, hown, hts⟩ (metJ3_fill l dC dI _ aB kB n (fun _ => 0) (-1) (by omega)) (va_cwS 2 hts (lw_S q112 q113 q21 q114) rfl rfl rfl (by decide +kernel) ⟨Nat.le_of_ble_eq_true rfl, Nat.le_of_ble_eq_true rfl⟩) ⟨pd_Pc.blind, pd_pre [1] [0] hP hK hD hE hS hA rfl (by decide) rfl⟩ rfl rfl hl.1 rfl (lv_room (Nat.le_of_ble_eq_true rfl)) dX1_init_33 ⟨Nat.le_of_ble_eq_true rfl, Nat.le_of_ble_eq_true rfl⟩) (fun H locs hP hD hS => ?_)
  have hP : va_P (dC, dI) vwCl [(aD, .inr (1, [.ref aS, .int S, .int S, .ref aB])), (aB, .inl (kB, n, .inl (fun _ => vp_nar .byte (-1))))] H := hP
  have hD : va_D A [(aD, .inr (1, [.ref aS, .int S, .int S, .ref aB])), (aB, .inl (kB, n, .inl (fun _ => vp_nar .byte (-1))))] := hD
  rw [show vp_nar .byte (-1) = -1 by decide +kernel] at hP hD
  exact W.vret hx hb hr (fun t ht hW => ⟨⟨(aB, kB), rfl, trivial, by rw [ht]; exact hP, va_K.moved hW.alike hK, hD⟩, hS.F ht⟩) hS.2.2 dX1_init_36
set_option maxHeartbeats 4000000 in
set_option maxRecDepth 100000 in
/-- one bit of one codeword -/
theorem metX1_module (l : Launch) (dC : Nat → ClassId) (dI : Nat → Nat → Nat) (sz : Nat) (aD aB aS aV : Nat) (kB kV : ClassId) (S : Int32) (n : Nat) (b : Nat → Nat) (T T1 : List pC) (row col pos bit : Int32) (hb256 : ∀ j, b j < 256) (hT : T.length = n) (h : pm_mod S row col pos bit T = some T1) : Met l yX1_module (ws_ yX1_module cX1_module 6 none) ({ frames := 4, cells := 0, slots := 0, locals := 85 }) (pd_Pc [.ref aD, .int row, .int col, .int pos, .int bit] (dC, dI) [(aD, .inr (1, [.ref aS, .int S, .int S, .ref aB])), (aB, .inl (kB, n, .inl (pcl b T))), (aS, .inr (2, [.ref aV, .int 0, .int 0, .int 0])), (aV, .inl (kV, 72, .inl (pd_by b)))] [(kB, .byte), (kV, .byte)] sz) (pd_Qv (dC, dI) [(aD, .inr (1, [.ref aS, .int S, .int S, .ref aB])), (aB, .inl (kB, n, .inl (pcl b T1))), (aS, .inr (2, [.ref aV, .int 0, .int 0, .int 0])), (aV, .inl (kV, 72, .inl (pd_by b)))] (va_A [(aD, .inr (1, [.ref aS, .int S, .int S, .ref aB])), (aB, .inl (kB, n, .inl (pcl b T))), (aS, .inr (2, [.ref aV, .int 0, .int 0, .int 0])), (aV, .inl (kV, 72, .inl (pd_by b)))] sz)) 0 0 (va_A [(aD, .inr (1, [.ref aS, .int S, .int S, .ref aB])), (aB, .inl (kB, n, .inl (pcl b T))), (aS, .inr (2, [.ref aV, .int 0, .int 0, .int 0])), (aV, .inl (kV, 72, .inl (pd_by b)))] sz) := by
  refine Met.ofW (cc := cX1_module) (maxL := 6) (ret := none) (by decide) rfl ?_
  intro p e s m args below meth c s₁ B hml hv
  obtain ⟨rfl, hsz, hP, hK, hD0, hE⟩ := hv
  have hx := B.exec
  have hb := B.bytes
  have hr := B.returns
  have hts := atoms_spec (ws := ws_ yX1_module cX1_module 6 none) B.pre
  have hts : ∀ w ∈ lw_all, w.before _ s = true := fun w h => hts w (List.mem_cons_of_mem _ h)
  have hown : s.vm.findClass RX1 = some m.cls := findClass_of_methodNamed B.named
  have hlocks := B.notSynchronized
  subst hsz
  have hD := hD0.self (sz := s.heap.size)
  generalize hAe : va_A [(aD, .inr (1, [.ref aS, .int S, .int S, .ref aB])), (aB, .inl (kB, n, .inl (pcl b T))), (aS, .inr (2, [.ref aV, .int 0, .int 0, .int 0])), (aV, .inl (kV, 72, .inl (pd_by b)))] s.heap.size = A at hD hE ⊢
  have hA : ∀ q : Nat, s.heap.size ≤ q → A q := fun q h => by rw [← hAe]; exact Or.inr h
  have hS : va_S A s.heap s.heap [] := va_S.rf
  have hP : va_P (dC, dI) vwCl [(aD, .inr (1, [.ref aS, .int S, .int S, .ref aB])), (aB, .inl (kB, n, .inl (pcl b T))), (aS, .inr (2, [.ref aV, .int 0, .int 0, .int 0])), (aV, .inl (kV, 72, .inl (pd_by b)))] s.heap := hP
  have hl := lv_entry ([.ref aD, .int row, .int col, .int pos, .int bit]) (n := 6) (Nat.le_of_ble_eq_true rfl)
  rw [lg_entry_eq]
  generalize (lg_sl ([.ref aD, .int row, .int col, .int pos, .int bit]) ++ List.replicate (6 - (lg_sl ([.ref aD, .int row, .int col, .int pos, .int bit])).length) Slot.unset).toArray = ls at hl ⊢
  have hl : lv_has ls 6 [(0, .ref aD), (1, .int row), (2, .int col), (3, .int pos), (4, .int bit)] := hl
  obtain ⟨hi, hpos, hT1⟩ := pm_mod_spec h
  have k50 : ∀ (r c0 : Int32) (ls : Array Slot), lv_has ls 6 [(0, .ref aD), (1, .int r), (2, .int c0), (3, .int pos), (4, .int bit)] → r * S + c0 = pm_ix S row col → W p l e (headSpec (ws_ yX1_module cX1_module 6 none) ({ frames := 4, cells := 0, slots := 0, locals := 85 })).room s m ([.ref aD, .int row, .int col, .int pos, .int bit] : List Value).toArray below meth c s.heap [] 0 0 (MQ below (pd_Qv (dC, dI) [(aD, .inr (1, [.ref aS, .int S, .int S, .ref aB])), (aB, .inl (kB, n, .inl (pcl b T1))), (aS, .inr (2, [.ref aV, .int 0, .int 0, .int 0])), (aV, .inl (kV, 72, .inl (pd_by b)))] A) ([.ref aD, .int row, .int col, .int pos, .int bit] : List Value).toArray s 0 0 A) (F0 m 50 ls []) := by
    intro r c0 ls hl hix
    refine lv_aload_n hx hb dX1_module_50 rfl (lv_at hl 0 rfl) ?_
    refine va_get (D := (dC, dI)) (ci := 1) (v := .ref aS) (C := RX1) (T := TX1) (N := 4) hx hb hts in_X1 hown hK hP 0 rfl rfl 0 (by decide) (hts _ q115) (fun _ h9 => h9) rfl dX1_module_51 ?_
    refine lv_iload_n hx hb dX1_module_54 rfl (lv_at hl 3 rfl) ?_
    refine pd_readF (v := pd_by b pos.toNatClampNeg &&& 255) (va_runF (cC := dC 2) (x := pd_xc) (y := yJ0_charAt) (As := [.int pos]) (rest := []) ((hK.1 2 _ rfl).2) ⟨hx, hb, hml, hown, hts⟩ (metJ0_charAt l dC dI aS aV kV (pd_by b) pos hpos) (va_cwF 1 hts (lw_F q160 q164 q166 q18 q168) rfl rfl rfl hE.2.2 (by decide +kernel) ⟨Nat.le_of_ble_eq_true rfl, Nat.le_of_ble_eq_true rfl⟩) ⟨pd_Pr.blind, va_recv hK hP (ci := 2) (q0 := 2) rfl rfl, pd_prer [2, 3] [1] hP hK hE hS rfl rfl⟩ rfl rfl hl.1 rfl (lv_room (Nat.le_of_ble_eq_true rfl)) dX1_module_55 ⟨Nat.le_of_ble_eq_true rfl, Nat.le_of_ble_eq_true rfl⟩) ?_
    rw [pd_by_and hb256]
    refine lv_istore (lv' := [(5, .int (nI (b pos.toNatClampNeg))), (0, .ref aD), (1, .int r), (2, .int c0), (3, .int pos), (4, .int bit)]) hx hb dX1_module_60 hl (by decide) rfl (fun ls hl => ?_)
    refine lv_iload hx hb dX1_module_62 (lv_at hl 0 rfl) ?_
    refine lv_iconst (v := 1) hx hb dX1_module_64 (by decide) ?_
    refine lv_bipush (v := 8) hx hb dX1_module_65 (by decide) ?_
    refine lv_iload hx hb dX1_module_67 (lv_at hl 5 rfl) ?_
    refine lv_isub hx hb dX1_module_69 ?_
    refine lv_ishl hx hb dX1_module_70 ?_
    refine lv_iand hx hb dX1_module_71 ?_
    refine lv_topi (fun x1 ex1 => ?_)
    refine lv_istore (lv' := [(5, .int x1), (0, .ref aD), (1, .int r), (2, .int c0), (3, .int pos), (4, .int bit)]) hx hb dX1_module_72 hl (by decide) rfl (fun ls hl => ?_)
    refine lv_aload_n hx hb dX1_module_74 rfl (lv_at hl 1 rfl) ?_
    refine lv_iload_n hx hb dX1_module_75 rfl (lv_at hl 3 rfl) ?_
    refine lv_iload_n hx hb dX1_module_76 rfl (lv_at hl 2 rfl) ?_
    refine lv_iload hx hb dX1_module_77 (lv_at hl 0 rfl) ?_
    refine lv_if_eq (tgt := 86) hx hb dX1_module_79 (by decide) (fun c2 => ?_) (fun c2 => ?_)
    · refine lv_iconst (v := 0) hx hb dX1_module_86 (by decide) ?_
      refine pd_goV (ws := [(aD, .inr (1, [.ref aS, .int S, .int S, .ref aB])), (aB, .inl (kB, n, .inl (pcl b T))), (aS, .inr (2, [.ref aV, .int 0, .int 0, .int 0])), (aV, .inl (kV, 72, .inl (pd_by b)))]) (wc := [(aD, .inr (1, [.ref aS, .int S, .int S, .ref aB])), (aB, .inl (kB, n, .inl (pcl b T)))]) (wr := [(aS, .inr (2, [.ref aV, .int 0, .int 0, .int 0])), (aV, .inl (kV, 72, .inl (pd_by b)))]) (w1 := [(aD, .inr (1, [.ref aS, .int S, .int S, .ref aB])), (aB, .inl (kB, n, .inl (upd (pcl b T) (r * S + c0).toNatClampNeg (if (0 : Int32) = 0 then 0 else 1))))]) [0, 1] [2, 3] hP hD hS hA rfl rfl (by decide) (by decide) (va_runV (As := [.int c0, .int r, .int 0]) (rest := []) ⟨hx, hb, hml, hown, hts⟩ (metX1_setBit l dC dI _ aD aB aS kB S n (pcl b T) c0 r 0 (by rw [hix, ← hT]; exact hi)) (cwV 3 hts (lw_V q189 q191 qs2 q17 q192) rfl rfl rfl (by decide +kernel) ⟨Nat.le_of_ble_eq_true rfl, Nat.le_of_ble_eq_true rfl⟩) ⟨pd_Pc.blind, va_recv hK hP (ci := 1) (q0 := 0) rfl rfl, pd_pre [0, 1] [0] hP hK hD hE hS hA rfl (by decide) rfl⟩ rfl rfl hl.1 rfl (lv_room (Nat.le_of_ble_eq_true rfl)) dX1_module_87 ⟨Nat.le_of_ble_eq_true rfl, Nat.le_of_ble_eq_true rfl⟩) (fun H locs hP hD hS => ?_)
      have hP : va_P (dC, dI) vwCl [(aS, .inr (2, [.ref aV, .int 0, .int 0, .int 0])), (aV, .inl (kV, 72, .inl (pd_by b))), (aD, .inr (1, [.ref aS, .int S, .int S, .ref aB])), (aB, .inl (kB, n, .inl (upd (pcl b T) (r * S + c0).toNatClampNeg (if (0 : Int32) = 0 then 0 else 1))))] H := hP
      have hD : va_D A [(aS, .inr (2, [.ref aV, .int 0, .int 0, .int 0])), (aV, .inl (kV, 72, .inl (pd_by b))), (aD, .inr (1, [.ref aS, .int S, .int S, .ref aB])), (aB, .inl (kB, n, .inl (upd (pcl b T) (r * S + c0).toNatClampNeg (if (0 : Int32) = 0 then 0 else 1))))] := hD
      have ev : (if (0 : Int32) = 0 then 0 else 1 : Int32) = pm_cv b (2, pos, bit) := by rw [pm_cv2, ← ex1, if_pos c2]; decide
      rw [hix, pcl_set (c := (2, pos, bit)) (vp_lt hi) ev, ← hT1] at hP hD
      have hP := hP.sub (ws' := [(aD, .inr (1, [.ref aS, .int S, .int S, .ref aB])), (aB, .inl (kB, n, .inl (pcl b T1))), (aS, .inr (2, [.ref aV, .int 0, .int 0, .int 0])), (aV, .inl (kV, 72, .inl (pd_by b)))]) [2, 3, 0, 1] rfl
      have hD := hD.sub (ws' := [(aD, .inr (1, [.ref aS, .int S, .int S, .ref aB])), (aB, .inl (kB, n, .inl (pcl b T1))), (aS, .inr (2, [.ref aV, .int 0, .int 0, .int 0])), (aV, .inl (kV, 72, .inl (pd_by b)))]) [2, 3, 0, 1] (by decide) rfl
      exact W.vret hx hb hr (fun t ht hW => ⟨⟨(), rfl, trivial, by rw [ht]; exact hP, hD⟩, hS.F ht⟩) hS.2.2 dX1_module_90
    · refine lv_iconst (v := 1) hx hb dX1_module_82 (by decide) ?_
      refine lv_goto (tgt := 87) hx hb dX1_module_83 (by decide) ?_
      refine pd_goV (ws := [(aD, .inr (1, [.ref aS, .int S, .int S, .ref aB])), (aB, .inl (kB, n, .inl (pcl b T))), (aS, .inr (2, [.ref aV, .int 0, .int 0, .int 0])), (aV, .inl (kV, 72, .inl (pd_by b)))]) (wc := [(aD, .inr (1, [.ref aS, .int S, .int S, .ref aB])), (aB, .inl (kB, n, .inl (pcl b T)))]) (wr := [(aS, .inr (2, [.ref aV, .int 0, .int 0, .int 0])), (aV, .inl (kV, 72, .inl (pd_by b)))]) (w1 := [(aD, .inr (1, [.ref aS, .int S, .int S, .ref aB])), (aB, .inl (kB, n, .inl (upd (pcl b T) (r * S + c0).toNatClampNeg (if (1 : Int32) = 0 then 0 else 1))))]) [0, 1] [2, 3] hP hD hS hA rfl rfl (by decide) (by decide) (va_runV (As := [.int c0, .int r, .int 1]) (rest := []) ⟨hx, hb, hml, hown, hts⟩ (metX1_setBit l dC dI _ aD aB aS kB S n (pcl b T) c0 r 1 (by rw [hix, ← hT]; exact hi)) (cwV 3 hts (lw_V q189 q191 qs2 q17 q192) rfl rfl rfl (by decide +kernel) ⟨Nat.le_of_ble_eq_true rfl, Nat.le_of_ble_eq_true rfl⟩) ⟨pd_Pc.blind, va_recv hK hP (ci := 1) (q0 := 0) rfl rfl, pd_pre [0, 1] [0] hP hK hD hE hS hA rfl (by decide) rfl⟩ rfl rfl hl.1 rfl (lv_room (Nat.le_of_ble_eq_true rfl)) dX1_module_87 ⟨Nat.le_of_ble_eq_true rfl, Nat.le_of_ble_eq_true rfl⟩) (fun H locs hP hD hS => ?_)
      have hP : va_P (dC, dI) vwCl [(aS, .inr (2, [.ref aV, .int 0, .int 0, .int 0])), (aV, .inl (kV, 72, .inl (pd_by b))), (aD, .inr (1, [.ref aS, .int S, .int S, .ref aB])), (aB, .inl (kB, n, .inl (upd (pcl b T) (r * S + c0).toNatClampNeg (if (1 : Int32) = 0 then 0 else 1))))] H := hP
      have hD : va_D A [(aS, .inr (2, [.ref aV, .int 0, .int 0, .int 0])), (aV, .inl (kV, 72, .inl (pd_by b))), (aD, .inr (1, [.ref aS, .int S, .int S, .ref aB])), (aB, .inl (kB, n, .inl (upd (pcl b T) (r * S + c0).toNatClampNeg (if (1 : Int32) = 0 then 0 else 1))))] := hD
      have ev : (if (1 : Int32) = 0 then 0 else 1 : Int32) = pm_cv b (2, pos, bit) := by rw [pm_cv2, ← ex1, if_neg c2]; decide
      rw [hix, pcl_set (c := (2, pos, bit)) (vp_lt hi) ev, ← hT1] at hP hD
      have hP := hP.sub (ws' := [(aD, .inr (1, [.ref aS, .int S, .int S, .ref aB])), (aB, .inl (kB, n, .inl (pcl b T1))), (aS, .inr (2, [.ref aV, .int 0, .int 0, .int 0])), (aV, .inl (kV, 72, .inl (pd_by b)))]) [2, 3, 0, 1] rfl
      have hD := hD.sub (ws' := [(aD, .inr (1, [.ref aS, .int S, .int S, .ref aB])), (aB, .inl (kB, n, .inl (pcl b T1))), (aS, .inr (2, [.ref aV, .int 0, .int 0, .int 0])), (aV, .inl (kV, 72, .inl (pd_by b)))]) [2, 3, 0, 1] (by decide) rfl
      exact W.vret hx hb hr (fun t ht hW => ⟨⟨(), rfl, trivial, by rw [ht]; exact hP, hD⟩, hS.F ht⟩) hS.2.2 dX1_module_90
  have k25 : ∀ (r c0 : Int32) (ls : Array Slot), lv_has ls 6 [(0, .ref aD), (1, .int r), (2, .int c0), (3, .int pos), (4, .int bit)] → (if c0 < 0 then (r + pm_k S) * S + (c0 + S) else r * S + c0) = pm_ix S row col → W p l e (headSpec (ws_ yX1_module cX1_module 6 none) ({ frames := 4, cells := 0, slots := 0, locals := 85 })).room s m ([.ref aD, .int row, .int col, .int pos, .int bit] : List Value).toArray below meth c s.heap [] 0 0 (MQ below (pd_Qv (dC, dI) [(aD, .inr (1, [.ref aS, .int S, .int S, .ref aB])), (aB, .inl (kB, n, .inl (pcl b T1))), (aS, .inr (2, [.ref aV, .int 0, .int 0, .int 0])), (aV, .inl (kV, 72, .inl (pd_by b)))] A) ([.ref aD, .int row, .int col, .int pos, .int bit] : List Value).toArray s 0 0 A) (F0 m 25 ls []) := by
    intro r c0 ls hl hix
    refine lv_iload_n hx hb dX1_module_25 rfl (lv_at hl 2 rfl) ?_
    refine lv_if_ge (tgt := 50) hx hb dX1_module_26 (by decide) (fun c1 => ?_) (fun c1 => ?_)
    · rw [if_neg (Int32.not_lt.mpr c1)] at hix
      exact k50 r c0 ls hl hix
    · rw [if_pos (Int32.not_le.mp c1)] at hix
      refine lv_iload_n hx hb dX1_module_29 rfl (lv_at hl 2 rfl) ?_
      refine lv_aload_n hx hb dX1_module_30 rfl (lv_at hl 0 rfl) ?_
      refine va_get (D := (dC, dI)) (ci := 1) (v := .int S) (C := RX1) (T := TX1) (N := 4) hx hb hts in_X1 hown hK hP 0 rfl rfl 2 (by decide) (hts _ q117) (fun _ h9 => h9) rfl dX1_module_31 ?_
      refine lv_iadd hx hb dX1_module_34 ?_
      refine lv_istore_n (lv' := [(2, .int (c0 + S)), (0, .ref aD), (1, .int r), (3, .int pos), (4, .int bit)]) hx hb dX1_module_35 rfl hl (by decide) rfl (fun ls hl => ?_)
      refine lv_iload_n hx hb dX1_module_36 rfl (lv_at hl 2 rfl) ?_
      refine lv_iconst (v := 4) hx hb dX1_module_37 (by decide) ?_
      refine lv_aload_n hx hb dX1_module_38 rfl (lv_at hl 1 rfl) ?_
      refine va_get (D := (dC, dI)) (ci := 1) (v := .int S) (C := RX1) (T := TX1) (N := 4) hx hb hts in_X1 hown hK hP 0 rfl rfl 2 (by decide) (hts _ q117) (fun _ h9 => h9) rfl dX1_module_39 ?_
      refine lv_iconst (v := 4) hx hb dX1_module_42 (by decide) ?_
      refine lv_iadd hx hb dX1_module_43 ?_
      refine lv_bipush (v := 8) hx hb dX1_module_44 (by decide) ?_
      refine lv_irem hx hb dX1_module_46 (by decide) ?_
      refine lv_isub hx hb dX1_module_47 ?_
      refine lv_iadd hx hb dX1_module_48 ?_
      refine lv_istore_n (lv' := [(1, .int (r + (4 - ((S + 4) - (S + 4) / 8 * 8)))), (2, .int (c0 + S)), (0, .ref aD), (3, .int pos), (4, .int bit)]) hx hb dX1_module_49 rfl hl (by decide) rfl (fun ls hl => ?_)
      exact k50 (r + pm_k S) (c0 + S) ls (lv_sub hl [2, 0, 1, 3, 4] rfl) hix
  refine lv_iload_n hx hb dX1_module_0 rfl (lv_at hl 1 rfl) ?_
  refine lv_if_ge (tgt := 25) hx hb dX1_module_1 (by decide) (fun c1 => ?_) (fun c1 => ?_)
  · exact k25 row col ls hl (by unfold pm_ix; rw [if_neg (Int32.not_lt.mpr c1)])
  · refine lv_iload_n hx hb dX1_module_4 rfl (lv_at hl 1 rfl) ?_
    refine lv_aload_n hx hb dX1_module_5 rfl (lv_at hl 0 rfl) ?_
    refine va_get (D := (dC, dI)) (ci := 1) (v := .int S) (C := RX1) (T := TX1) (N := 4) hx hb hts in_X1 hown hK hP 0 rfl rfl 1 (by decide) (hts _ q116) (fun _ h9 => h9) rfl dX1_module_6 ?_
    refine lv_iadd hx hb dX1_module_9 ?_
    refine lv_istore_n (lv' := [(1, .int (row + S)), (0, .ref aD), (2, .int col), (3, .int pos), (4, .int bit)]) hx hb dX1_module_10 rfl hl (by decide) rfl (fun ls hl => ?_)
    refine lv_iload_n hx hb dX1_module_11 rfl (lv_at hl 2 rfl) ?_
    refine lv_iconst (v := 4) hx hb dX1_module_12 (by decide) ?_
    refine lv_aload_n hx hb dX1_module_13 rfl (lv_at hl 1 rfl) ?_
    refine va_get (D := (dC, dI)) (ci := 1) (v := .int S) (C := RX1) (T := TX1) (N := 4) hx hb hts in_X1 hown hK hP 0 rfl rfl 1 (by decide) (hts _ q116) (fun _ h9 => h9) rfl dX1_module_14 ?_
    refine lv_iconst (v := 4) hx hb dX1_module_17 (by decide) ?_
    refine lv_iadd hx hb dX1_module_18 ?_
    refine lv_bipush (v := 8) hx hb dX1_module_19 (by decide) ?_
    refine lv_irem hx hb dX1_module_21 (by decide) ?_
    refine lv_isub hx hb dX1_module_22 ?_
    refine lv_iadd hx hb dX1_module_23 ?_
    refine lv_istore_n (lv' := [(2, .int (col + (4 - ((S + 4) - (S + 4) / 8 * 8)))), (1, .int (row + S)), (0, .ref aD), (3, .int pos), (4, .int bit)]) hx hb dX1_module_24 rfl hl (by decide) rfl (fun ls hl => ?_)
    exact k25 (row + S) (col + pm_k S) ls (lv_sub hl [2, 1, 0, 3, 4] rfl) (by unfold pm_ix; rw [if_pos (Int32.not_le.mp c1)])
set_option maxHeartbeats 4000000 in
set_option maxRecDepth 100000 in
/-- the eight bits of one codeword -/
theorem metX1_utah (l : Launch) (dC : Nat → ClassId) (dI : Nat → Nat → Nat) (sz : Nat) (aD aB aS aV : Nat) (kB kV : ClassId) (S : Int32) (n : Nat) (b : Nat → Nat) (T T8 : List pC) (row col pos : Int32) (hb256 : ∀ j, b j < 256) (hT : T.length = n) (h : pm_utah S row col pos T = some T8) : Met l yX1_utah (ws_ yX1_utah cX1_utah 4 none) ({ frames := 5, cells := 0, slots := 0, locals := 110 }) (pd_Pc [.ref aD, .int row, .int col, .int pos] (dC, dI) [(aD, .inr (1, [.ref aS, .int S, .int S, .ref aB])), (aB, .inl (kB, n, .inl (pcl b T))), (aS, .inr (2, [.ref aV, .int 0, .int 0, .int 0])), (aV, .inl (kV, 72, .inl (pd_by b)))] [(kB, .byte), (kV, .byte)] sz) (pd_Qv (dC, dI) [(aD, .inr (1, [.ref aS, .int S, .int S, .ref aB])), (aB, .inl (kB, n, .inl (pcl b T8))), (aS, .inr (2, [.ref aV, .int 0, .int 0, .int 0])), (aV, .inl (kV, 72, .inl (pd_by b)))] (va_A [(aD, .inr (1, [.ref aS, .int S, .int S, .ref aB])), (aB, .inl (kB, n, .inl (pcl b T))), (aS, .inr (2, [.ref aV, .int 0, .int 0, .int 0])), (aV, .inl (kV, 72, .inl (pd_by b)))] sz)) 0 0 (va_A [(aD, .inr (1, [.ref aS, .int S, .int S, .ref aB])), (aB, .inl (kB, n, .inl (pcl b T))), (aS, .inr (2, [.ref aV, .int 0, .int 0, .int 0])), (aV, .inl (kV, 72, .inl (pd_by b)))] sz) := by
  refine Met.ofW (cc := cX1_utah) (maxL := 4) (ret := none) (by decide) rfl ?_
  intro p e s m args below meth c s₁ B hml hv
  obtain ⟨rfl, hsz, hP, hK, hD0, hE⟩ := hv
  have hx := B.exec
  have hb := B.bytes
  have hr := B.returns
  have hts := atoms_spec (ws := ws_ yX1_utah cX1_utah 4 none) B.pre
  have hts : ∀ w ∈ lw_all, w.before _ s = true := fun w h => hts w (List.mem_cons_of_mem _ h)
  have hown : s.vm.findClass RX1 = some m.cls := findClass_of_methodNamed B.named
  have hlocks := B.notSynchronized
  subst hsz
  have hD := hD0.self (sz := s.heap.size)
  generalize hAe : va_A [(aD, .inr (1, [.ref aS, .int S, .int S, .ref aB])), (aB, .inl (kB, n, .inl (pcl b T))), (aS, .inr (2, [.ref aV, .int 0, .int 0, .int 0])), (aV, .inl (kV, 72, .inl (pd_by b)))] s.heap.size = A at hD hE ⊢
  have hA : ∀ q : Nat, s.heap.size ≤ q → A q := fun q h => by rw [← hAe]; exact Or.inr h
  have hS : va_S A s.heap s.heap [] := va_S.rf
  have hP : va_P (dC, dI) vwCl [(aD, .inr (1, [.ref aS, .int S, .int S, .ref aB])), (aB, .inl (kB, n, .inl (pcl b T))), (aS, .inr (2, [.ref aV, .int 0, .int 0, .int 0])), (aV, .inl (kV, 72, .inl (pd_by b)))] s.heap := hP
  have hl := lv_entry ([.ref aD, .int row, .int col, .int pos]) (n := 4) (Nat.le_of_ble_eq_true rfl)
  rw [lg_entry_eq]
  generalize (lg_sl ([.ref aD, .int row, .int col, .int pos]) ++ List.replicate (4 - (lg_sl ([.ref aD, .int row, .int col, .int pos])).length) Slot.unset).toArray = ls at hl ⊢
  have hl : lv_has ls 4 [(0, .ref aD), (1, .int row), (2, .int col), (3, .int pos)] := hl
  obtain ⟨T1, T2, T3, T4, T5, T6, T7, h1, h2, h3, h4, h5, h6, h7, h8⟩ := pm_8 h
  refine lv_aload_n hx hb dX1_utah_0 rfl (lv_at hl 0 rfl) ?_
  refine lv_iload_n hx hb dX1_utah_1 rfl (lv_at hl 1 rfl) ?_
  refine lv_iconst (v := 2) hx hb dX1_utah_2 (by decide) ?_
  refine lv_isub hx hb dX1_utah_3 ?_
  refine lv_iload_n hx hb dX1_utah_4 rfl (lv_at hl 2 rfl) ?_
  refine lv_iconst (v := 2) hx hb dX1_utah_5 (by decide) ?_
  refine lv_isub hx hb dX1_utah_6 ?_
  refine lv_iload_n hx hb dX1_utah_7 rfl (lv_at hl 3 rfl) ?_
  refine lv_iconst (v := 1) hx hb dX1_utah_8 (by decide) ?_
  refine pd_goV (ws := [(aD, .inr (1, [.ref aS, .int S, .int S, .ref aB])), (aB, .inl (kB, n, .inl (pcl b T))), (aS, .inr (2, [.ref aV, .int 0, .int 0, .int 0])), (aV, .inl (kV, 72, .inl (pd_by b)))]) (wc := [(aD, .inr (1, [.ref aS, .int S, .int S, .ref aB])), (aB, .inl (kB, n, .inl (pcl b T))), (aS, .inr (2, [.ref aV, .int 0, .int 0, .int 0])), (aV, .inl (kV, 72, .inl (pd_by b)))]) (wr := []) (w1 := [(aD, .inr (1, [.ref aS, .int S, .int S, .ref aB])), (aB, .inl (kB, n, .inl (pcl b T1))), (aS, .inr (2, [.ref aV, .int 0, .int 0, .int 0])), (aV, .inl (kV, 72, .inl (pd_by b)))]) [0, 1, 2, 3] [] hP hD hS hA rfl rfl (by decide) (by decide) (va_runV (As := [.int (row - 2), .int (col - 2), .int pos, .int 1]) (rest := []) ⟨hx, hb, hml, hown, hts⟩ (metX1_module l dC dI _ aD aB aS aV kB kV S n b T T1 (row - 2) (col - 2) pos 1 hb256 hT h1) (cwV 4 hts (lw_V q155 q157 qs1 q17 q158) rfl rfl rfl (by decide +kernel) ⟨Nat.le_of_ble_eq_true rfl, Nat.le_of_ble_eq_true rfl⟩) ⟨pd_Pc.blind, va_recv hK hP (ci := 1) (q0 := 0) rfl rfl, pd_pre [0, 1, 2, 3] [0, 1] hP hK hD hE hS hA rfl (by decide) rfl⟩ rfl rfl hl.1 rfl (lv_room (Nat.le_of_ble_eq_true rfl)) dX1_utah_9 ⟨Nat.le_of_ble_eq_true rfl, Nat.le_of_ble_eq_true rfl⟩) (fun H locs hP hD hS => ?_)
  have hP : va_P (dC, dI) vwCl [(aD, .inr (1, [.ref aS, .int S, .int S, .ref aB])), (aB, .inl (kB, n, .inl (pcl b T1))), (aS, .inr (2, [.ref aV, .int 0, .int 0, .int 0])), (aV, .inl (kV, 72, .inl (pd_by b)))] H := hP
  have hD : va_D A [(aD, .inr (1, [.ref aS, .int S, .int S, .ref aB])), (aB, .inl (kB, n, .inl (pcl b T1))), (aS, .inr (2, [.ref aV, .int 0, .int 0, .int 0])), (aV, .inl (kV, 72, .inl (pd_by b)))] := hD
  have hT1 : T1.length = n := (pm_mod_len h1).trans hT
  refine lv_aload_n hx hb dX1_utah_12 rfl (lv_at hl 0 rfl) ?_
  refine lv_iload_n hx hb dX1_utah_13 rfl (lv_at hl 1 rfl) ?_
  refine lv_iconst (v := 2) hx hb dX1_utah_14 (by decide) ?_
  refine lv_isub hx hb dX1_utah_15 ?_
  refine lv_iload_n hx hb dX1_utah_16 rfl (lv_at hl 2 rfl) ?_
  refine lv_iconst (v := 1) hx hb dX1_utah_17 (by decide) ?_
  refine lv_isub hx hb dX1_utah_18 ?_
  refine lv_iload_n hx hb dX1_utah_19 rfl (lv_at hl 3 rfl) ?_
  refine lv_iconst (v := 2) hx hb dX1_utah_20 (by decide) ?_
  refine pd_goV (ws := [(aD, .inr (1, [.ref aS, .int S, .int S, .ref aB])), (aB, .inl (kB, n, .inl (pcl b T1))), (aS, .inr (2, [.ref aV, .int 0, .int 0, .int 0])), (aV, .inl (kV, 72, .inl (pd_by b)))]) (wc := [(aD, .inr (1, [.ref aS, .int S, .int S, .ref aB])), (aB, .inl (kB, n, .inl (pcl b T1))), (aS, .inr (2, [.ref aV, .int 0, .int 0, .int 0])), (aV, .inl (kV, 72, .inl (pd_by b)))]) (wr := []) (w1 := [(aD, .inr (1, [.ref aS, .int S, .int S, .ref aB])), (aB, .inl (kB, n, .inl (pcl b T2))), (aS, .inr (2, [.ref aV, .int 0, .int 0, .int 0])), (aV, .inl (kV, 72, .inl (pd_by b)))]) [0, 1, 2, 3] [] hP hD hS hA rfl rfl (by decide) (by decide) (va_runV (As := [.int (row - 2), .int (col - 1), .int pos, .int 2]) (rest := []) ⟨hx, hb, hml, hown, hts⟩ (metX1_module l dC dI _ aD aB aS aV kB kV S n b T1 T2 (row - 2) (col - 1) pos 2 hb256 hT1 h2) (cwV 4 hts (lw_V q155 q157 qs1 q17 q158) rfl rfl rfl (by decide +kernel) ⟨Nat.le_of_ble_eq_true rfl, Nat.le_of_ble_eq_true rfl⟩) ⟨pd_Pc.blind, va_recv hK hP (ci := 1) (q0 := 0) rfl rfl, pd_pre [0, 1, 2, 3] [0, 1] hP hK hD hE hS hA rfl (by decide) rfl⟩ rfl rfl hl.1 rfl (lv_room (Nat.le_of_ble_eq_true rfl)) dX1_utah_21 ⟨Nat.le_of_ble_eq_true rfl, Nat.le_of_ble_eq_true rfl⟩) (fun H locs hP hD hS => ?_)
  have hP : va_P (dC, dI) vwCl [(aD, .inr (1, [.ref aS, .int S, .int S, .ref aB])), (aB, .inl (kB, n, .inl (pcl b T2))), (aS, .inr (2, [.ref aV, .int 0, .int 0, .int 0])), (aV, .inl (kV, 72, .inl (pd_by b)))] H := hP
  have hD : va_D A [(aD, .inr (1, [.ref aS, .int S, .int S, .ref aB])), (aB, .inl (kB, n, .inl (pcl b T2))), (aS, .inr (2, [.ref aV, .int 0, .int 0, .int 0])), (aV, .inl (kV, 72, .inl (pd_by b)))] := hD
  have hT2 : T2.length = n := (pm_mod_len h2).trans hT1
  refine lv_aload_n hx hb dX1_utah_24 rfl (lv_at hl 0 rfl) ?_
  refine lv_iload_n hx hb dX1_utah_25 rfl (lv_at hl 1 rfl) ?_
  refine lv_iconst (v := 1) hx hb dX1_utah_26 (by decide) ?_
  refine lv_isub hx hb dX1_utah_27 ?_
  refine lv_iload_n hx hb dX1_utah_28 rfl (lv_at hl 2 rfl) ?_
  refine lv_iconst (v := 2) hx hb dX1_utah_29 (by decide) ?_
  refine lv_isub hx hb dX1_utah_30 ?_
  refine lv_iload_n hx hb dX1_utah_31 rfl (lv_at hl 3 rfl) ?_
  refine lv_iconst (v := 3) hx hb dX1_utah_32 (by decide) ?_
  refine pd_goV (ws := [(aD, .inr (1, [.ref aS, .int S, .int S, .ref aB])), (aB, .inl (kB, n, .inl (pcl b T2))), (aS, .inr (2, [.ref aV, .int 0, .int 0, .int 0])), (aV, .inl (kV, 72, .inl (pd_by b)))]) (wc := [(aD, .inr (1, [.ref aS, .int S, .int S, .ref aB])), (aB, .inl (kB, n, .inl (pcl b T2))), (aS, .inr (2, [.ref aV, .int 0, .int 0, .int 0])), (aV, .inl (kV, 72, .inl (pd_by b)))]) (wr := []) (w1 := [(aD, .inr (1, [.ref aS, .int S, .int S, .ref aB])), (aB, .inl (kB, n, .inl (pcl b T3))), (aS, .inr (2, [.ref aV, .int 0, .int 0, .int 0])), (aV, .inl (kV, 72, .inl (pd_by b)))]) [0, 1, 2, 3] [] hP hD hS hA rfl rfl (by decide) (by decide) (va_runV (As := [.int (row - 1), .int (col - 2), .int pos, .int 3]) (rest := []) ⟨hx, hb, hml, hown, hts⟩ (metX1_module l dC dI _ aD aB aS aV kB kV S n b T2 T3 (row - 1) (col - 2) pos 3 hb256 hT2 h3) (cwV 4 hts (lw_V q155 q157 qs1 q17 q158) rfl rfl rfl (by decide +kernel) ⟨Nat.le_of_ble_eq_true rfl, Nat.le_of_ble_eq_true rfl⟩) ⟨pd_Pc.blind, va_recv hK hP (ci := 1) (q0 := 0) rfl rfl, pd_pre [0, 1, 2, 3] [0, 1] hP hK hD hE hS hA rfl (by decide) rfl⟩ rfl rfl hl.1 rfl (lv_room (Nat.le_of_ble_eq_true rfl)) dX1_utah_33 ⟨Nat.le_of_ble_eq_true rfl, Nat.le_of_ble_eq_true rfl⟩) (fun H locs hP hD hS => ?_)
  have hP : va_P (dC, dI) vwCl [(aD, .inr (1, [.ref aS, .int S, .int S, .ref aB])), (aB, .inl (kB, n, .inl (pcl b T3))), (aS, .inr (2, [.ref aV, .int 0, .int 0, .int 0])), (aV, .inl (kV, 72, .inl (pd_by b)))] H := hP
  have hD : va_D A [(aD, .inr (1, [.ref aS, .int S, .int S, .ref aB])), (aB, .inl (kB, n, .inl (pcl b T3))), (aS, .inr (2, [.ref aV, .int 0, .int 0, .int 0])), (aV, .inl (kV, 72, .inl (pd_by b)))] := hD
  have hT3 : T3.length = n := (pm_mod_len h3).trans hT2
  refine lv_aload_n hx hb dX1_utah_36 rfl (lv_at hl 0 rfl) ?_
  refine lv_iload_n hx hb dX1_utah_37 rfl (lv_at hl 1 rfl) ?_
  refine lv_iconst (v := 1) hx hb dX1_utah_38 (by decide) ?_
  refine lv_isub hx hb dX1_utah_39 ?_
  refine lv_iload_n hx hb dX1_utah_40 rfl (lv_at hl 2 rfl) ?_
  refine lv_iconst (v := 1) hx hb dX1_utah_41 (by decide) ?_
  refine lv_isub hx hb dX1_utah_42 ?_
  refine lv_iload_n hx hb dX1_utah_43 rfl (lv_at hl 3 rfl) ?_
  refine lv_iconst (v := 4) hx hb dX1_utah_44 (by decide) ?_
  refine pd_goV (ws := [(aD, .inr (1, [.ref aS, .int S, .int S, .ref aB])), (aB, .inl (kB, n, .inl (pcl b T3))), (aS, .inr (2, [.ref aV, .int 0, .int 0, .int 0])), (aV, .inl (kV, 72, .inl (pd_by b)))]) (wc := [(aD, .inr (1, [.ref aS, .int S, .int S, .ref aB])), (aB, .inl (kB, n, .inl (pcl b T3))), (aS, .inr (2, [.ref aV, .int 0, .int 0, .int 0])), (aV, .inl (kV, 72, .inl (pd_by b)))]) (wr := []) (w1 := [(aD, .inr (1, [.ref aS, .int S, .int S, .ref aB])), (aB, .inl (kB, n, .inl (pcl b T4))), (aS, .inr (2, [.ref aV, .int 0, .int 0, .int 0])), (aV, .inl (kV, 72, .inl (pd_by b)))]) [0, 1, 2, 3] [] hP hD hS hA rfl rfl (by decide) (by decide) (va_runV (As := [.int (row - 1), .int (col - 1), .int pos, .int 4]) (rest := []) ⟨hx, hb, hml, hown, hts⟩ (metX1_module l dC dI _ aD aB aS aV kB kV S n b T3 T4 (row - 1) (col - 1) pos 4 hb256 hT3 h4) (cwV 4 hts (lw_V q155 q157 qs1 q17 q158) rfl rfl rfl (by decide +kernel) ⟨Nat.le_of_ble_eq_true rfl, Nat.le_of_ble_eq_true rfl⟩) ⟨pd_Pc.blind, va_recv hK hP (ci := 1) (q0 := 0) rfl rfl, pd_pre [0, 1, 2, 3] [0, 1] hP hK hD hE hS hA rfl (by decide) rfl⟩ rfl rfl hl.1 rfl (lv_room (Nat.le_of_ble_eq_true rfl)) dX1_utah_45 ⟨Nat.le_of_ble_eq_true rfl, Nat.le_of_ble_eq_true rfl⟩) (fun H locs hP hD hS => ?_)
  have hP : va_P (dC, dI) vwCl [(aD, .inr (1, [.ref aS, .int S, .int S, .ref aB])), (aB, .inl (kB, n, .inl (pcl b T4))), (aS, .inr (2, [.ref aV, .int 0, .int 0, .int 0])), (aV, .inl (kV, 72, .inl (pd_by b)))] H := hP
  have hD : va_D A [(aD, .inr (1, [.ref aS, .int S, .int S, .ref aB])), (aB, .inl (kB, n, .inl (pcl b T4))), (aS, .inr (2, [.ref aV, .int 0, .int 0, .int 0])), (aV, .inl (kV, 72, .inl (pd_by b)))] := hD
  have hT4 : T4.length = n := (pm_mod_len h4).trans hT3
  refine lv_aload_n hx hb dX1_utah_48 rfl (lv_at hl 0 rfl) ?_
  refine lv_iload_n hx hb dX1_utah_49 rfl (lv_at hl 1 rfl) ?_
  refine lv_iconst (v := 1) hx hb dX1_utah_50 (by decide) ?_
  refine lv_isub hx hb dX1_utah_51 ?_
  refine lv_iload_n hx hb dX1_utah_52 rfl (lv_at hl 2 rfl) ?_
  refine lv_iload_n hx hb dX1_utah_53 rfl (lv_at hl 3 rfl) ?_
  refine lv_iconst (v := 5) hx hb dX1_utah_54 (by decide) ?_
  refine pd_goV (ws := [(aD, .inr (1, [.ref aS, .int S, .int S, .ref aB])), (aB, .inl (kB, n, .inl (pcl b T4))), (aS, .inr (2, [.ref aV, .int 0, .int 0, .int 0])), (aV, .inl (kV, 72, .inl (pd_by b)))]) (wc := [(aD, .inr (1, [.ref aS, .int S, .int S, .ref aB])), (aB, .inl (kB, n, .inl (pcl b T4))), (aS, .inr (2, [.ref aV, .int 0, .int 0, .int 0])), (aV, .inl (kV, 72, .inl (pd_by b)))]) (wr := []) (w1 := [(aD, .inr (1, [.ref aS, .int S, .int S, .ref aB])), (aB, .inl (kB, n, .inl (pcl b T5))), (aS, .inr (2, [.ref aV, .int 0, .int 0, .int 0])), (aV, .inl (kV, 72, .inl (pd_by b)))]) [0, 1, 2, 3] [] hP hD hS hA rfl rfl (by decide) (by decide) (va_runV (As := [.int (row - 1), .int col, .int pos, .int 5]) (rest := []) ⟨hx, hb, hml, hown, hts⟩ (metX1_module l dC dI _ aD aB aS aV kB kV S n b T4 T5 (row - 1) col pos 5 hb256 hT4 h5) (cwV 4 hts (lw_V q155 q157 qs1 q17 q158) rfl rfl rfl (by decide +kernel) ⟨Nat.le_of_ble_eq_true rfl, Nat.le_of_ble_eq_true rfl⟩) ⟨pd_Pc.blind, va_recv hK hP (ci := 1) (q0 := 0) rfl rfl, pd_pre [0, 1, 2, 3] [0, 1] hP hK hD hE hS hA rfl (by decide) rfl⟩ rfl rfl hl.1 rfl (lv_room (Nat.le_of_ble_eq_true rfl)) dX1_utah_55 ⟨Nat.le_of_ble_eq_true rfl, Nat.le_of_ble_eq_true rfl⟩) (fun H locs hP hD hS => ?_)
  have hP : va_P (dC, dI) vwCl [(aD, .inr (1, [.ref aS, .int S, .int S, .ref aB])), (aB, .inl (kB, n, .inl (pcl b T5))), (aS, .inr (2, [.ref aV, .int 0, .int 0, .int 0])), (aV, .inl (kV, 72, .inl (pd_by b)))] H := hP
  have hD : va_D A [(aD, .inr (1, [.ref aS, .int S, .int S, .ref aB])), (aB, .inl (kB, n, .inl (pcl b T5))), (aS, .inr (2, [.ref aV, .int 0, .int 0, .int 0])), (aV, .inl (kV, 72, .inl (pd_by b)))] := hD
  have hT5 : T5.length = n := (pm_mod_len h5).trans hT4
  refine lv_aload_n hx hb dX1_utah_58 rfl (lv_at hl 0 rfl) ?_
  refine lv_iload_n hx hb dX1_utah_59 rfl (lv_at hl 1 rfl) ?_
  refine lv_iload_n hx hb dX1_utah_60 rfl (lv_at hl 2 rfl) ?_
  refine lv_iconst (v := 2) hx hb dX1_utah_61 (by decide) ?_
  refine lv_isub hx hb dX1_utah_62 ?_
  refine lv_iload_n hx hb dX1_utah_63 rfl (lv_at hl 3 rfl) ?_
  refine lv_bipush (v := 6) hx hb dX1_utah_64 (by decide) ?_
  refine pd_goV (ws := [(aD, .inr (1, [.ref aS, .int S, .int S, .ref aB])), (aB, .inl (kB, n, .inl (pcl b T5))), (aS, .inr (2, [.ref aV, .int 0, .int 0, .int 0])), (aV, .inl (kV, 72, .inl (pd_by b)))]) (wc := [(aD, .inr (1, [.ref aS, .int S, .int S, .ref aB])), (aB, .inl (kB, n, .inl (pcl b T5))), (aS, .inr (2, [.ref aV, .int 0, .int 0, .int 0])), (aV, .inl (kV, 72, .inl (pd_by b)))]) (wr := []) (w1 := [(aD, .inr (1, [.ref aS, .int S, .int S, .ref aB])), (aB, .inl (kB, n, .inl (pcl b T6))), (aS, .inr (2, [.ref aV, .int 0, .int 0, .int 0])), (aV, .inl (kV, 72, .inl (pd_by b)))]) [0, 1, 2, 3] [] hP hD hS hA rfl rfl (by decide) (by decide) (va_runV (As := [.int row, .int (col - 2), .int pos, .int 6]) (rest := []) ⟨hx, hb, hml, hown, hts⟩ (metX1_module l dC dI _ aD aB aS aV kB kV S n b T5 T6 row (col - 2) pos 6 hb256 hT5 h6) (cwV 4 hts (lw_V q155 q157 qs1 q17 q158) rfl rfl rfl (by decide +kernel) ⟨Nat.le_of_ble_eq_true rfl, Nat.le_of_ble_eq_true rfl⟩) ⟨pd_Pc.blind, va_recv hK hP (ci := 1) (q0 := 0) rfl rfl, pd_pre [0, 1, 2, 3] [0, 1] hP hK hD hE hS hA rfl (by decide) rfl⟩ rfl rfl hl.1 rfl (lv_room (Nat.le_of_ble_eq_true rfl)) dX1_utah_66 ⟨Nat.le_of_ble_eq_true rfl, Nat.le_of_ble_eq_true rfl⟩) (fun H locs hP hD hS => ?_)
  have hP : va_P (dC, dI) vwCl [(aD, .inr (1, [.ref aS, .int S, .int S, .ref aB])), (aB, .inl (kB, n, .inl (pcl b T6))), (aS, .inr (2, [.ref aV, .int 0, .int 0, .int 0])), (aV, .inl (kV, 72, .inl (pd_by b)))] H := hP
  have hD : va_D A [(aD, .inr (1, [.ref aS, .int S, .int S, .ref aB])), (aB, .inl (kB, n, .inl (pcl b T6))), (aS, .inr (2, [.ref aV, .int 0, .int 0, .int 0])), (aV, .inl (kV, 72, .inl (pd_by b)))] := hD
  have hT6 : T6.length = n := (pm_mod_len h6).trans hT5
  refine lv_aload_n hx hb dX1_utah_69 rfl (lv_at hl 0 rfl) ?_
  refine lv_iload_n hx hb dX1_utah_70 rfl (lv_at hl 1 rfl) ?_
  refine lv_iload_n hx hb dX1_utah_71 rfl (lv_at hl 2 rfl) ?_
  refine lv_iconst (v := 1) hx hb dX1_utah_72 (by decide) ?_
  refine lv_isub hx hb dX1_utah_73 ?_
  refine lv_iload_n hx hb dX1_utah_74 rfl (lv_at hl 3 rfl) ?_
  refine lv_bipush (v := 7) hx hb dX1_utah_75 (by decide) ?_
  refine pd_goV (ws := [(aD, .inr (1, [.ref aS, .int S, .int S, .ref aB])), (aB, .inl (kB, n, .inl (pcl b T6))), (aS, .inr (2, [.ref aV, .int 0, .int 0, .int 0])), (aV, .inl (kV, 72, .inl (pd_by b)))]) (wc := [(aD, .inr (1, [.ref aS, .int S, .int S, .ref aB])), (aB, .inl (kB, n, .inl (pcl b T6))), (aS, .inr (2, [.ref aV, .int 0, .int 0, .int 0])), (aV, .inl (kV, 72, .inl (pd_by b)))]) (wr := []) (w1 := [(aD, .inr (1, [.ref aS, .int S, .int S, .ref aB])), (aB, .inl (kB, n, .inl (pcl b T7))), (aS, .inr (2, [.ref aV, .int 0, .int 0, .int 0])), (aV, .inl (kV, 72, .inl (pd_by b)))]) [0, 1, 2, 3] [] hP hD hS hA rfl rfl (by decide) (by decide) (va_runV (As := [.int row, .int (col - 1), .int pos, .int 7]) (rest := []) ⟨hx, hb, hml, hown, hts⟩ (metX1_module l dC dI _ aD aB aS aV kB kV S n b T6 T7 row (col - 1) pos 7 hb256 hT6 h7) (cwV 4 hts (lw_V q155 q157 qs1 q17 q158) rfl rfl rfl (by decide +kernel) ⟨Nat.le_of_ble_eq_true rfl, Nat.le_of_ble_eq_true rfl⟩) ⟨pd_Pc.blind, va_recv hK hP (ci := 1) (q0 := 0) rfl rfl, pd_pre [0, 1, 2, 3] [0, 1] hP hK hD hE hS hA rfl (by decide) rfl⟩ rfl rfl hl.1 rfl (lv_room (Nat.le_of_ble_eq_true rfl)) dX1_utah_77 ⟨Nat.le_of_ble_eq_true rfl, Nat.le_of_ble_eq_true rfl⟩) (fun H locs hP hD hS => ?_)
  have hP : va_P (dC, dI) vwCl [(aD, .inr (1, [.ref aS, .int S, .int S, .ref aB])), (aB, .inl (kB, n, .inl (pcl b T7))), (aS, .inr (2, [.ref aV, .int 0, .int 0, .int 0])), (aV, .inl (kV, 72, .inl (pd_by b)))] H := hP
  have hD : va_D A [(aD, .inr (1, [.ref aS, .int S, .int S, .ref aB])), (aB, .inl (kB, n, .inl (pcl b T7))), (aS, .inr (2, [.ref aV, .int 0, .int 0, .int 0])), (aV, .inl (kV, 72, .inl (pd_by b)))] := hD
  have hT7 : T7.length = n := (pm_mod_len h7).trans hT6
  refine lv_aload_n hx hb dX1_utah_80 rfl (lv_at hl 0 rfl) ?_
  refine lv_iload_n hx hb dX1_utah_81 rfl (lv_at hl 1 rfl) ?_
  refine lv_iload_n hx hb dX1_utah_82 rfl (lv_at hl 2 rfl) ?_
  refine lv_iload_n hx hb dX1_utah_83 rfl (lv_at hl 3 rfl) ?_
  refine lv_bipush (v := 8) hx hb dX1_utah_84 (by decide) ?_
  refine pd_goV (ws := [(aD, .inr (1, [.ref aS, .int S, .int S, .ref aB])), (aB, .inl (kB, n, .inl (pcl b T7))), (aS, .inr (2, [.ref aV, .int 0, .int 0, .int 0])), (aV, .inl (kV, 72, .inl (pd_by b)))]) (wc := [(aD, .inr (1, [.ref aS, .int S, .int S, .ref aB])), (aB, .inl (kB, n, .inl (pcl b T7))), (aS, .inr (2, [.ref aV, .int 0, .int 0, .int 0])), (aV, .inl (kV, 72, .inl (pd_by b)))]) (wr := []) (w1 := [(aD, .inr (1, [.ref aS, .int S, .int S, .ref aB])), (aB, .inl (kB, n, .inl (pcl b T8))), (aS, .inr (2, [.ref aV, .int 0, .int 0, .int 0])), (aV, .inl (kV, 72, .inl (pd_by b)))]) [0, 1, 2, 3] [] hP hD hS hA rfl rfl (by decide) (by decide) (va_runV (As := [.int row, .int col, .int pos, .int 8]) (rest := []) ⟨hx, hb, hml, hown, hts⟩ (metX1_module l dC dI _ aD aB aS aV kB kV S n b T7 T8 row col pos 8 hb256 hT7 h8) (cwV 4 hts (lw_V q155 q157 qs1 q17 q158) rfl rfl rfl (by decide +kernel) ⟨Nat.le_of_ble_eq_true rfl, Nat.le_of_ble_eq_true rfl⟩) ⟨pd_Pc.blind, va_recv hK hP (ci := 1) (q0 := 0) rfl rfl, pd_pre [0, 1, 2, 3] [0, 1] hP hK hD hE hS hA rfl (by decide) rfl⟩ rfl rfl hl.1 rfl (lv_room (Nat.le_of_ble_eq_true rfl)) dX1_utah_86 ⟨Nat.le_of_ble_eq_true rfl, Nat.le_of_ble_eq_true rfl⟩) (fun H locs hP hD hS => ?_)
  have hP : va_P (dC, dI) vwCl [(aD, .inr (1, [.ref aS, .int S, .int S, .ref aB])), (aB, .inl (kB, n, .inl (pcl b T8))), (aS, .inr (2, [.ref aV, .int 0, .int 0, .int 0])), (aV, .inl (kV, 72, .inl (pd_by b)))] H := hP
  have hD : va_D A [(aD, .inr (1, [.ref aS, .int S, .int S, .ref aB])), (aB, .inl (kB, n, .inl (pcl b T8))), (aS, .inr (2, [.ref aV, .int 0, .int 0, .int 0])), (aV, .inl (kV, 72, .inl (pd_by b)))] := hD
  exact W.vret hx hb hr (fun t ht hW => ⟨⟨(), rfl, trivial, by rw [ht]; exact hP, hD⟩, hS.F ht⟩) hS.2.2 dX1_utah_89
set_option maxHeartbeats 4000000 in
set_option maxRecDepth 100000 in
/-- the eight bits of one codeword -/
theorem metX1_corner1 (l : Launch) (dC : Nat → ClassId) (dI : Nat → Nat → Nat) (sz : Nat) (aD aB aS aV : Nat) (kB kV : ClassId) (S : Int32) (n : Nat) (b : Nat → Nat) (T T8 : List pC) (pos : Int32) (hb256 : ∀ j, b j < 256) (hT : T.length = n) (h : pm_c1 S pos T = some T8) : Met l yX1_corner1 (ws_ yX1_corner1 cX1_corner1 2 none) ({ frames := 5, cells := 0, slots := 0, locals := 110 }) (pd_Pc [.ref aD, .int pos] (dC, dI) [(aD, .inr (1, [.ref aS, .int S, .int S, .ref aB])), (aB, .inl (kB, n, .inl (pcl b T))), (aS, .inr (2, [.ref aV, .int 0, .int 0, .int 0])), (aV, .inl (kV, 72, .inl (pd_by b)))] [(kB, .byte), (kV, .byte)] sz) (pd_Qv (dC, dI) [(aD, .inr (1, [.ref aS, .int S, .int S, .ref aB])), (aB, .inl (kB, n, .inl (pcl b T8))), (aS, .inr (2, [.ref aV, .int 0, .int 0, .int 0])), (aV, .inl (kV, 72, .inl (pd_by b)))] (va_A [(aD, .inr (1, [.ref aS, .int S, .int S, .ref aB])), (aB, .inl (kB, n, .inl (pcl b T))), (aS, .inr (2, [.ref aV, .int 0, .int 0, .int 0])), (aV, .inl (kV, 72, .inl (pd_by b)))] sz)) 0 0 (va_A [(aD, .inr (1, [.ref aS, .int S, .int S, .ref aB])), (aB, .inl (kB, n, .inl (pcl b T))), (aS, .inr (2, [.ref aV, .int 0, .int 0, .int 0])), (aV, .inl (kV, 72, .inl (pd_by b)))] sz) := by
  refine Met.ofW (cc := cX1_corner1) (maxL := 2) (ret := none) (by decide) rfl ?_
  intro p e s m args below meth c s₁ B hml hv
  obtain ⟨rfl, hsz, hP, hK, hD0, hE⟩ := hv
  have hx := B.exec
  have hb := B.bytes
  have hr := B.returns
  have hts := atoms_spec (ws := ws_ yX1_corner1 cX1_corner1 2 none) B.pre
  have hts : ∀ w ∈ lw_all, w.before _ s = true := fun w h => hts w (List.mem_cons_of_mem _ h)
  have hown : s.vm.findClass RX1 = some m.cls := findClass_of_methodNamed B.named
  have hlocks := B.notSynchronized
  subst hsz
  have hD := hD0.self (sz := s.heap.size)
  generalize hAe : va_A [(aD, .inr (1, [.ref aS, .int S, .int S, .ref aB])), (aB, .inl (kB, n, .inl (pcl b T))), (aS, .inr (2, [.ref aV, .int 0, .int 0, .int 0])), (aV, .inl (kV, 72, .inl (pd_by b)))] s.heap.size = A at hD hE ⊢
  have hA : ∀ q : Nat, s.heap.size ≤ q → A q := fun q h => by rw [← hAe]; exact Or.inr h
  have hS : va_S A s.heap s.heap [] := va_S.rf
  have hP : va_P (dC, dI) vwCl [(aD, .inr (1, [.ref aS, .int S, .int S, .ref aB])), (aB, .inl (kB, n, .inl (pcl b T))), (aS, .inr (2, [.ref aV, .int 0, .int 0, .int 0])), (aV, .inl (kV, 72, .inl (pd_by b)))] s.heap := hP
  have hl := lv_entry ([.ref aD, .int pos]) (n := 2) (Nat.le_of_ble_eq_true rfl)
  rw [lg_entry_eq]
  generalize (lg_sl ([.ref aD, .int pos]) ++ List.replicate (2 - (lg_sl ([.ref aD, .int pos])).length) Slot.unset).toArray = ls at hl ⊢
  have hl : lv_has ls 2 [(0, .ref aD), (1, .int pos)] := hl
  obtain ⟨T1, T2, T3, T4, T5, T6, T7, h1, h2, h3, h4, h5, h6, h7, h8⟩ := pm_8 h
  refine lv_aload_n hx hb dX1_corner1_0 rfl (lv_at hl 0 rfl) ?_
  refine lv_aload_n hx hb dX1_corner1_1 rfl (lv_at hl 0 rfl) ?_
  refine va_get (D := (dC, dI)) (ci := 1) (v := .int S) (C := RX1) (T := TX1) (N := 4) hx hb hts in_X1 hown hK hP 0 rfl rfl 1 (by decide) (hts _ q116) (fun _ h9 => h9) rfl dX1_corner1_2 ?_
  refine lv_iconst (v := 1) hx hb dX1_corner1_5 (by decide) ?_
  refine lv_isub hx hb dX1_corner1_6 ?_
  refine lv_iconst (v := 0) hx hb dX1_corner1_7 (by decide) ?_
  refine lv_iload_n hx hb dX1_corner1_8 rfl (lv_at hl 1 rfl) ?_
  refine lv_iconst (v := 1) hx hb dX1_corner1_9 (by decide) ?_
  refine pd_goV (ws := [(aD, .inr (1, [.ref aS, .int S, .int S, .ref aB])), (aB, .inl (kB, n, .inl (pcl b T))), (aS, .inr (2, [.ref aV, .int 0, .int 0, .int 0])), (aV, .inl (kV, 72, .inl (pd_by b)))]) (wc := [(aD, .inr (1, [.ref aS, .int S, .int S, .ref aB])), (aB, .inl (kB, n, .inl (pcl b T))), (aS, .inr (2, [.ref aV, .int 0, .int 0, .int 0])), (aV, .inl (kV, 72, .inl (pd_by b)))]) (wr := []) (w1 := [(aD, .inr (1, [.ref aS, .int S, .int S, .ref aB])), (aB, .inl (kB, n, .inl (pcl b T1))), (aS, .inr (2, [.ref aV, .int 0, .int 0, .int 0])), (aV, .inl (kV, 72, .inl (pd_by b)))]) [0, 1, 2, 3] [] hP hD hS hA rfl rfl (by decide) (by decide) (va_runV (As := [.int (S - 1), .int 0, .int pos, .int 1]) (rest := []) ⟨hx, hb, hml, hown, hts⟩ (metX1_module l dC dI _ aD aB aS aV kB kV S n b T T1 (S - 1) 0 pos 1 hb256 hT h1) (cwV 4 hts (lw_V q155 q157 qs1 q17 q158) rfl rfl rfl (by decide +kernel) ⟨Nat.le_of_ble_eq_true rfl, Nat.le_of_ble_eq_true rfl⟩) ⟨pd_Pc.blind, va_recv hK hP (ci := 1) (q0 := 0) rfl rfl, pd_pre [0, 1, 2, 3] [0, 1] hP hK hD hE hS hA rfl (by decide) rfl⟩ rfl rfl hl.1 rfl (lv_room (Nat.le_of_ble_eq_true rfl)) dX1_corner1_10 ⟨Nat.le_of_ble_eq_true rfl, Nat.le_of_ble_eq_true rfl⟩) (fun H locs hP hD hS => ?_)
  have hP : va_P (dC, dI) vwCl [(aD, .inr (1, [.ref aS, .int S, .int S, .ref aB])), (aB, .inl (kB, n, .inl (pcl b T1))), (aS, .inr (2, [.ref aV, .int 0, .int 0, .int 0])), (aV, .inl (kV, 72, .inl (pd_by b)))] H := hP
  have hD : va_D A [(aD, .inr (1, [.ref aS, .int S, .int S, .ref aB])), (aB, .inl (kB, n, .inl (pcl b T1))), (aS, .inr (2, [.ref aV, .int 0, .int 0, .int 0])), (aV, .inl (kV, 72, .inl (pd_by b)))] := hD
  have hT1 : T1.length = n := (pm_mod_len h1).trans hT
  refine lv_aload_n hx hb dX1_corner1_13 rfl (lv_at hl 0 rfl) ?_
  refine lv_aload_n hx hb dX1_corner1_14 rfl (lv_at hl 0 rfl) ?_
  refine va_get (D := (dC, dI)) (ci := 1) (v := .int S) (C := RX1) (T := TX1) (N := 4) hx hb hts in_X1 hown hK hP 0 rfl rfl 1 (by decide) (hts _ q116) (fun _ h9 => h9) rfl dX1_corner1_15 ?_
  refine lv_iconst (v := 1) hx hb dX1_corner1_18 (by decide) ?_
  refine lv_isub hx hb dX1_corner1_19 ?_
  refine lv_iconst (v := 1) hx hb dX1_corner1_20 (by decide) ?_
  refine lv_iload_n hx hb dX1_corner1_21 rfl (lv_at hl 1 rfl) ?_
  refine lv_iconst (v := 2) hx hb dX1_corner1_22 (by decide) ?_
  refine pd_goV (ws := [(aD, .inr (1, [.ref aS, .int S, .int S, .ref aB])), (aB, .inl (kB, n, .inl (pcl b T1))), (aS, .inr (2, [.ref aV, .int 0, .int 0, .int 0])), (aV, .inl (kV, 72, .inl (pd_by b)))]) (wc := [(aD, .inr (1, [.ref aS, .int S, .int S, .ref aB])), (aB, .inl (kB, n, .inl (pcl b T1))), (aS, .inr (2, [.ref aV, .int 0, .int 0, .int 0])), (aV, .inl (kV, 72, .inl (pd_by b)))]) (wr := []) (w1 := [(aD, .inr (1, [.ref aS, .int S, .int S, .ref aB])), (aB, .inl (kB, n, .inl (pcl b T2))), (aS, .inr (2, [.ref aV, .int 0, .int 0, .int 0])), (aV, .inl (kV, 72, .inl (pd_by b)))]) [0, 1, 2, 3] [] hP hD hS hA rfl rfl (by decide) (by decide) (va_runV (As := [.int (S - 1), .int 1, .int pos, .int 2]) (rest := []) ⟨hx, hb, hml, hown, hts⟩ (metX1_module l dC dI _ aD aB aS aV kB kV S n b T1 T2 (S - 1) 1 pos 2 hb256 hT1 h2) (cwV 4 hts (lw_V q155 q157 qs1 q17 q158) rfl rfl rfl (by decide +kernel) ⟨Nat.le_of_ble_eq_true rfl, Nat.le_of_ble_eq_true rfl⟩) ⟨pd_Pc.blind, va_recv hK hP (ci := 1) (q0 := 0) rfl rfl, pd_pre [0, 1, 2, 3] [0, 1] hP hK hD hE hS hA rfl (by decide) rfl⟩ rfl rfl hl.1 rfl (lv_room (Nat.le_of_ble_eq_true rfl)) dX1_corner1_23 ⟨Nat.le_of_ble_eq_true rfl, Nat.le_of_ble_eq_true rfl⟩) (fun H locs hP hD hS => ?_)
  have hP : va_P (dC, dI) vwCl [(aD, .inr (1, [.ref aS, .int S, .int S, .ref aB])), (aB, .inl (kB, n, .inl (pcl b T2))), (aS, .inr (2, [.ref aV, .int 0, .int 0, .int 0])), (aV, .inl (kV, 72, .inl (pd_by b)))] H := hP
  have hD : va_D A [(aD, .inr (1, [.ref aS, .int S, .int S, .ref aB])), (aB, .inl (kB, n, .inl (pcl b T2))), (aS, .inr (2, [.ref aV, .int 0, .int 0, .int 0])), (aV, .inl (kV, 72, .inl (pd_by b)))] := hD
  have hT2 : T2.length = n := (pm_mod_len h2).trans hT1
  refine lv_aload_n hx hb dX1_corner1_26 rfl (lv_at hl 0 rfl) ?_
  refine lv_aload_n hx hb dX1_corner1_27 rfl (lv_at hl 0 rfl) ?_
  refine va_get (D := (dC, dI)) (ci := 1) (v := .int S) (C := RX1) (T := TX1) (N := 4) hx hb hts in_X1 hown hK hP 0 rfl rfl 1 (by decide) (hts _ q116) (fun _ h9 => h9) rfl dX1_corner1_28 ?_
  refine lv_iconst (v := 1) hx hb dX1_corner1_31 (by decide) ?_
  refine lv_isub hx hb dX1_corner1_32 ?_
  refine lv_iconst (v := 2) hx hb dX1_corner1_33 (by decide) ?_
  refine lv_iload_n hx hb dX1_corner1_34 rfl (lv_at hl 1 rfl) ?_
  refine lv_iconst (v := 3) hx hb dX1_corner1_35 (by decide) ?_
  refine pd_goV (ws := [(aD, .inr (1, [.ref aS, .int S, .int S, .ref aB])), (aB, .inl (kB, n, .inl (pcl b T2))), (aS, .inr (2, [.ref aV, .int 0, .int 0, .int 0])), (aV, .inl (kV, 72, .inl (pd_by b)))]) (wc := [(aD, .inr (1, [.ref aS, .int S, .int S, .ref aB])), (aB, .inl (kB, n, .inl (pcl b T2))), (aS, .inr (2, [.ref aV, .int 0, .int 0, .int 0])), (aV, .inl (kV, 72, .inl (pd_by b)))]) (wr := []) (w1 := [(aD, .inr (1, [.ref aS, .int S, .int S, .ref aB])), (aB, .inl (kB, n, .inl (pcl b T3))), (aS, .inr (2, [.ref aV, .int 0, .int 0, .int 0])), (aV, .inl (kV, 72, .inl (pd_by b)))]) [0, 1, 2, 3] [] hP hD hS hA rfl rfl (by decide) (by decide) (va_runV (As := [.int (S - 1), .int 2, .int pos, .int 3]) (rest := []) ⟨hx, hb, hml, hown, hts⟩ (metX1_module l dC dI _ aD aB aS aV kB kV S n b T2 T3 (S - 1) 2 pos 3 hb256 hT2 h3) (cwV 4 hts (lw_V q155 q157 qs1 q17 q158) rfl rfl rfl (by decide +kernel) ⟨Nat.le_of_ble_eq_true rfl, Nat.le_of_ble_eq_true rfl⟩) ⟨pd_Pc.blind, va_recv hK hP (ci := 1) (q0 := 0) rfl rfl, pd_pre [0, 1, 2, 3] [0, 1] hP hK hD hE hS hA rfl (by decide) rfl⟩ rfl rfl hl.1 rfl (lv_room (Nat.le_of_ble_eq_true rfl)) dX1_corner1_36 ⟨Nat.le_of_ble_eq_true rfl, Nat.le_of_ble_eq_true rfl⟩) (fun H locs hP hD hS => ?_)
  have hP : va_P (dC, dI) vwCl [(aD, .inr (1, [.ref aS, .int S, .int S, .ref aB])), (aB, .inl (kB, n, .inl (pcl b T3))), (aS, .inr (2, [.ref aV, .int 0, .int 0, .int 0])), (aV, .inl (kV, 72, .inl (pd_by b)))] H := hP
  have hD : va_D A [(aD, .inr (1, [.ref aS, .int S, .int S, .ref aB])), (aB, .inl (kB, n, .inl (pcl b T3))), (aS, .inr (2, [.ref aV, .int 0, .int 0, .int 0])), (aV, .inl (kV, 72, .inl (pd_by b)))] := hD
  have hT3 : T3.length = n := (pm_mod_len h3).trans hT2
  refine lv_aload_n hx hb dX1_corner1_39 rfl (lv_at hl 0 rfl) ?_
  refine lv_iconst (v := 0) hx hb dX1_corner1_40 (by decide) ?_
  refine lv_aload_n hx hb dX1_corner1_41 rfl (lv_at hl 0 rfl) ?_
  refine va_get (D := (dC, dI)) (ci := 1) (v := .int S) (C := RX1) (T := TX1) (N := 4) hx hb hts in_X1 hown hK hP 0 rfl rfl 2 (by decide) (hts _ q117) (fun _ h9 => h9) rfl dX1_corner1_42 ?_
  refine lv_iconst (v := 2) hx hb dX1_corner1_45 (by decide) ?_
  refine lv_isub hx hb dX1_corner1_46 ?_
  refine lv_iload_n hx hb dX1_corner1_47 rfl (lv_at hl 1 rfl) ?_
  refine lv_iconst (v := 4) hx hb dX1_corner1_48 (by decide) ?_
  refine pd_goV (ws := [(aD, .inr (1, [.ref aS, .int S, .int S, .ref aB])), (aB, .inl (kB, n, .inl (pcl b T3))), (aS, .inr (2, [.ref aV, .int 0, .int 0, .int 0])), (aV, .inl (kV, 72, .inl (pd_by b)))]) (wc := [(aD, .inr (1, [.ref aS, .int S, .int S, .ref aB])), (aB, .inl (kB, n, .inl (pcl b T3))), (aS, .inr (2, [.ref aV, .int 0, .int 0, .int 0])), (aV, .inl (kV, 72, .inl (pd_by b)))]) (wr := []) (w1 := [(aD, .inr (1, [.ref aS, .int S, .int S, .ref aB])), (aB, .inl (kB, n, .inl (pcl b T4))), (aS, .inr (2, [.ref aV, .int 0, .int 0, .int 0])), (aV, .inl (kV, 72, .inl (pd_by b)))]) [0, 1, 2, 3] [] hP hD hS hA rfl rfl (by decide) (by decide) (va_runV (As := [.int 0, .int (S - 2), .int pos, .int 4]) (rest := []) ⟨hx, hb, hml, hown, hts⟩ (metX1_module l dC dI _ aD aB aS aV kB kV S n b T3 T4 0 (S - 2) pos 4 hb256 hT3 h4) (cwV 4 hts (lw_V q155 q157 qs1 q17 q158) rfl rfl rfl (by decide +kernel) ⟨Nat.le_of_ble_eq_true rfl, Nat.le_of_ble_eq_true rfl⟩) ⟨pd_Pc.blind, va_recv hK hP (ci := 1) (q0 := 0) rfl rfl, pd_pre [0, 1, 2, 3] [0, 1] hP hK hD hE hS hA rfl (by decide) rfl⟩ rfl rfl hl.1 rfl (lv_room (Nat.le_of_ble_eq_true rfl)) dX1_corner1_49 ⟨Nat.le_of_ble_eq_true rfl, Nat.le_of_ble_eq_true rfl⟩) (fun H locs hP hD hS => ?_)
  have hP : va_P (dC, dI) vwCl [(aD, .inr (1, [.ref aS, .int S, .int S, .ref aB])), (aB, .inl (kB, n, .inl (pcl b T4))), (aS, .inr (2, [.ref aV, .int 0, .int 0, .int 0])), (aV, .inl (kV, 72, .inl (pd_by b)))] H := hP
  have hD : va_D A [(aD, .inr (1, [.ref aS, .int S, .int S, .ref aB])), (aB, .inl (kB, n, .inl (pcl b T4))), (aS, .inr (2, [.ref aV, .int 0, .int 0, .int 0])), (aV, .inl (kV, 72, .inl (pd_by b)))] := hD
  have hT4 : T4.length = n := (pm_mod_len h4).trans hT3
  refine lv_aload_n hx hb dX1_corner1_52 rfl (lv_at hl 0 rfl) ?_
  refine lv_iconst (v := 0) hx hb dX1_corner1_53 (by decide) ?_
  refine lv_aload_n hx hb dX1_corner1_54 rfl (lv_at hl 0 rfl) ?_
  refine va_get (D := (dC, dI)) (ci := 1) (v := .int S) (C := RX1) (T := TX1) (N := 4) hx hb hts in_X1 hown hK hP 0 rfl rfl 2 (by decide) (hts _ q117) (fun _ h9 => h9) rfl dX1_corner1_55 ?_
  refine lv_iconst (v := 1) hx hb dX1_corner1_58 (by decide) ?_
  refine lv_isub hx hb dX1_corner1_59 ?_
  refine lv_iload_n hx hb dX1_corner1_60 rfl (lv_at hl 1 rfl) ?_
  refine lv_iconst (v := 5) hx hb dX1_corner1_61 (by decide) ?_
  refine pd_goV (ws := [(aD, .inr (1, [.ref aS, .int S, .int S, .ref aB])), (aB, .inl (kB, n, .inl (pcl b T4))), (aS, .inr (2, [.ref aV, .int 0, .int 0, .int 0])), (aV, .inl (kV, 72, .inl (pd_by b)))]) (wc := [(aD, .inr (1, [.ref aS, .int S, .int S, .ref aB])), (aB, .inl (kB, n, .inl (pcl b T4))), (aS, .inr (2, [.ref aV, .int 0, .int 0, .int 0])), (aV, .inl (kV, 72, .inl (pd_by b)))]) (wr := []) (w1 := [(aD, .inr (1, [.ref aS, .int S, .int S, .ref aB])), (aB, .inl (kB, n, .inl (pcl b T5))), (aS, .inr (2, [.ref aV, .int 0, .int 0, .int 0])), (aV, .inl (kV, 72, .inl (pd_by b)))]) [0, 1, 2, 3] [] hP hD hS hA rfl rfl (by decide) (by decide) (va_runV (As := [.int 0, .int (S - 1), .int pos, .int 5]) (rest := []) ⟨hx, hb, hml, hown, hts⟩ (metX1_module l dC dI _ aD aB aS aV kB kV S n b T4 T5 0 (S - 1) pos 5 hb256 hT4 h5) (cwV 4 hts (lw_V q155 q157 qs1 q17 q158) rfl rfl rfl (by decide +kernel) ⟨Nat.le_of_ble_eq_true rfl, Nat.le_of_ble_eq_true rfl⟩) ⟨pd_Pc.blind, va_recv hK hP (ci := 1) (q0 := 0) rfl rfl, pd_pre [0, 1, 2, 3] [0, 1] hP hK hD hE hS hA rfl (by decide) rfl⟩ rfl rfl hl.1 rfl (lv_room (Nat.le_of_ble_eq_true rfl)) dX1_corner1_62 ⟨Nat.le_of_ble_eq_true rfl, Nat.le_of_ble_eq_true rfl⟩) (fun H locs hP hD hS => ?_)
  have hP : va_P (dC, dI) vwCl [(aD, .inr (1, [.ref aS, .int S, .int S, .ref aB])), (aB, .inl (kB, n, .inl (pcl b T5))), (aS, .inr (2, [.ref aV, .int 0, .int 0, .int 0])), (aV, .inl (kV, 72, .inl (pd_by b)))] H := hP
  have hD : va_D A [(aD, .inr (1, [.ref aS, .int S, .int S, .ref aB])), (aB, .inl (kB, n, .inl (pcl b T5))), (aS, .inr (2, [.ref aV, .int 0, .int 0, .int 0])), (aV, .inl (kV, 72, .inl (pd_by b)))] := hD
  have hT5 : T5.length = n := (pm_mod_len h5).trans hT4
  refine lv_aload_n hx hb dX1_corner1_65 rfl (lv_at hl 0 rfl) ?_
  refine lv_iconst (v := 1) hx hb dX1_corner1_66 (by decide) ?_
  refine lv_aload_n hx hb dX1_corner1_67 rfl (lv_at hl 0 rfl) ?_
  refine va_get (D := (dC, dI)) (ci := 1) (v := .int S) (C := RX1) (T := TX1) (N := 4) hx hb hts in_X1 hown hK hP 0 rfl rfl 2 (by decide) (hts _ q117) (fun _ h9 => h9) rfl dX1_corner1_68 ?_
  refine lv_iconst (v := 1) hx hb dX1_corner1_71 (by decide) ?_
  refine lv_isub hx hb dX1_corner1_72 ?_
  refine lv_iload_n hx hb dX1_corner1_73 rfl (lv_at hl 1 rfl) ?_
  refine lv_bipush (v := 6) hx hb dX1_corner1_74 (by decide) ?_
  refine pd_goV (ws := [(aD, .inr (1, [.ref aS, .int S, .int S, .ref aB])), (aB, .inl (kB, n, .inl (pcl b T5))), (aS, .inr (2, [.ref aV, .int 0, .int 0, .int 0])), (aV, .inl (kV, 72, .inl (pd_by b)))]) (wc := [(aD, .inr (1, [.ref aS, .int S, .int S, .ref aB])), (aB, .inl (kB, n, .inl (pcl b T5))), (aS, .inr (2, [.ref aV, .int 0, .int 0, .int 0])), (aV, .inl (kV, 72, .inl (pd_by b)))]) (wr := []) (w1 := [(aD, .inr (1, [.ref aS, .int S, .int S, .ref aB])), (aB, .inl (kB, n, .inl (pcl b T6))), (aS, .inr (2, [.ref aV, .int 0, .int 0, .int 0])), (aV, .inl (kV, 72, .inl (pd_by b)))]) [0, 1, 2, 3] [] hP hD hS hA rfl rfl (by decide) (by decide) (va_runV (As := [.int 1, .int (S - 1), .int pos, .int 6]) (rest := []) ⟨hx, hb, hml, hown, hts⟩ (metX1_module l dC dI _ aD aB aS aV kB kV S n b T5 T6 1 (S - 1) pos 6 hb256 hT5 h6) (cwV 4 hts (lw_V q155 q157 qs1 q17 q158) rfl rfl rfl (by decide +kernel) ⟨Nat.le_of_ble_eq_true rfl, Nat.le_of_ble_eq_true rfl⟩) ⟨pd_Pc.blind, va_recv hK hP (ci := 1) (q0 := 0) rfl rfl, pd_pre [0, 1, 2, 3] [0, 1] hP hK hD hE hS hA rfl (by decide) rfl⟩ rfl rfl hl.1 rfl (lv_room (Nat.le_of_ble_eq_true rfl)) dX1_corner1_76 ⟨Nat.le_of_ble_eq_true rfl, Nat.le_of_ble_eq_true rfl⟩) (fun H locs hP hD hS => ?_)
  have hP : va_P (dC, dI) vwCl [(aD, .inr (1, [.ref aS, .int S, .int S, .ref aB])), (aB, .inl (kB, n, .inl (pcl b T6))), (aS, .inr (2, [.ref aV, .int 0, .int 0, .int 0])), (aV, .inl (kV, 72, .inl (pd_by b)))] H := hP
  have hD : va_D A [(aD, .inr (1, [.ref aS, .int S, .int S, .ref aB])), (aB, .inl (kB, n, .inl (pcl b T6))), (aS, .inr (2, [.ref aV, .int 0, .int 0, .int 0])), (aV, .inl (kV, 72, .inl (pd_by b)))] := hD
  have hT6 : T6.length = n := (pm_mod_len h6).trans hT5
  refine lv_aload_n hx hb dX1_corner1_79 rfl (lv_at hl 0 rfl) ?_
  refine lv_iconst (v := 2) hx hb dX1_corner1_80 (by decide) ?_
  refine lv_aload_n hx hb dX1_corner1_81 rfl (lv_at hl 0 rfl) ?_
  refine va_get (D := (dC, dI)) (ci := 1) (v := .int S) (C := RX1) (T := TX1) (N := 4) hx hb hts in_X1 hown hK hP 0 rfl rfl 2 (by decide) (hts _ q117) (fun _ h9 => h9) rfl dX1_corner1_82 ?_
  refine lv_iconst (v := 1) hx hb dX1_corner1_85 (by decide) ?_
  refine lv_isub hx hb dX1_corner1_86 ?_
  refine lv_iload_n hx hb dX1_corner1_87 rfl (lv_at hl 1 rfl) ?_
  refine lv_bipush (v := 7) hx hb dX1_corner1_88 (by decide) ?_
  refine pd_goV (ws := [(aD, .inr (1, [.ref aS, .int S, .int S, .ref aB])), (aB, .inl (kB, n, .inl (pcl b T6))), (aS, .inr (2, [.ref aV, .int 0, .int 0, .int 0])), (aV, .inl (kV, 72, .inl (pd_by b)))]) (wc := [(aD, .inr (1, [.ref aS, .int S, .int S, .ref aB])), (aB, .inl (kB, n, .inl (pcl b T6))), (aS, .inr (2, [.ref aV, .int 0, .int 0, .int 0])), (aV, .inl (kV, 72, .inl (pd_by b)))]) (wr := []) (w1 := [(aD, .inr (1, [.ref aS, .int S, .int S, .ref aB])), (aB, .inl (kB, n, .inl (pcl b T7))), (aS, .inr (2, [.ref aV, .int 0, .int 0, .int 0])), (aV, .inl (kV, 72, .inl (pd_by b)))]) [0, 1, 2, 3] [] hP hD hS hA rfl rfl (by decide) (by decide) (va_runV (As := [.int 2, .int (S - 1), .int pos, .int 7]) (rest := []) ⟨hx, hb, hml, hown, hts⟩ (metX1_module l dC dI _ aD aB aS aV kB kV S n b T6 T7 2 (S - 1) pos 7 hb256 hT6 h7) (cwV 4 hts (lw_V q155 q157 qs1 q17 q158) rfl rfl rfl (by decide +kernel) ⟨Nat.le_of_ble_eq_true rfl, Nat.le_of_ble_eq_true rfl⟩) ⟨pd_Pc.blind, va_recv hK hP (ci := 1) (q0 := 0) rfl rfl, pd_pre [0, 1, 2, 3] [0, 1] hP hK hD hE hS hA rfl (by decide) rfl⟩ rfl rfl hl.1 rfl (lv_room (Nat.le_of_ble_eq_true rfl)) dX1_corner1_90 ⟨Nat.le_of_ble_eq_true rfl, Nat.le_of_ble_eq_true rfl⟩) (fun H locs hP hD hS => ?_)
  have hP : va_P (dC, dI) vwCl [(aD, .inr (1, [.ref aS, .int S, .int S, .ref aB])), (aB, .inl (kB, n, .inl (pcl b T7))), (aS, .inr (2, [.ref aV, .int 0, .int 0, .int 0])), (aV, .inl (kV, 72, .inl (pd_by b)))] H := hP
  have hD : va_D A [(aD, .inr (1, [.ref aS, .int S, .int S, .ref aB])), (aB, .inl (kB, n, .inl (pcl b T7))), (aS, .inr (2, [.ref aV, .int 0, .int 0, .int 0])), (aV, .inl (kV, 72, .inl (pd_by b)))] := hD
  have hT7 : T7.length = n := (pm_mod_len h7).trans hT6
  refine lv_aload_n hx hb dX1_corner1_93 rfl (lv_at hl 0 rfl) ?_
  refine lv_iconst (v := 3) hx hb dX1_corner1_94 (by decide) ?_
  refine lv_aload_n hx hb dX1_corner1_95 rfl (lv_at hl 0 rfl) ?_
  refine va_get (D := (dC, dI)) (ci := 1) (v := .int S) (C := RX1) (T := TX1) (N := 4) hx hb hts in_X1 hown hK hP 0 rfl rfl 2 (by decide) (hts _ q117) (fun _ h9 => h9) rfl dX1_corner1_96 ?_
  refine lv_iconst (v := 1) hx hb dX1_corner1_99 (by decide) ?_
  refine lv_isub hx hb dX1_corner1_100 ?_
  refine lv_iload_n hx hb dX1_corner1_101 rfl (lv_at hl 1 rfl) ?_
  refine lv_bipush (v := 8) hx hb dX1_corner1_102 (by decide) ?_
  refine pd_goV (ws := [(aD, .inr (1, [.ref aS, .int S, .int S, .ref aB])), (aB, .inl (kB, n, .inl (pcl b T7))), (aS, .inr (2, [.ref aV, .int 0, .int 0, .int 0])), (aV, .inl (kV, 72, .inl (pd_by b)))]) (wc := [(aD, .inr (1, [.ref aS, .int S, .int S, .ref aB])), (aB, .inl (kB, n, .inl (pcl b T7))), (aS, .inr (2, [.ref aV, .int 0, .int 0, .int 0])), (aV, .inl (kV, 72, .inl (pd_by b)))]) (wr := []) (w1 := [(aD, .inr (1, [.ref aS, .int S, .int S, .ref aB])), (aB, .inl (kB, n, .inl (pcl b T8))), (aS, .inr (2, [.ref aV, .int 0, .int 0, .int 0])), (aV, .inl (kV, 72, .inl (pd_by b)))]) [0, 1, 2, 3] [] hP hD hS hA rfl rfl (by decide) (by decide) (va_runV (As := [.int 3, .int (S - 1), .int pos, .int 8]) (rest := []) ⟨hx, hb, hml, hown, hts⟩ (metX1_module l dC dI _ aD aB aS aV kB kV S n b T7 T8 3 (S - 1) pos 8 hb256 hT7 h8) (cwV 4 hts (lw_V q155 q157 qs1 q17 q158) rfl rfl rfl (by decide +kernel) ⟨Nat.le_of_ble_eq_true rfl, Nat.le_of_ble_eq_true rfl⟩) ⟨pd_Pc.blind, va_recv hK hP (ci := 1) (q0 := 0) rfl rfl, pd_pre [0, 1, 2, 3] [0, 1] hP hK hD hE hS hA rfl (by decide) rfl⟩ rfl rfl hl.1 rfl (lv_room (Nat.le_of_ble_eq_true rfl)) dX1_corner1_104 ⟨Nat.le_of_ble_eq_true rfl, Nat.le_of_ble_eq_true rfl⟩) (fun H locs hP hD hS => ?_)
  have hP : va_P (dC, dI) vwCl [(aD, .inr (1, [.ref aS, .int S, .int S, .ref aB])), (aB, .inl (kB, n, .inl (pcl b T8))), (aS, .inr (2, [.ref aV, .int 0, .int 0, .int 0])), (aV, .inl (kV, 72, .inl (pd_by b)))] H := hP
  have hD : va_D A [(aD, .inr (1, [.ref aS, .int S, .int S, .ref aB])), (aB, .inl (kB, n, .inl (pcl b T8))), (aS, .inr (2, [.ref aV, .int 0, .int 0, .int 0])), (aV, .inl (kV, 72, .inl (pd_by b)))] := hD
  exact W.vret hx hb hr (fun t ht hW => ⟨⟨(), rfl, trivial, by rw [ht]; exact hP, hD⟩, hS.F ht⟩) hS.2.2 dX1_corner1_107
set_option maxHeartbeats 4000000 in
set_option maxRecDepth 100000 in
/-- the eight bits of one codeword -/
theorem metX1_corner2 (l : Launch) (dC : Nat → ClassId) (dI : Nat → Nat → Nat) (sz : Nat) (aD aB aS aV : Nat) (kB kV : ClassId) (S : Int32) (n : Nat) (b : Nat → Nat) (T T8 : List pC) (pos : Int32) (hb256 : ∀ j, b j < 256) (hT : T.length = n) (h : pm_c2 S pos T = some T8) : Met l yX1_corner2 (ws_ yX1_corner2 cX1_corner2 2 none) ({ frames := 5, cells := 0, slots := 0, locals := 110 }) (pd_Pc [.ref aD, .int pos] (dC, dI) [(aD, .inr (1, [.ref aS, .int S, .int S, .ref aB])), (aB, .inl (kB, n, .inl (pcl b T))), (aS, .inr (2, [.ref aV, .int 0, .int 0, .int 0])), (aV, .inl (kV, 72, .inl (pd_by b)))] [(kB, .byte), (kV, .byte)] sz) (pd_Qv (dC, dI) [(aD, .inr (1, [.ref aS, .int S, .int S, .ref aB])), (aB, .inl (kB, n, .inl (pcl b T8))), (aS, .inr (2, [.ref aV, .int 0, .int 0, .int 0])), (aV, .inl (kV, 72, .inl (pd_by b)))] (va_A [(aD, .inr (1, [.ref aS, .int S, .int S, .ref aB])), (aB, .inl (kB, n, .inl (pcl b T))), (aS, .inr (2, [.ref aV, .int 0, .int 0, .int 0])), (aV, .inl (kV, 72, .inl (pd_by b)))] sz)) 0 0 (va_A [(aD, .inr (1, [.ref aS, .int S, .int S, .ref aB])), (aB, .inl (kB, n, .inl (pcl b T))), (aS, .inr (2, [.ref aV, .int 0, .int 0, .int 0])), (aV, .inl (kV, 72, .inl (pd_by b)))] sz) := by
  refine Met.ofW (cc := cX1_corner2) (maxL := 2) (ret := none) (by decide) rfl ?_
  intro p e s m args below meth c s₁ B hml hv
  obtain ⟨rfl, hsz, hP, hK, hD0, hE⟩ := hv
  have hx := B.exec
  have hb := B.bytes
  have hr := B.returns
  have hts := atoms_spec (ws := ws_ yX1_corner2 cX1_corner2 2 none) B.pre
  have hts : ∀ w ∈ lw_all, w.before _ s = true := fun w h => hts w (List.mem_cons_of_mem _ h)
  have hown : s.vm.findClass RX1 = some m.cls := findClass_of_methodNamed B.named
  have hlocks := B.notSynchronized
  subst hsz
  have hD := hD0.self (sz := s.heap.size)
  generalize hAe : va_A [(aD, .inr (1, [.ref aS, .int S, .int S, .ref aB])), (aB, .inl (kB, n, .inl (pcl b T))), (aS, .inr (2, [.ref aV, .int 0, .int 0, .int 0])), (aV, .inl (kV, 72, .inl (pd_by b)))] s.heap.size = A at hD hE ⊢
  have hA : ∀ q : Nat, s.heap.size ≤ q → A q := fun q h => by rw [← hAe]; exact Or.inr h
  have hS : va_S A s.heap s.heap [] := va_S.rf
  have hP : va_P (dC, dI) vwCl [(aD, .inr (1, [.ref aS, .int S, .int S, .ref aB])), (aB, .inl (kB, n, .inl (pcl b T))), (aS, .inr (2, [.ref aV, .int 0, .int 0, .int 0])), (aV, .inl (kV, 72, .inl (pd_by b)))] s.heap := hP
  have hl := lv_entry ([.ref aD, .int pos]) (n := 2) (Nat.le_of_ble_eq_true rfl)
  rw [lg_entry_eq]
  generalize (lg_sl ([.ref aD, .int pos]) ++ List.replicate (2 - (lg_sl ([.ref aD, .int pos])).length) Slot.unset).toArray = ls at hl ⊢
  have hl : lv_has ls 2 [(0, .ref aD), (1, .int pos)] := hl
  obtain ⟨T1, T2, T3, T4, T5, T6, T7, h1, h2, h3, h4, h5, h6, h7, h8⟩ := pm_8 h
  refine lv_aload_n hx hb dX1_corner2_0 rfl (lv_at hl 0 rfl) ?_
  refine lv_aload_n hx hb dX1_corner2_1 rfl (lv_at hl 0 rfl) ?_
  refine va_get (D := (dC, dI)) (ci := 1) (v := .int S) (C := RX1) (T := TX1) (N := 4) hx hb hts in_X1 hown hK hP 0 rfl rfl 1 (by decide) (hts _ q116) (fun _ h9 => h9) rfl dX1_corner2_2 ?_
  refine lv_iconst (v := 3) hx hb dX1_corner2_5 (by decide) ?_
  refine lv_isub hx hb dX1_corner2_6 ?_
  refine lv_iconst (v := 0) hx hb dX1_corner2_7 (by decide) ?_
  refine lv_iload_n hx hb dX1_corner2_8 rfl (lv_at hl 1 rfl) ?_
  refine lv_iconst (v := 1) hx hb dX1_corner2_9 (by decide) ?_
  refine pd_goV (ws := [(aD, .inr (1, [.ref aS, .int S, .int S, .ref aB])), (aB, .inl (kB, n, .inl (pcl b T))), (aS, .inr (2, [.ref aV, .int 0, .int 0, .int 0])), (aV, .inl (kV, 72, .inl (pd_by b)))]) (wc := [(aD, .inr (1, [.ref aS, .int S, .int S, .ref aB])), (aB, .inl (kB, n, .inl (pcl b T))), (aS, .inr (2, [.ref aV, .int 0, .int 0, .int 0])), (aV, .inl (kV, 72, .inl (pd_by b)))]) (wr := []) (w1 := [(aD, .inr (1, [.ref aS, .int S, .int S, .ref aB])), (aB, .inl (kB, n, .inl (pcl b T1))), (aS, .inr (2, [.ref aV, .int 0, .int 0, .int 0])), (aV, .inl (kV, 72, .inl (pd_by b)))]) [0, 1, 2, 3] [] hP hD hS hA rfl rfl (by decide) (by decide) (va_runV (As := [.int (S - 3), .int 0, .int pos, .int 1]) (rest := []) ⟨hx, hb, hml, hown, hts⟩ (metX1_module l dC dI _ aD aB aS aV kB kV S n b T T1 (S - 3) 0 pos 1 hb256 hT h1) (cwV 4 hts (lw_V q155 q157 qs1 q17 q158) rfl rfl rfl (by decide +kernel) ⟨Nat.le_of_ble_eq_true rfl, Nat.le_of_ble_eq_true rfl⟩) ⟨pd_Pc.blind, va_recv hK hP (ci := 1) (q0 := 0) rfl rfl, pd_pre [0, 1, 2, 3] [0, 1] hP hK hD hE hS hA rfl (by decide) rfl⟩ rfl rfl hl.1 rfl (lv_room (Nat.le_of_ble_eq_true rfl)) dX1_corner2_10 ⟨Nat.le_of_ble_eq_true rfl, Nat.le_of_ble_eq_true rfl⟩) (fun H locs hP hD hS => ?_)
  have hP : va_P (dC, dI) vwCl [(aD, .inr (1, [.ref aS, .int S, .int S, .ref aB])), (aB, .inl (kB, n, .inl (pcl b T1))), (aS, .inr (2, [.ref aV, .int 0, .int 0, .int 0])), (aV, .inl (kV, 72, .inl (pd_by b)))] H := hP
  have hD : va_D A [(aD, .inr (1, [.ref aS, .int S, .int S, .ref aB])), (aB, .inl (kB, n, .inl (pcl b T1))), (aS, .inr (2, [.ref aV, .int 0, .int 0, .int 0])), (aV, .inl (kV, 72, .inl (pd_by b)))] := hD
  have hT1 : T1.length = n := (pm_mod_len h1).trans hT
  refine lv_aload_n hx hb dX1_corner2_13 rfl (lv_at hl 0 rfl) ?_
  refine lv_aload_n hx hb dX1_corner2_14 rfl (lv_at hl 0 rfl) ?_
  refine va_get (D := (dC, dI)) (ci := 1) (v := .int S) (C := RX1) (T := TX1) (N := 4) hx hb hts in_X1 hown hK hP 0 rfl rfl 1 (by decide) (hts _ q116) (fun _ h9 => h9) rfl dX1_corner2_15 ?_
  refine lv_iconst (v := 2) hx hb dX1_corner2_18 (by decide) ?_
  refine lv_isub hx hb dX1_corner2_19 ?_
  refine lv_iconst (v := 0) hx hb dX1_corner2_20 (by decide) ?_
  refine lv_iload_n hx hb dX1_corner2_21 rfl (lv_at hl 1 rfl) ?_
  refine lv_iconst (v := 2) hx hb dX1_corner2_22 (by decide) ?_
  refine pd_goV (ws := [(aD, .inr (1, [.ref aS, .int S, .int S, .ref aB])), (aB, .inl (kB, n, .inl (pcl b T1))), (aS, .inr (2, [.ref aV, .int 0, .int 0, .int 0])), (aV, .inl (kV, 72, .inl (pd_by b)))]) (wc := [(aD, .inr (1, [.ref aS, .int S, .int S, .ref aB])), (aB, .inl (kB, n, .inl (pcl b T1))), (aS, .inr (2, [.ref aV, .int 0, .int 0, .int 0])), (aV, .inl (kV, 72, .inl (pd_by b)))]) (wr := []) (w1 := [(aD, .inr (1, [.ref aS, .int S, .int S, .ref aB])), (aB, .inl (kB, n, .inl (pcl b T2))), (aS, .inr (2, [.ref aV, .int 0, .int 0, .int 0])), (aV, .inl (kV, 72, .inl (pd_by b)))]) [0, 1, 2, 3] [] hP hD hS hA rfl rfl (by decide) (by decide) (va_runV (As := [.int (S - 2), .int 0, .int pos, .int 2]) (rest := []) ⟨hx, hb, hml, hown, hts⟩ (metX1_module l dC dI _ aD aB aS aV kB kV S n b T1 T2 (S - 2) 0 pos 2 hb256 hT1 h2) (cwV 4 hts (lw_V q155 q157 qs1 q17 q158) rfl rfl rfl (by decide +kernel) ⟨Nat.le_of_ble_eq_true rfl, Nat.le_of_ble_eq_true rfl⟩) ⟨pd_Pc.blind, va_recv hK hP (ci := 1) (q0 := 0) rfl rfl, pd_pre [0, 1, 2, 3] [0, 1] hP hK hD hE hS hA rfl (by decide) rfl⟩ rfl rfl hl.1 rfl (lv_room (Nat.le_of_ble_eq_true rfl)) dX1_corner2_23 ⟨Nat.le_of_ble_eq_true rfl, Nat.le_of_ble_eq_true rfl⟩) (fun H locs hP hD hS => ?_)
  have hP : va_P (dC, dI) vwCl [(aD, .inr (1, [.ref aS, .int S, .int S, .ref aB])), (aB, .inl (kB, n, .inl (pcl b T2))), (aS, .inr (2, [.ref aV, .int 0, .int 0, .int 0])), (aV, .inl (kV, 72, .inl (pd_by b)))] H := hP
  have hD : va_D A [(aD, .inr (1, [.ref aS, .int S, .int S, .ref aB])), (aB, .inl (kB, n, .inl (pcl b T2))), (aS, .inr (2, [.ref aV, .int 0, .int 0, .int 0])), (aV, .inl (kV, 72, .inl (pd_by b)))] := hD
  have hT2 : T2.length = n := (pm_mod_len h2).trans hT1
  refine lv_aload_n hx hb dX1_corner2_26 rfl (lv_at hl 0 rfl) ?_
  refine lv_aload_n hx hb dX1_corner2_27 rfl (lv_at hl 0 rfl) ?_
  refine va_get (D := (dC, dI)) (ci := 1) (v := .int S) (C := RX1) (T := TX1) (N := 4) hx hb hts in_X1 hown hK hP 0 rfl rfl 1 (by decide) (hts _ q116) (fun _ h9 => h9) rfl dX1_corner2_28 ?_
  refine lv_iconst (v := 1) hx hb dX1_corner2_31 (by decide) ?_
  refine lv_isub hx hb dX1_corner2_32 ?_
  refine lv_iconst (v := 0) hx hb dX1_corner2_33 (by decide) ?_
  refine lv_iload_n hx hb dX1_corner2_34 rfl (lv_at hl 1 rfl) ?_
  refine lv_iconst (v := 3) hx hb dX1_corner2_35 (by decide) ?_
  refine pd_goV (ws := [(aD, .inr (1, [.ref aS, .int S, .int S, .ref aB])), (aB, .inl (kB, n, .inl (pcl b T2))), (aS, .inr (2, [.ref aV, .int 0, .int 0, .int 0])), (aV, .inl (kV, 72, .inl (pd_by b)))]) (wc := [(aD, .inr (1, [.ref aS, .int S, .int S, .ref aB])), (aB, .inl (kB, n, .inl (pcl b T2))), (aS, .inr (2, [.ref aV, .int 0, .int 0, .int 0])), (aV, .inl (kV, 72, .inl (pd_by b)))]) (wr := []) (w1 := [(aD, .inr (1, [.ref aS, .int S, .int S, .ref aB])), (aB, .inl (kB, n, .inl (pcl b T3))), (aS, .inr (2, [.ref aV, .int 0, .int 0, .int 0])), (aV, .inl (kV, 72, .inl (pd_by b)))]) [0, 1, 2, 3] [] hP hD hS hA rfl rfl (by decide) (by decide) (va_runV (As := [.int (S - 1), .int 0, .int pos, .int 3]) (rest := []) ⟨hx, hb, hml, hown, hts⟩ (metX1_module l dC dI _ aD aB aS aV kB kV S n b T2 T3 (S - 1) 0 pos 3 hb256 hT2 h3) (cwV 4 hts (lw_V q155 q157 qs1 q17 q158) rfl rfl rfl (by decide +kernel) ⟨Nat.le_of_ble_eq_true rfl, Nat.le_of_ble_eq_true rfl⟩) ⟨pd_Pc.blind, va_recv hK hP (ci := 1) (q0 := 0) rfl rfl, pd_pre [0, 1, 2, 3] [0, 1] hP hK hD hE hS hA rfl (by decide) rfl⟩ rfl rfl hl.1 rfl (lv_room (Nat.le_of_ble_eq_true rfl)) dX1_corner2_36 ⟨Nat.le_of_ble_eq_true rfl, Nat.le_of_ble_eq_true rfl⟩) (fun H locs hP hD hS => ?_)
  have hP : va_P (dC, dI) vwCl [(aD, .inr (1, [.ref aS, .int S, .int S, .ref aB])), (aB, .inl (kB, n, .inl (pcl b T3))), (aS, .inr (2, [.ref aV, .int 0, .int 0, .int 0])), (aV, .inl (kV, 72, .inl (pd_by b)))] H := hP
  have hD : va_D A [(aD, .inr (1, [.ref aS, .int S, .int S, .ref aB])), (aB, .inl (kB, n, .inl (pcl b T3))), (aS, .inr (2, [.ref aV, .int 0, .int 0, .int 0])), (aV, .inl (kV, 72, .inl (pd_by b)))] := hD
  have hT3 : T3.length = n := (pm_mod_len h3).trans hT2
  refine lv_aload_n hx hb dX1_corner2_39 rfl (lv_at hl 0 rfl) ?_
  refine lv_iconst (v := 0) hx hb dX1_corner2_40 (by decide) ?_
  refine lv_aload_n hx hb dX1_corner2_41 rfl (lv_at hl 0 rfl) ?_
  refine va_get (D := (dC, dI)) (ci := 1) (v := .int S) (C := RX1) (T := TX1) (N := 4) hx hb hts in_X1 hown hK hP 0 rfl rfl 2 (by decide) (hts _ q117) (fun _ h9 => h9) rfl dX1_corner2_42 ?_
  refine lv_iconst (v := 4) hx hb dX1_corner2_45 (by decide) ?_
  refine lv_isub hx hb dX1_corner2_46 ?_
  refine lv_iload_n hx hb dX1_corner2_47 rfl (lv_at hl 1 rfl) ?_
  refine lv_iconst (v := 4) hx hb dX1_corner2_48 (by decide) ?_
  refine pd_goV (ws := [(aD, .inr (1, [.ref aS, .int S, .int S, .ref aB])), (aB, .inl (kB, n, .inl (pcl b T3))), (aS, .inr (2, [.ref aV, .int 0, .int 0, .int 0])), (aV, .inl (kV, 72, .inl (pd_by b)))]) (wc := [(aD, .inr (1, [.ref aS, .int S, .int S, .ref aB])), (aB, .inl (kB, n, .inl (pcl b T3))), (aS, .inr (2, [.ref aV, .int 0, .int 0, .int 0])), (aV, .inl (kV, 72, .inl (pd_by b)))]) (wr := []) (w1 := [(aD, .inr (1, [.ref aS, .int S, .int S, .ref aB])), (aB, .inl (kB, n, .inl (pcl b T4))), (aS, .inr (2, [.ref aV, .int 0, .int 0, .int 0])), (aV, .inl (kV, 72, .inl (pd_by b)))]) [0, 1, 2, 3] [] hP hD hS hA rfl rfl (by decide) (by decide) (va_runV (As := [.int 0, .int (S - 4), .int pos, .int 4]) (rest := []) ⟨hx, hb, hml, hown, hts⟩ (metX1_module l dC dI _ aD aB aS aV kB kV S n b T3 T4 0 (S - 4) pos 4 hb256 hT3 h4) (cwV 4 hts (lw_V q155 q157 qs1 q17 q158) rfl rfl rfl (by decide +kernel) ⟨Nat.le_of_ble_eq_true rfl, Nat.le_of_ble_eq_true rfl⟩) ⟨pd_Pc.blind, va_recv hK hP (ci := 1) (q0 := 0) rfl rfl, pd_pre [0, 1, 2, 3] [0, 1] hP hK hD hE hS hA rfl (by decide) rfl⟩ rfl rfl hl.1 rfl (lv_room (Nat.le_of_ble_eq_true rfl)) dX1_corner2_49 ⟨Nat.le_of_ble_eq_true rfl, Nat.le_of_ble_eq_true rfl⟩) (fun H locs hP hD hS => ?_)
  have hP : va_P (dC, dI) vwCl [(aD, .inr (1, [.ref aS, .int S, .int S, .ref aB])), (aB, .inl (kB, n, .inl (pcl b T4))), (aS, .inr (2, [.ref aV, .int 0, .int 0, .int 0])), (aV, .inl (kV, 72, .inl (pd_by b)))] H := hP
  have hD : va_D A [(aD, .inr (1, [.ref aS, .int S, .int S, .ref aB])), (aB, .inl (kB, n, .inl (pcl b T4))), (aS, .inr (2, [.ref aV, .int 0, .int 0, .int 0])), (aV, .inl (kV, 72, .inl (pd_by b)))] := hD
  have hT4 : T4.length = n := (pm_mod_len h4).trans hT3
  refine lv_aload_n hx hb dX1_corner2_52 rfl (lv_at hl 0 rfl) ?_
  refine lv_iconst (v := 0) hx hb dX1_corner2_53 (by decide) ?_
  refine lv_aload_n hx hb dX1_corner2_54 rfl (lv_at hl 0 rfl) ?_
  refine va_get (D := (dC, dI)) (ci := 1) (v := .int S) (C := RX1) (T := TX1) (N := 4) hx hb hts in_X1 hown hK hP 0 rfl rfl 2 (by decide) (hts _ q117) (fun _ h9 => h9) rfl dX1_corner2_55 ?_
  refine lv_iconst (v := 3) hx hb dX1_corner2_58 (by decide) ?_
  refine lv_isub hx hb dX1_corner2_59 ?_
  refine lv_iload_n hx hb dX1_corner2_60 rfl (lv_at hl 1 rfl) ?_
  refine lv_iconst (v := 5) hx hb dX1_corner2_61 (by decide) ?_
  refine pd_goV (ws := [(aD, .inr (1, [.ref aS, .int S, .int S, .ref aB])), (aB, .inl (kB, n, .inl (pcl b T4))), (aS, .inr (2, [.ref aV, .int 0, .int 0, .int 0])), (aV, .inl (kV, 72, .inl (pd_by b)))]) (wc := [(aD, .inr (1, [.ref aS, .int S, .int S, .ref aB])), (aB, .inl (kB, n, .inl (pcl b T4))), (aS, .inr (2, [.ref aV, .int 0, .int 0, .int 0])), (aV, .inl (kV, 72, .inl (pd_by b)))]) (wr := []) (w1 := [(aD, .inr (1, [.ref aS, .int S, .int S, .ref aB])), (aB, .inl (kB, n, .inl (pcl b T5))), (aS, .inr (2, [.ref aV, .int 0, .int 0, .int 0])), (aV, .inl (kV, 72, .inl (pd_by b)))]) [0, 1, 2, 3] [] hP hD hS hA rfl rfl (by decide) (by decide) (va_runV (As := [.int 0, .int (S - 3), .int pos, .int 5]) (rest := []) ⟨hx, hb, hml, hown, hts⟩ (metX1_module l dC dI _ aD aB aS aV kB kV S n b T4 T5 0 (S - 3) pos 5 hb256 hT4 h5) (cwV 4 hts (lw_V q155 q157 qs1 q17 q158) rfl rfl rfl (by decide +kernel) ⟨Nat.le_of_ble_eq_true rfl, Nat.le_of_ble_eq_true rfl⟩) ⟨pd_Pc.blind, va_recv hK hP (ci := 1) (q0 := 0) rfl rfl, pd_pre [0, 1, 2, 3] [0, 1] hP hK hD hE hS hA rfl (by decide) rfl⟩ rfl rfl hl.1 rfl (lv_room (Nat.le_of_ble_eq_true rfl)) dX1_corner2_62 ⟨Nat.le_of_ble_eq_true rfl, Nat.le_of_ble_eq_true rfl⟩) (fun H locs hP hD hS => ?_)
  have hP : va_P (dC, dI) vwCl [(aD, .inr (1, [.ref aS, .int S, .int S, .ref aB])), (aB, .inl (kB, n, .inl (pcl b T5))), (aS, .inr (2, [.ref aV, .int 0, .int 0, .int 0])), (aV, .inl (kV, 72, .inl (pd_by b)))] H := hP
  have hD : va_D A [(aD, .inr (1, [.ref aS, .int S, .int S, .ref aB])), (aB, .inl (kB, n, .inl (pcl b T5))), (aS, .inr (2, [.ref aV, .int 0, .int 0, .int 0])), (aV, .inl (kV, 72, .inl (pd_by b)))] := hD
  have hT5 : T5.length = n := (pm_mod_len h5).trans hT4
  refine lv_aload_n hx hb dX1_corner2_65 rfl (lv_at hl 0 rfl) ?_
  refine lv_iconst (v := 0) hx hb dX1_corner2_66 (by decide) ?_
  refine lv_aload_n hx hb dX1_corner2_67 rfl (lv_at hl 0 rfl) ?_
  refine va_get (D := (dC, dI)) (ci := 1) (v := .int S) (C := RX1) (T := TX1) (N := 4) hx hb hts in_X1 hown hK hP 0 rfl rfl 2 (by decide) (hts _ q117) (fun _ h9 => h9) rfl dX1_corner2_68 ?_
  refine lv_iconst (v := 2) hx hb dX1_corner2_71 (by decide) ?_
  refine lv_isub hx hb dX1_corner2_72 ?_
  refine lv_iload_n hx hb dX1_corner2_73 rfl (lv_at hl 1 rfl) ?_
  refine lv_bipush (v := 6) hx hb dX1_corner2_74 (by decide) ?_
  refine pd_goV (ws := [(aD, .inr (1, [.ref aS, .int S, .int S, .ref aB])), (aB, .inl (kB, n, .inl (pcl b T5))), (aS, .inr (2, [.ref aV, .int 0, .int 0, .int 0])), (aV, .inl (kV, 72, .inl (pd_by b)))]) (wc := [(aD, .inr (1, [.ref aS, .int S, .int S, .ref aB])), (aB, .inl (kB, n, .inl (pcl b T5))), (aS, .inr (2, [.ref aV, .int 0, .int 0, .int 0])), (aV, .inl (kV, 72, .inl (pd_by b)))]) (wr := []) (w1 := [(aD, .inr (1, [.ref aS, .int S, .int S, .ref aB])), (aB, .inl (kB, n, .inl (pcl b T6))), (aS, .inr (2, [.ref aV, .int 0, .int 0, .int 0])), (aV, .inl (kV, 72, .inl (pd_by b)))]) [0, 1, 2, 3] [] hP hD hS hA rfl rfl (by decide) (by decide) (va_runV (As := [.int 0, .int (S - 2), .int pos, .int 6]) (rest := []) ⟨hx, hb, hml, hown, hts⟩ (metX1_module l dC dI _ aD aB aS aV kB kV S n b T5 T6 0 (S - 2) pos 6 hb256 hT5 h6) (cwV 4 hts (lw_V q155 q157 qs1 q17 q158) rfl rfl rfl (by decide +kernel) ⟨Nat.le_of_ble_eq_true rfl, Nat.le_of_ble_eq_true rfl⟩) ⟨pd_Pc.blind, va_recv hK hP (ci := 1) (q0 := 0) rfl rfl, pd_pre [0, 1, 2, 3] [0, 1] hP hK hD hE hS hA rfl (by decide) rfl⟩ rfl rfl hl.1 rfl (lv_room (Nat.le_of_ble_eq_true rfl)) dX1_corner2_76 ⟨Nat.le_of_ble_eq_true rfl, Nat.le_of_ble_eq_true rfl⟩) (fun H locs hP hD hS => ?_)
  have hP : va_P (dC, dI) vwCl [(aD, .inr (1, [.ref aS, .int S, .int S, .ref aB])), (aB, .inl (kB, n, .inl (pcl b T6))), (aS, .inr (2, [.ref aV, .int 0, .int 0, .int 0])), (aV, .inl (kV, 72, .inl (pd_by b)))] H := hP
  have hD : va_D A [(aD, .inr (1, [.ref aS, .int S, .int S, .ref aB])), (aB, .inl (kB, n, .inl (pcl b T6))), (aS, .inr (2, [.ref aV, .int 0, .int 0, .int 0])), (aV, .inl (kV, 72, .inl (pd_by b)))] := hD
  have hT6 : T6.length = n := (pm_mod_len h6).trans hT5
  refine lv_aload_n hx hb dX1_corner2_79 rfl (lv_at hl 0 rfl) ?_
  refine lv_iconst (v := 0) hx hb dX1_corner2_80 (by decide) ?_
  refine lv_aload_n hx hb dX1_corner2_81 rfl (lv_at hl 0 rfl) ?_
  refine va_get (D := (dC, dI)) (ci := 1) (v := .int S) (C := RX1) (T := TX1) (N := 4) hx hb hts in_X1 hown hK hP 0 rfl rfl 2 (by decide) (hts _ q117) (fun _ h9 => h9) rfl dX1_corner2_82 ?_
  refine lv_iconst (v := 1) hx hb dX1_corner2_85 (by decide) ?_
  refine lv_isub hx hb dX1_corner2_86 ?_
  refine lv_iload_n hx hb dX1_corner2_87 rfl (lv_at hl 1 rfl) ?_
  refine lv_bipush (v := 7) hx hb dX1_corner2_88 (by decide) ?_
  refine pd_goV (ws := [(aD, .inr (1, [.ref aS, .int S, .int S, .ref aB])), (aB, .inl (kB, n, .inl (pcl b T6))), (aS, .inr (2, [.ref aV, .int 0, .int 0, .int 0])), (aV, .inl (kV, 72, .inl (pd_by b)))]) (wc := [(aD, .inr (1, [.ref aS, .int S, .int S, .ref aB])), (aB, .inl (kB, n, .inl (pcl b T6))), (aS, .inr (2, [.ref aV, .int 0, .int 0, .int 0])), (aV, .inl (kV, 72, .inl (pd_by b)))]) (wr := []) (w1 := [(aD, .inr (1, [.ref aS, .int S, .int S, .ref aB])), (aB, .inl (kB, n, .inl (pcl b T7))), (aS, .inr (2, [.ref aV, .int 0, .int 0, .int 0])), (aV, .inl (kV, 72, .inl (pd_by b)))]) [0, 1, 2, 3] [] hP hD hS hA rfl rfl (by decide) (by decide) (va_runV (As := [.int 0, .int (S - 1), .int pos, .int 7]) (rest := []) ⟨hx, hb, hml, hown, hts⟩ (metX1_module l dC dI _ aD aB aS aV kB kV S n b T6 T7 0 (S - 1) pos 7 hb256 hT6 h7) (cwV 4 hts (lw_V q155 q157 qs1 q17 q158) rfl rfl rfl (by decide +kernel) ⟨Nat.le_of_ble_eq_true rfl, Nat.le_of_ble_eq_true rfl⟩) ⟨pd_Pc.blind, va_recv hK hP (ci := 1) (q0 := 0) rfl rfl, pd_pre [0, 1, 2, 3] [0, 1] hP hK hD hE hS hA rfl (by decide) rfl⟩ rfl rfl hl.1 rfl (lv_room (Nat.le_of_ble_eq_true rfl)) dX1_corner2_90 ⟨Nat.le_of_ble_eq_true rfl, Nat.le_of_ble_eq_true rfl⟩) (fun H locs hP hD hS => ?_)
  have hP : va_P (dC, dI) vwCl [(aD, .inr (1, [.ref aS, .int S, .int S, .ref aB])), (aB, .inl (kB, n, .inl (pcl b T7))), (aS, .inr (2, [.ref aV, .int 0, .int 0, .int 0])), (aV, .inl (kV, 72, .inl (pd_by b)))] H := hP
  have hD : va_D A [(aD, .inr (1, [.ref aS, .int S, .int S, .ref aB])), (aB, .inl (kB, n, .inl (pcl b T7))), (aS, .inr (2, [.ref aV, .int 0, .int 0, .int 0])), (aV, .inl (kV, 72, .inl (pd_by b)))] := hD
  have hT7 : T7.length = n := (pm_mod_len h7).trans hT6
  refine lv_aload_n hx hb dX1_corner2_93 rfl (lv_at hl 0 rfl) ?_
  refine lv_iconst (v := 1) hx hb dX1_corner2_94 (by decide) ?_
  refine lv_aload_n hx hb dX1_corner2_95 rfl (lv_at hl 0 rfl) ?_
  refine va_get (D := (dC, dI)) (ci := 1) (v := .int S) (C := RX1) (T := TX1) (N := 4) hx hb hts in_X1 hown hK hP 0 rfl rfl 2 (by decide) (hts _ q117) (fun _ h9 => h9) rfl dX1_corner2_96 ?_
  refine lv_iconst (v := 1) hx hb dX1_corner2_99 (by decide) ?_
  refine lv_isub hx hb dX1_corner2_100 ?_
  refine lv_iload_n hx hb dX1_corner2_101 rfl (lv_at hl 1 rfl) ?_
  refine lv_bipush (v := 8) hx hb dX1_corner2_102 (by decide) ?_
  refine pd_goV (ws := [(aD, .inr (1, [.ref aS, .int S, .int S, .ref aB])), (aB, .inl (kB, n, .inl (pcl b T7))), (aS, .inr (2, [.ref aV, .int 0, .int 0, .int 0])), (aV, .inl (kV, 72, .inl (pd_by b)))]) (wc := [(aD, .inr (1, [.ref aS, .int S, .int S, .ref aB])), (aB, .inl (kB, n, .inl (pcl b T7))), (aS, .inr (2, [.ref aV, .int 0, .int 0, .int 0])), (aV, .inl (kV, 72, .inl (pd_by b)))]) (wr := []) (w1 := [(aD, .inr (1, [.ref aS, .int S, .int S, .ref aB])), (aB, .inl (kB, n, .inl (pcl b T8))), (aS, .inr (2, [.ref aV, .int 0, .int 0, .int 0])), (aV, .inl (kV, 72, .inl (pd_by b)))]) [0, 1, 2, 3] [] hP hD hS hA rfl rfl (by decide) (by decide) (va_runV (As := [.int 1, .int (S - 1), .int pos, .int 8]) (rest := []) ⟨hx, hb, hml, hown, hts⟩ (metX1_module l dC dI _ aD aB aS aV kB kV S n b T7 T8 1 (S - 1) pos 8 hb256 hT7 h8) (cwV 4 hts (lw_V q155 q157 qs1 q17 q158) rfl rfl rfl (by decide +kernel) ⟨Nat.le_of_ble_eq_true rfl, Nat.le_of_ble_eq_true rfl⟩) ⟨pd_Pc.blind, va_recv hK hP (ci := 1) (q0 := 0) rfl rfl, pd_pre [0, 1, 2, 3] [0, 1] hP hK hD hE hS hA rfl (by decide) rfl⟩ rfl rfl hl.1 rfl (lv_room (Nat.le_of_ble_eq_true rfl)) dX1_corner2_104 ⟨Nat.le_of_ble_eq_true rfl, Nat.le_of_ble_eq_true rfl⟩) (fun H locs hP hD hS => ?_)
  have hP : va_P (dC, dI) vwCl [(aD, .inr (1, [.ref aS, .int S, .int S, .ref aB])), (aB, .inl (kB, n, .inl (pcl b T8))), (aS, .inr (2, [.ref aV, .int 0, .int 0, .int 0])), (aV, .inl (kV, 72, .inl (pd_by b)))] H := hP
  have hD : va_D A [(aD, .inr (1, [.ref aS, .int S, .int S, .ref aB])), (aB, .inl (kB, n, .inl (pcl b T8))), (aS, .inr (2, [.ref aV, .int 0, .int 0, .int 0])), (aV, .inl (kV, 72, .inl (pd_by b)))] := hD
  exact W.vret hx hb hr (fun t ht hW => ⟨⟨(), rfl, trivial, by rw [ht]; exact hP, hD⟩, hS.F ht⟩) hS.2.2 dX1_corner2_107
end
section
/-! DefaultPlacement.place -/
set_option maxHeartbeats 4000000 in
set_option maxRecDepth 100000 in
theorem x1p_upB {l : Launch} {dC : Nat → ClassId} {dI : Nat → Nat → Nat} {p : Program} {e : Env} {s : State} {m : MethodId} {below : List Frame} {meth : Method} {c : Code} {A : Nat → Prop} {aD aB aS aV : Nat} {kB kV : ClassId} {S : Int32} {n : Nat} {b : Nat → Nat} {Q : State → Prop} (hb256 : ∀ j, b j < 256) (hx : p.tables.exec = Jvm.exec) (hb : c.code = cX1_place) (hml : c.maxLocals = 4) (hown : s.vm.findClass RX1 = some m.cls) (hts : ∀ w ∈ lw_all, w.before ([.ref aD] : List Value).toArray s = true) (hK : va_K (dC, dI) vwCl [(kB, .byte), (kV, .byte)] s) (hE : pd_E A s s.heap) (hA : ∀ q : Nat, s.heap.size ≤ q → A q) : ∀ (row col pos : Int32) (T : List pC) (q : Int32 × List pC), T.length = n → (if row < S ∧ ¬ col < 0 then pm_try S row col pos T else some (pos, T)) = some q → (∀ (H : Heap) (locs : List Loc) (ls : Array Slot), va_P (dC, dI) vwCl [(aD, .inr (1, [.ref aS, .int S, .int S, .ref aB])), (aB, .inl (kB, n, .inl (pcl b q.2))), (aS, .inr (2, [.ref aV, .int 0, .int 0, .int 0])), (aV, .inl (kV, 72, .inl (pd_by b)))] H → va_D A [(aD, .inr (1, [.ref aS, .int S, .int S, .ref aB])), (aB, .inl (kB, n, .inl (pcl b q.2))), (aS, .inr (2, [.ref aV, .int 0, .int 0, .int 0])), (aV, .inl (kV, 72, .inl (pd_by b)))] → va_S A s.heap H locs → lv_has ls 4 [(0, .ref aD), (1, .int q.1), (2, .int row), (3, .int col)] → W p l e (headSpec (ws_ yX1_place cX1_place 4 none) ({ frames := 6, cells := 0, slots := 0, locals := 133 })).room s m ([.ref aD] : List Value).toArray below meth c H locs 0 0 Q (F0 m 154 ls [])) → (∀ (H : Heap) (locs : List Loc) (ls : Array Slot), va_P (dC, dI) vwCl [(aD, .inr (1, [.ref aS, .int S, .int S, .ref aB])), (aB, .inl (kB, n, .inl (pcl b T))), (aS, .inr (2, [.ref aV, .int 0, .int 0, .int 0])), (aV, .inl (kV, 72, .inl (pd_by b)))] H → va_D A [(aD, .inr (1, [.ref aS, .int S, .int S, .ref aB])), (aB, .inl (kB, n, .inl (pcl b T))), (aS, .inr (2, [.ref aV, .int 0, .int 0, .int 0])), (aV, .inl (kV, 72, .inl (pd_by b)))] → va_S A s.heap H locs → lv_has ls 4 [(0, .ref aD), (1, .int pos), (2, .int row), (3, .int col)] → W p l e (headSpec (ws_ yX1_place cX1_place 4 none) ({ frames := 6, cells := 0, slots := 0, locals := 133 })).room s m ([.ref aD] : List Value).toArray below meth c H locs 0 0 Q (F0 m 123 ls [])) := by
  intro row col pos T q hT h k
  intro H locs ls hP hD hS hl
  refine lv_iload_n hx hb dX1_place_123 rfl (lv_at hl 2 rfl) ?_
  refine lv_aload_n hx hb dX1_place_124 rfl (lv_at hl 0 rfl) ?_
  refine va_get (D := (dC, dI)) (ci := 1) (v := .int S) (C := RX1) (T := TX1) (N := 4) hx hb hts in_X1 hown hK hP 0 rfl rfl 1 (by decide) (hts _ q116) (fun _ h9 => h9) rfl dX1_place_125 ?_
  refine lv_icmp_ge (tgt := 154) hx hb dX1_place_128 (by decide) (fun c1 => ?_) (fun c1 => ?_)
  · rw [if_neg (fun z => absurd z.1 (Int32.not_lt.mpr c1))] at h
    cases h
    exact k _ _ ls hP hD hS (lv_sub hl [0, 1, 2, 3] rfl)
  · refine lv_iload_n hx hb dX1_place_131 rfl (lv_at hl 3 rfl) ?_
    refine lv_if_lt (tgt := 154) hx hb dX1_place_132 (by decide) (fun c2 => ?_) (fun c2 => ?_)
    · rw [if_neg (fun z => z.2 c2)] at h
      cases h
      exact k _ _ ls hP hD hS (lv_sub hl [0, 1, 2, 3] rfl)
    · rw [if_pos ⟨Int32.not_le.mp c1, c2⟩] at h
      obtain ⟨hin, hq⟩ := pm_try_spec h
      rw [hT] at hin
      refine lv_aload_n hx hb dX1_place_135 rfl (lv_at hl 0 rfl) ?_
      refine lv_iload_n hx hb dX1_place_136 rfl (lv_at hl 3 rfl) ?_
      refine lv_iload_n hx hb dX1_place_137 rfl (lv_at hl 2 rfl) ?_
      refine pd_read (v := (if pcl b T (row * S + col).toNatClampNeg < 0 then 1 else 0)) (W.runV (As := [.int col, .int row]) (rest := []) ⟨hx, hb, hml, hown, hts⟩ (metX1_noBit l dC dI aD aB aS kB S n (pcl b T) col row hin) (cwV 2 hts (lw_V q205 q207 qs6 q17 q208) rfl rfl rfl (by decide +kernel) ⟨Nat.le_of_ble_eq_true rfl, Nat.le_of_ble_eq_true rfl⟩) ⟨pd_Pr.blind, va_recv hK hP (ci := 1) (q0 := 0) rfl rfl, pd_prer [0, 1] [0] hP hK hE hS rfl rfl⟩ rfl rfl hl.1 rfl (lv_room (Nat.le_of_ble_eq_true rfl)) dX1_place_138 ⟨Nat.le_of_ble_eq_true rfl, Nat.le_of_ble_eq_true rfl⟩) ?_
      rcases hq with ⟨d, T1, hu, rfl⟩ | ⟨d, rfl⟩
      · rw [if_pos (show pcl b T (row * S + col).toNatClampNeg < 0 from pm_cv_free.mpr d)]
        refine lv_if_eq (tgt := 154) hx hb dX1_place_141 (by decide) (fun c4 => ?_) (fun c4 => ?_)
        · exact absurd c4 (by decide)
        · refine lv_aload_n hx hb dX1_place_144 rfl (lv_at hl 0 rfl) ?_
          refine lv_iload_n hx hb dX1_place_145 rfl (lv_at hl 2 rfl) ?_
          refine lv_iload_n hx hb dX1_place_146 rfl (lv_at hl 3 rfl) ?_
          refine lv_iload_n hx hb dX1_place_147 rfl (lv_at hl 1 rfl) ?_
          refine lv_iinc (v := pos + 1) (lv' := [(1, .int (pos + 1)), (0, .ref aD), (2, .int row), (3, .int col)]) hx hb dX1_place_148 hl (k := 1) rfl rfl (by decide) rfl (fun ls hl => ?_)
          refine pd_goV (ws := [(aD, .inr (1, [.ref aS, .int S, .int S, .ref aB])), (aB, .inl (kB, n, .inl (pcl b T))), (aS, .inr (2, [.ref aV, .int 0, .int 0, .int 0])), (aV, .inl (kV, 72, .inl (pd_by b)))]) (wc := [(aD, .inr (1, [.ref aS, .int S, .int S, .ref aB])), (aB, .inl (kB, n, .inl (pcl b T))), (aS, .inr (2, [.ref aV, .int 0, .int 0, .int 0])), (aV, .inl (kV, 72, .inl (pd_by b)))]) (wr := []) (w1 := [(aD, .inr (1, [.ref aS, .int S, .int S, .ref aB])), (aB, .inl (kB, n, .inl (pcl b T1))), (aS, .inr (2, [.ref aV, .int 0, .int 0, .int 0])), (aV, .inl (kV, 72, .inl (pd_by b)))]) [0, 1, 2, 3] [] hP hD hS hA rfl rfl (by decide) (by decide) (va_runV (As := [.int row, .int col, .int pos]) (rest := []) ⟨hx, hb, hml, hown, hts⟩ (metX1_utah l dC dI _ aD aB aS aV kB kV S n b T T1 row col pos hb256 hT hu) (cwV 3 hts (lw_V q209 q211 qs7 q17 q212) rfl rfl rfl (by decide +kernel) ⟨Nat.le_of_ble_eq_true rfl, Nat.le_of_ble_eq_true rfl⟩) ⟨pd_Pc.blind, va_recv hK hP (ci := 1) (q0 := 0) rfl rfl, pd_pre [0, 1, 2, 3] [0, 1] hP hK hD hE hS hA rfl (by decide) rfl⟩ rfl rfl hl.1 rfl (lv_room (Nat.le_of_ble_eq_true rfl)) dX1_place_151 ⟨Nat.le_of_ble_eq_true rfl, Nat.le_of_ble_eq_true rfl⟩) (fun H locs hP hD hS => ?_)
          have hP : va_P (dC, dI) vwCl [(aD, .inr (1, [.ref aS, .int S, .int S, .ref aB])), (aB, .inl (kB, n, .inl (pcl b T1))), (aS, .inr (2, [.ref aV, .int 0, .int 0, .int 0])), (aV, .inl (kV, 72, .inl (pd_by b)))] H := hP
          have hD : va_D A [(aD, .inr (1, [.ref aS, .int S, .int S, .ref aB])), (aB, .inl (kB, n, .inl (pcl b T1))), (aS, .inr (2, [.ref aV, .int 0, .int 0, .int 0])), (aV, .inl (kV, 72, .inl (pd_by b)))] := hD
          exact k _ _ ls hP hD hS (lv_sub hl [1, 0, 2, 3] rfl)
      · rw [if_neg (show ¬ pcl b T (row * S + col).toNatClampNeg < 0 from fun z => d (pm_cv_free.mp z))]
        refine lv_if_eq (tgt := 154) hx hb dX1_place_141 (by decide) (fun c5 => ?_) (fun c5 => ?_)
        · exact k _ _ ls hP hD hS (lv_sub hl [0, 1, 2, 3] rfl)
        · exact absurd rfl c5
set_option maxHeartbeats 4000000 in
set_option maxRecDepth 100000 in
theorem x1p_dnB {l : Launch} {dC : Nat → ClassId} {dI : Nat → Nat → Nat} {p : Program} {e : Env} {s : State} {m : MethodId} {below : List Frame} {meth : Method} {c : Code} {A : Nat → Prop} {aD aB aS aV : Nat} {kB kV : ClassId} {S : Int32} {n : Nat} {b : Nat → Nat} {Q : State → Prop} (hb256 : ∀ j, b j < 256) (hx : p.tables.exec = Jvm.exec) (hb : c.code = cX1_place) (hml : c.maxLocals = 4) (hown : s.vm.findClass RX1 = some m.cls) (hts : ∀ w ∈ lw_all, w.before ([.ref aD] : List Value).toArray s = true) (hK : va_K (dC, dI) vwCl [(kB, .byte), (kV, .byte)] s) (hE : pd_E A s s.heap) (hA : ∀ q : Nat, s.heap.size ≤ q → A q) : ∀ (row col pos : Int32) (T : List pC) (q : Int32 × List pC), T.length = n → (if ¬ row < 0 ∧ col < S then pm_try S row col pos T else some (pos, T)) = some q → (∀ (H : Heap) (locs : List Loc) (ls : Array Slot), va_P (dC, dI) vwCl [(aD, .inr (1, [.ref aS, .int S, .int S, .ref aB])), (aB, .inl (kB, n, .inl (pcl b q.2))), (aS, .inr (2, [.ref aV, .int 0, .int 0, .int 0])), (aV, .inl (kV, 72, .inl (pd_by b)))] H → va_D A [(aD, .inr (1, [.ref aS, .int S, .int S, .ref aB])), (aB, .inl (kB, n, .inl (pcl b q.2))), (aS, .inr (2, [.ref aV, .int 0, .int 0, .int 0])), (aV, .inl (kV, 72, .inl (pd_by b)))] → va_S A s.heap H locs → lv_has ls 4 [(0, .ref aD), (1, .int q.1), (2, .int row), (3, .int col)] → W p l e (headSpec (ws_ yX1_place cX1_place 4 none) ({ frames := 6, cells := 0, slots := 0, locals := 133 })).room s m ([.ref aD] : List Value).toArray below meth c H locs 0 0 Q (F0 m 209 ls [])) → (∀ (H : Heap) (locs : List Loc) (ls : Array Slot), va_P (dC, dI) vwCl [(aD, .inr (1, [.ref aS, .int S, .int S, .ref aB])), (aB, .inl (kB, n, .inl (pcl b T))), (aS, .inr (2, [.ref aV, .int 0, .int 0, .int 0])), (aV, .inl (kV, 72, .inl (pd_by b)))] H → va_D A [(aD, .inr (1, [.ref aS, .int S, .int S, .ref aB])), (aB, .inl (kB, n, .inl (pcl b T))), (aS, .inr (2, [.ref aV, .int 0, .int 0, .int 0])), (aV, .inl (kV, 72, .inl (pd_by b)))] → va_S A s.heap H locs → lv_has ls 4 [(0, .ref aD), (1, .int pos), (2, .int row), (3, .int col)] → W p l e (headSpec (ws_ yX1_place cX1_place 4 none) ({ frames := 6, cells := 0, slots := 0, locals := 133 })).room s m ([.ref aD] : List Value).toArray below meth c H locs 0 0 Q (F0 m 178 ls [])) := by
  intro row col pos T q hT h k
  intro H locs ls hP hD hS hl
  refine lv_iload_n hx hb dX1_place_178 rfl (lv_at hl 2 rfl) ?_
  refine lv_if_lt (tgt := 209) hx hb dX1_place_179 (by decide) (fun c1 => ?_) (fun c1 => ?_)
  · rw [if_neg (fun z => z.1 c1)] at h
    cases h
    exact k _ _ ls hP hD hS (lv_sub hl [0, 1, 2, 3] rfl)
  · refine lv_iload_n hx hb dX1_place_182 rfl (lv_at hl 3 rfl) ?_
    refine lv_aload_n hx hb dX1_place_183 rfl (lv_at hl 0 rfl) ?_
    refine va_get (D := (dC, dI)) (ci := 1) (v := .int S) (C := RX1) (T := TX1) (N := 4) hx hb hts in_X1 hown hK hP 0 rfl rfl 2 (by decide) (hts _ q117) (fun _ h9 => h9) rfl dX1_place_184 ?_
    refine lv_icmp_ge (tgt := 209) hx hb dX1_place_187 (by decide) (fun c2 => ?_) (fun c2 => ?_)
    · rw [if_neg (fun z => absurd z.2 (Int32.not_lt.mpr c2))] at h
      cases h
      exact k _ _ ls hP hD hS (lv_sub hl [0, 1, 2, 3] rfl)
    · rw [if_pos ⟨c1, Int32.not_le.mp c2⟩] at h
      obtain ⟨hin, hq⟩ := pm_try_spec h
      rw [hT] at hin
      refine lv_aload_n hx hb dX1_place_190 rfl (lv_at hl 0 rfl) ?_
      refine lv_iload_n hx hb dX1_place_191 rfl (lv_at hl 3 rfl) ?_
      refine lv_iload_n hx hb dX1_place_192 rfl (lv_at hl 2 rfl) ?_
      refine pd_read (v := (if pcl b T (row * S + col).toNatClampNeg < 0 then 1 else 0)) (W.runV (As := [.int col, .int row]) (rest := []) ⟨hx, hb, hml, hown, hts⟩ (metX1_noBit l dC dI aD aB aS kB S n (pcl b T) col row hin) (cwV 2 hts (lw_V q205 q207 qs6 q17 q208) rfl rfl rfl (by decide +kernel) ⟨Nat.le_of_ble_eq_true rfl, Nat.le_of_ble_eq_true rfl⟩) ⟨pd_Pr.blind, va_recv hK hP (ci := 1) (q0 := 0) rfl rfl, pd_prer [0, 1] [0] hP hK hE hS rfl rfl⟩ rfl rfl hl.1 rfl (lv_room (Nat.le_of_ble_eq_true rfl)) dX1_place_193 ⟨Nat.le_of_ble_eq_true rfl, Nat.le_of_ble_eq_true rfl⟩) ?_
      rcases hq with ⟨d, T1, hu, rfl⟩ | ⟨d, rfl⟩
      · rw [if_pos (show pcl b T (row * S + col).toNatClampNeg < 0 from pm_cv_free.mpr d)]
        refine lv_if_eq (tgt := 209) hx hb dX1_place_196 (by decide) (fun c4 => ?_) (fun c4 => ?_)
        · exact absurd c4 (by decide)
        · refine lv_aload_n hx hb dX1_place_199 rfl (lv_at hl 0 rfl) ?_
          refine lv_iload_n hx hb dX1_place_200 rfl (lv_at hl 2 rfl) ?_
          refine lv_iload_n hx hb dX1_place_201 rfl (lv_at hl 3 rfl) ?_
          refine lv_iload_n hx hb dX1_place_202 rfl (lv_at hl 1 rfl) ?_
          refine lv_iinc (v := pos + 1) (lv' := [(1, .int (pos + 1)), (0, .ref aD), (2, .int row), (3, .int col)]) hx hb dX1_place_203 hl (k := 1) rfl rfl (by decide) rfl (fun ls hl => ?_)
          refine pd_goV (ws := [(aD, .inr (1, [.ref aS, .int S, .int S, .ref aB])), (aB, .inl (kB, n, .inl (pcl b T))), (aS, .inr (2, [.ref aV, .int 0, .int 0, .int 0])), (aV, .inl (kV, 72, .inl (pd_by b)))]) (wc := [(aD, .inr (1, [.ref aS, .int S, .int S, .ref aB])), (aB, .inl (kB, n, .inl (pcl b T))), (aS, .inr (2, [.ref aV, .int 0, .int 0, .int 0])), (aV, .inl (kV, 72, .inl (pd_by b)))]) (wr := []) (w1 := [(aD, .inr (1, [.ref aS, .int S, .int S, .ref aB])), (aB, .inl (kB, n, .inl (pcl b T1))), (aS, .inr (2, [.ref aV, .int 0, .int 0, .int 0])), (aV, .inl (kV, 72, .inl (pd_by b)))]) [0, 1, 2, 3] [] hP hD hS hA rfl rfl (by decide) (by decide) (va_runV (As := [.int row, .int col, .int pos]) (rest := []) ⟨hx, hb, hml, hown, hts⟩ (metX1_utah l dC dI _ aD aB aS aV kB kV S n b T T1 row col pos hb256 hT hu) (cwV 3 hts (lw_V q209 q211 qs7 q17 q212) rfl rfl rfl (by decide +kernel) ⟨Nat.le_of_ble_eq_true rfl, Nat.le_of_ble_eq_true rfl⟩) ⟨pd_Pc.blind, va_recv hK hP (ci := 1) (q0 := 0) rfl rfl, pd_pre [0, 1, 2, 3] [0, 1] hP hK hD hE hS hA rfl (by decide) rfl⟩ rfl rfl hl.1 rfl (lv_room (Nat.le_of_ble_eq_true rfl)) dX1_place_206 ⟨Nat.le_of_ble_eq_true rfl, Nat.le_of_ble_eq_true rfl⟩) (fun H locs hP hD hS => ?_)
          have hP : va_P (dC, dI) vwCl [(aD, .inr (1, [.ref aS, .int S, .int S, .ref aB])), (aB, .inl (kB, n, .inl (pcl b T1))), (aS, .inr (2, [.ref aV, .int 0, .int 0, .int 0])), (aV, .inl (kV, 72, .inl (pd_by b)))] H := hP
          have hD : va_D A [(aD, .inr (1, [.ref aS, .int S, .int S, .ref aB])), (aB, .inl (kB, n, .inl (pcl b T1))), (aS, .inr (2, [.ref aV, .int 0, .int 0, .int 0])), (aV, .inl (kV, 72, .inl (pd_by b)))] := hD
          exact k _ _ ls hP hD hS (lv_sub hl [1, 0, 2, 3] rfl)
      · rw [if_neg (show ¬ pcl b T (row * S + col).toNatClampNeg < 0 from fun z => d (pm_cv_free.mp z))]
        refine lv_if_eq (tgt := 209) hx hb dX1_place_196 (by decide) (fun c5 => ?_) (fun c5 => ?_)
        · exact k _ _ ls hP hD hS (lv_sub hl [0, 1, 2, 3] rfl)
        · exact absurd rfl c5
set_option maxHeartbeats 4000000 in
set_option maxRecDepth 100000 in
theorem x1p_up {l : Launch} {dC : Nat → ClassId} {dI : Nat → Nat → Nat} {p : Program} {e : Env} {s : State} {m : MethodId} {below : List Frame} {meth : Method} {c : Code} {A : Nat → Prop} {aD aB aS aV : Nat} {kB kV : ClassId} {S : Int32} {n : Nat} {b : Nat → Nat} {Q : State → Prop} (hb256 : ∀ j, b j < 256) (hx : p.tables.exec = Jvm.exec) (hb : c.code = cX1_place) (hml : c.maxLocals = 4) (hown : s.vm.findClass RX1 = some m.cls) (hts : ∀ w ∈ lw_all, w.before ([.ref aD] : List Value).toArray s = true) (hK : va_K (dC, dI) vwCl [(kB, .byte), (kV, .byte)] s) (hE : pd_E A s s.heap) (hA : ∀ q : Nat, s.heap.size ≤ q → A q) : ∀ (k : Nat) (row col pos : Int32) (T : List pC) (u : Int32 × Int32 × Int32 × List pC), T.length = n → pm_up S k row col pos T = some u → (∀ (H : Heap) (locs : List Loc) (ls : Array Slot), va_P (dC, dI) vwCl [(aD, .inr (1, [.ref aS, .int S, .int S, .ref aB])), (aB, .inl (kB, n, .inl (pcl b u.2.2.2))), (aS, .inr (2, [.ref aV, .int 0, .int 0, .int 0])), (aV, .inl (kV, 72, .inl (pd_by b)))] H → va_D A [(aD, .inr (1, [.ref aS, .int S, .int S, .ref aB])), (aB, .inl (kB, n, .inl (pcl b u.2.2.2))), (aS, .inr (2, [.ref aV, .int 0, .int 0, .int 0])), (aV, .inl (kV, 72, .inl (pd_by b)))] → va_S A s.heap H locs → lv_has ls 4 [(0, .ref aD), (1, .int u.2.2.1), (2, .int u.1), (3, .int u.2.1)] → W p l e (headSpec (ws_ yX1_place cX1_place 4 none) ({ frames := 6, cells := 0, slots := 0, locals := 133 })).room s m ([.ref aD] : List Value).toArray below meth c H locs 0 0 Q (F0 m 172 ls [])) → (∀ (H : Heap) (locs : List Loc) (ls : Array Slot), va_P (dC, dI) vwCl [(aD, .inr (1, [.ref aS, .int S, .int S, .ref aB])), (aB, .inl (kB, n, .inl (pcl b T))), (aS, .inr (2, [.ref aV, .int 0, .int 0, .int 0])), (aV, .inl (kV, 72, .inl (pd_by b)))] H → va_D A [(aD, .inr (1, [.ref aS, .int S, .int S, .ref aB])), (aB, .inl (kB, n, .inl (pcl b T))), (aS, .inr (2, [.ref aV, .int 0, .int 0, .int 0])), (aV, .inl (kV, 72, .inl (pd_by b)))] → va_S A s.heap H locs → lv_has ls 4 [(0, .ref aD), (1, .int pos), (2, .int row), (3, .int col)] → W p l e (headSpec (ws_ yX1_place cX1_place 4 none) ({ frames := 6, cells := 0, slots := 0, locals := 133 })).room s m ([.ref aD] : List Value).toArray below meth c H locs 0 0 Q (F0 m 123 ls [])) := by
  intro k
  induction k with
  | zero =>
    intro row col pos T u hT h
    rw [pm_up_0] at h
    cases h
  | succ k ih =>
    intro row col pos T u hT h hk
    rw [pm_up_s] at h
    obtain ⟨q, hq, h⟩ := ob_s h
    have hTq : q.2.length = n := (pm_if_len hq).trans hT
    refine x1p_upB hb256 hx hb hml hown hts hK hE hA row col pos T q hT hq ?_
    intro H locs ls hP hD hS hl
    refine lv_iinc (v := row - 2) (lv' := [(2, .int (row - 2)), (0, .ref aD), (1, .int q.1), (3, .int col)]) hx hb dX1_place_154 hl (k := 2) rfl (pd_iincm2 row) (by decide) rfl (fun ls hl => ?_)
    refine lv_iinc (v := col + 2) (lv' := [(3, .int (col + 2)), (2, .int (row - 2)), (0, .ref aD), (1, .int q.1)]) hx hb dX1_place_157 hl (k := 3) rfl rfl (by decide) rfl (fun ls hl => ?_)
    refine lv_iload_n hx hb dX1_place_160 rfl (lv_at hl 1 rfl) ?_
    refine lv_if_lt (tgt := 172) hx hb dX1_place_161 (by decide) (fun c1 => ?_) (fun c1 => ?_)
    · rw [if_neg (fun z => z.1 c1)] at h
      cases h
      exact hk _ _ ls hP hD hS (lv_sub hl [2, 3, 1, 0] rfl)
    · refine lv_iload_n hx hb dX1_place_164 rfl (lv_at hl 0 rfl) ?_
      refine lv_aload_n hx hb dX1_place_165 rfl (lv_at hl 2 rfl) ?_
      refine va_get (D := (dC, dI)) (ci := 1) (v := .int S) (C := RX1) (T := TX1) (N := 4) hx hb hts in_X1 hown hK hP 0 rfl rfl 2 (by decide) (hts _ q117) (fun _ h9 => h9) rfl dX1_place_166 ?_
      refine lv_icmp_lt (tgt := 123) hx hb dX1_place_169 (by decide) (fun c2 => ?_) (fun c2 => ?_)
      · rw [if_pos ⟨c1, c2⟩] at h
        exact ih _ _ _ _ u hTq h hk _ _ ls hP hD hS (lv_sub hl [2, 3, 1, 0] rfl)
      · rw [if_neg (fun z => c2 z.2)] at h
        cases h
        exact hk _ _ ls hP hD hS (lv_sub hl [2, 3, 1, 0] rfl)
set_option maxHeartbeats 4000000 in
set_option maxRecDepth 100000 in
theorem x1p_dn {l : Launch} {dC : Nat → ClassId} {dI : Nat → Nat → Nat} {p : Program} {e : Env} {s : State} {m : MethodId} {below : List Frame} {meth : Method} {c : Code} {A : Nat → Prop} {aD aB aS aV : Nat} {kB kV : ClassId} {S : Int32} {n : Nat} {b : Nat → Nat} {Q : State → Prop} (hb256 : ∀ j, b j < 256) (hx : p.tables.exec = Jvm.exec) (hb : c.code = cX1_place) (hml : c.maxLocals = 4) (hown : s.vm.findClass RX1 = some m.cls) (hts : ∀ w ∈ lw_all, w.before ([.ref aD] : List Value).toArray s = true) (hK : va_K (dC, dI) vwCl [(kB, .byte), (kV, .byte)] s) (hE : pd_E A s s.heap) (hA : ∀ q : Nat, s.heap.size ≤ q → A q) : ∀ (k : Nat) (row col pos : Int32) (T : List pC) (u : Int32 × Int32 × Int32 × List pC), T.length = n → pm_dn S k row col pos T = some u → (∀ (H : Heap) (locs : List Loc) (ls : Array Slot), va_P (dC, dI) vwCl [(aD, .inr (1, [.ref aS, .int S, .int S, .ref aB])), (aB, .inl (kB, n, .inl (pcl b u.2.2.2))), (aS, .inr (2, [.ref aV, .int 0, .int 0, .int 0])), (aV, .inl (kV, 72, .inl (pd_by b)))] H → va_D A [(aD, .inr (1, [.ref aS, .int S, .int S, .ref aB])), (aB, .inl (kB, n, .inl (pcl b u.2.2.2))), (aS, .inr (2, [.ref aV, .int 0, .int 0, .int 0])), (aV, .inl (kV, 72, .inl (pd_by b)))] → va_S A s.heap H locs → lv_has ls 4 [(0, .ref aD), (1, .int u.2.2.1), (2, .int u.1), (3, .int u.2.1)] → W p l e (headSpec (ws_ yX1_place cX1_place 4 none) ({ frames := 6, cells := 0, slots := 0, locals := 133 })).room s m ([.ref aD] : List Value).toArray below meth c H locs 0 0 Q (F0 m 227 ls [])) → (∀ (H : Heap) (locs : List Loc) (ls : Array Slot), va_P (dC, dI) vwCl [(aD, .inr (1, [.ref aS, .int S, .int S, .ref aB])), (aB, .inl (kB, n, .inl (pcl b T))), (aS, .inr (2, [.ref aV, .int 0, .int 0, .int 0])), (aV, .inl (kV, 72, .inl (pd_by b)))] H → va_D A [(aD, .inr (1, [.ref aS, .int S, .int S, .ref aB])), (aB, .inl (kB, n, .inl (pcl b T))), (aS, .inr (2, [.ref aV, .int 0, .int 0, .int 0])), (aV, .inl (kV, 72, .inl (pd_by b)))] → va_S A s.heap H locs → lv_has ls 4 [(0, .ref aD), (1, .int pos), (2, .int row), (3, .int col)] → W p l e (headSpec (ws_ yX1_place cX1_place 4 none) ({ frames := 6, cells := 0, slots := 0, locals := 133 })).room s m ([.ref aD] : List Value).toArray below meth c H locs 0 0 Q (F0 m 178 ls [])) := by
  intro k
  induction k with
  | zero =>
    intro row col pos T u hT h
    rw [pm_dn_0] at h
    cases h
  | succ k ih =>
    intro row col pos T u hT h hk
    rw [pm_dn_s] at h
    obtain ⟨q, hq, h⟩ := ob_s h
    have hTq : q.2.length = n := (pm_if_len hq).trans hT
    refine x1p_dnB hb256 hx hb hml hown hts hK hE hA row col pos T q hT hq ?_
    intro H locs ls hP hD hS hl
    refine lv_iinc (v := row + 2) (lv' := [(2, .int (row + 2)), (0, .ref aD), (1, .int q.1), (3, .int col)]) hx hb dX1_place_209 hl (k := 2) rfl rfl (by decide) rfl (fun ls hl => ?_)
    refine lv_iinc (v := col - 2) (lv' := [(3, .int (col - 2)), (2, .int (row + 2)), (0, .ref aD), (1, .int q.1)]) hx hb dX1_place_212 hl (k := 3) rfl (pd_iincm2 col) (by decide) rfl (fun ls hl => ?_)
    refine lv_iload_n hx hb dX1_place_215 rfl (lv_at hl 1 rfl) ?_
    refine lv_aload_n hx hb dX1_place_216 rfl (lv_at hl 2 rfl) ?_
    refine va_get (D := (dC, dI)) (ci := 1) (v := .int S) (C := RX1) (T := TX1) (N := 4) hx hb hts in_X1 hown hK hP 0 rfl rfl 1 (by decide) (hts _ q116) (fun _ h9 => h9) rfl dX1_place_217 ?_
    refine lv_icmp_ge (tgt := 227) hx hb dX1_place_220 (by decide) (fun c1 => ?_) (fun c1 => ?_)
    · rw [if_neg (fun z => absurd z.1 (Int32.not_lt.mpr c1))] at h
      cases h
      exact hk _ _ ls hP hD hS (lv_sub hl [2, 3, 1, 0] rfl)
    · refine lv_iload_n hx hb dX1_place_223 rfl (lv_at hl 0 rfl) ?_
      refine lv_if_ge (tgt := 178) hx hb dX1_place_224 (by decide) (fun c2 => ?_) (fun c2 => ?_)
      · rw [if_pos ⟨Int32.not_le.mp c1, Int32.not_lt.mpr c2⟩] at h
        exact ih _ _ _ _ u hTq h hk _ _ ls hP hD hS (lv_sub hl [2, 3, 1, 0] rfl)
      · rw [if_neg (fun z => z.2 (Int32.not_le.mp c2))] at h
        cases h
        exact hk _ _ ls hP hD hS (lv_sub hl [2, 3, 1, 0] rfl)
set_option maxHeartbeats 4000000 in
set_option maxRecDepth 100000 in
theorem x1p_k1B {l : Launch} {dC : Nat → ClassId} {dI : Nat → Nat → Nat} {p : Program} {e : Env} {s : State} {m : MethodId} {below : List Frame} {meth : Method} {c : Code} {A : Nat → Prop} {aD aB aS aV : Nat} {kB kV : ClassId} {S : Int32} {n : Nat} {b : Nat → Nat} {Q : State → Prop} (hb256 : ∀ j, b j < 256) (hx : p.tables.exec = Jvm.exec) (hb : c.code = cX1_place) (hml : c.maxLocals = 4) (hown : s.vm.findClass RX1 = some m.cls) (hts : ∀ w ∈ lw_all, w.before ([.ref aD] : List Value).toArray s = true) (hK : va_K (dC, dI) vwCl [(kB, .byte), (kV, .byte)] s) (hE : pd_E A s s.heap) (hA : ∀ q : Nat, s.heap.size ≤ q → A q) : ∀ (row col pos : Int32) (T : List pC) (q : Int32 × List pC), T.length = n → pm_k1 S row col pos T = some q → (∀ (H : Heap) (locs : List Loc) (ls : Array Slot), va_P (dC, dI) vwCl [(aD, .inr (1, [.ref aS, .int S, .int S, .ref aB])), (aB, .inl (kB, n, .inl (pcl b q.2))), (aS, .inr (2, [.ref aV, .int 0, .int 0, .int 0])), (aV, .inl (kV, 72, .inl (pd_by b)))] H → va_D A [(aD, .inr (1, [.ref aS, .int S, .int S, .ref aB])), (aB, .inl (kB, n, .inl (pcl b q.2))), (aS, .inr (2, [.ref aV, .int 0, .int 0, .int 0])), (aV, .inl (kV, 72, .inl (pd_by b)))] → va_S A s.heap H locs → lv_has ls 4 [(0, .ref aD), (1, .int q.1), (2, .int row), (3, .int col)] → W p l e (headSpec (ws_ yX1_place cX1_place 4 none) ({ frames := 6, cells := 0, slots := 0, locals := 133 })).room s m ([.ref aD] : List Value).toArray below meth c H locs 0 0 Q (F0 m 26 ls [])) → (∀ (H : Heap) (locs : List Loc) (ls : Array Slot), va_P (dC, dI) vwCl [(aD, .inr (1, [.ref aS, .int S, .int S, .ref aB])), (aB, .inl (kB, n, .inl (pcl b T))), (aS, .inr (2, [.ref aV, .int 0, .int 0, .int 0])), (aV, .inl (kV, 72, .inl (pd_by b)))] H → va_D A [(aD, .inr (1, [.ref aS, .int S, .int S, .ref aB])), (aB, .inl (kB, n, .inl (pcl b T))), (aS, .inr (2, [.ref aV, .int 0, .int 0, .int 0])), (aV, .inl (kV, 72, .inl (pd_by b)))] → va_S A s.heap H locs → lv_has ls 4 [(0, .ref aD), (1, .int pos), (2, .int row), (3, .int col)] → W p l e (headSpec (ws_ yX1_place cX1_place 4 none) ({ frames := 6, cells := 0, slots := 0, locals := 133 })).room s m ([.ref aD] : List Value).toArray below meth c H locs 0 0 Q (F0 m 6 ls [])) := by
  intro row col pos T q hT h k
  unfold pm_k1 at h
  intro H locs ls hP hD hS hl
  refine lv_iload_n hx hb dX1_place_6 rfl (lv_at hl 2 rfl) ?_
  refine lv_aload_n hx hb dX1_place_7 rfl (lv_at hl 0 rfl) ?_
  refine va_get (D := (dC, dI)) (ci := 1) (v := .int S) (C := RX1) (T := TX1) (N := 4) hx hb hts in_X1 hown hK hP 0 rfl rfl 1 (by decide) (hts _ q116) (fun _ h9 => h9) rfl dX1_place_8 ?_
  refine lv_icmp_ne (tgt := 26) hx hb dX1_place_11 (by decide) (fun c1 => ?_) (fun c1 => ?_)
  · rw [if_neg (fun z => c1 z.1)] at h
    cases h
    exact k _ _ ls hP hD hS (lv_sub hl [0, 1, 2, 3] rfl)
  · refine lv_iload_n hx hb dX1_place_14 rfl (lv_at hl 3 rfl) ?_
    refine lv_if_ne (tgt := 26) hx hb dX1_place_15 (by decide) (fun c2 => ?_) (fun c2 => ?_)
    · rw [if_neg (fun z => c2 z.2)] at h
      cases h
      exact k _ _ ls hP hD hS (lv_sub hl [0, 1, 2, 3] rfl)
    · rw [if_pos ⟨c1, c2⟩] at h
      obtain ⟨T1, hu, rfl⟩ := ob_m h
      refine lv_aload_n hx hb dX1_place_18 rfl (lv_at hl 0 rfl) ?_
      refine lv_iload_n hx hb dX1_place_19 rfl (lv_at hl 1 rfl) ?_
      refine lv_iinc (v := pos + 1) (lv' := [(1, .int (pos + 1)), (0, .ref aD), (2, .int row), (3, .int col)]) hx hb dX1_place_20 hl (k := 1) rfl rfl (by decide) rfl (fun ls hl => ?_)
      refine pd_goV (ws := [(aD, .inr (1, [.ref aS, .int S, .int S, .ref aB])), (aB, .inl (kB, n, .inl (pcl b T))), (aS, .inr (2, [.ref aV, .int 0, .int 0, .int 0])), (aV, .inl (kV, 72, .inl (pd_by b)))]) (wc := [(aD, .inr (1, [.ref aS, .int S, .int S, .ref aB])), (aB, .inl (kB, n, .inl (pcl b T))), (aS, .inr (2, [.ref aV, .int 0, .int 0, .int 0])), (aV, .inl (kV, 72, .inl (pd_by b)))]) (wr := []) (w1 := [(aD, .inr (1, [.ref aS, .int S, .int S, .ref aB])), (aB, .inl (kB, n, .inl (pcl b T1))), (aS, .inr (2, [.ref aV, .int 0, .int 0, .int 0])), (aV, .inl (kV, 72, .inl (pd_by b)))]) [0, 1, 2, 3] [] hP hD hS hA rfl rfl (by decide) (by decide) (va_runV (As := [.int pos]) (rest := []) ⟨hx, hb, hml, hown, hts⟩ (metX1_corner1 l dC dI _ aD aB aS aV kB kV S n b T T1 pos hb256 hT hu) (cwV 1 hts (lw_V q151 q153 qs0 q17 q154) rfl rfl rfl (by decide +kernel) ⟨Nat.le_of_ble_eq_true rfl, Nat.le_of_ble_eq_true rfl⟩) ⟨pd_Pc.blind, va_recv hK hP (ci := 1) (q0 := 0) rfl rfl, pd_pre [0, 1, 2, 3] [0, 1] hP hK hD hE hS hA rfl (by decide) rfl⟩ rfl rfl hl.1 rfl (lv_room (Nat.le_of_ble_eq_true rfl)) dX1_place_23 ⟨Nat.le_of_ble_eq_true rfl, Nat.le_of_ble_eq_true rfl⟩) (fun H locs hP hD hS => ?_)
      have hP : va_P (dC, dI) vwCl [(aD, .inr (1, [.ref aS, .int S, .int S, .ref aB])), (aB, .inl (kB, n, .inl (pcl b T1))), (aS, .inr (2, [.ref aV, .int 0, .int 0, .int 0])), (aV, .inl (kV, 72, .inl (pd_by b)))] H := hP
      have hD : va_D A [(aD, .inr (1, [.ref aS, .int S, .int S, .ref aB])), (aB, .inl (kB, n, .inl (pcl b T1))), (aS, .inr (2, [.ref aV, .int 0, .int 0, .int 0])), (aV, .inl (kV, 72, .inl (pd_by b)))] := hD
      exact k _ _ ls hP hD hS (lv_sub hl [1, 0, 2, 3] rfl)
set_option maxHeartbeats 4000000 in
set_option maxRecDepth 100000 in
theorem x1p_k2B {l : Launch} {dC : Nat → ClassId} {dI : Nat → Nat → Nat} {p : Program} {e : Env} {s : State} {m : MethodId} {below : List Frame} {meth : Method} {c : Code} {A : Nat → Prop} {aD aB aS aV : Nat} {kB kV : ClassId} {S : Int32} {n : Nat} {b : Nat → Nat} {Q : State → Prop} (hb256 : ∀ j, b j < 256) (hx : p.tables.exec = Jvm.exec) (hb : c.code = cX1_place) (hml : c.maxLocals = 4) (hown : s.vm.findClass RX1 = some m.cls) (hts : ∀ w ∈ lw_all, w.before ([.ref aD] : List Value).toArray s = true) (hK : va_K (dC, dI) vwCl [(kB, .byte), (kV, .byte)] s) (hE : pd_E A s s.heap) (hA : ∀ q : Nat, s.heap.size ≤ q → A q) : ∀ (row col pos : Int32) (T : List pC) (q : Int32 × List pC), T.length = n → pm_k2 S row col pos T = some q → (∀ (H : Heap) (locs : List Loc) (ls : Array Slot), va_P (dC, dI) vwCl [(aD, .inr (1, [.ref aS, .int S, .int S, .ref aB])), (aB, .inl (kB, n, .inl (pcl b q.2))), (aS, .inr (2, [.ref aV, .int 0, .int 0, .int 0])), (aV, .inl (kV, 72, .inl (pd_by b)))] H → va_D A [(aD, .inr (1, [.ref aS, .int S, .int S, .ref aB])), (aB, .inl (kB, n, .inl (pcl b q.2))), (aS, .inr (2, [.ref aV, .int 0, .int 0, .int 0])), (aV, .inl (kV, 72, .inl (pd_by b)))] → va_S A s.heap H locs → lv_has ls 4 [(0, .ref aD), (1, .int q.1), (2, .int row), (3, .int col)] → W p l e (headSpec (ws_ yX1_place cX1_place 4 none) ({ frames := 6, cells := 0, slots := 0, locals := 133 })).room s m ([.ref aD] : List Value).toArray below meth c H locs 0 0 Q (F0 m 57 ls [])) → (∀ (H : Heap) (locs : List Loc) (ls : Array Slot), va_P (dC, dI) vwCl [(aD, .inr (1, [.ref aS, .int S, .int S, .ref aB])), (aB, .inl (kB, n, .inl (pcl b T))), (aS, .inr (2, [.ref aV, .int 0, .int 0, .int 0])), (aV, .inl (kV, 72, .inl (pd_by b)))] H → va_D A [(aD, .inr (1, [.ref aS, .int S, .int S, .ref aB])), (aB, .inl (kB, n, .inl (pcl b T))), (aS, .inr (2, [.ref aV, .int 0, .int 0, .int 0])), (aV, .inl (kV, 72, .inl (pd_by b)))] → va_S A s.heap H locs → lv_has ls 4 [(0, .ref aD), (1, .int pos), (2, .int row), (3, .int col)] → W p l e (headSpec (ws_ yX1_place cX1_place 4 none) ({ frames := 6, cells := 0, slots := 0, locals := 133 })).room s m ([.ref aD] : List Value).toArray below meth c H locs 0 0 Q (F0 m 26 ls [])) := by
  intro row col pos T q hT h k
  unfold pm_k2 at h
  intro H locs ls hP hD hS hl
  refine lv_iload_n hx hb dX1_place_26 rfl (lv_at hl 2 rfl) ?_
  refine lv_aload_n hx hb dX1_place_27 rfl (lv_at hl 0 rfl) ?_
  refine va_get (D := (dC, dI)) (ci := 1) (v := .int S) (C := RX1) (T := TX1) (N := 4) hx hb hts in_X1 hown hK hP 0 rfl rfl 1 (by decide) (hts _ q116) (fun _ h9 => h9) rfl dX1_place_28 ?_
  refine lv_iconst (v := 2) hx hb dX1_place_31 (by decide) ?_
  refine lv_isub hx hb dX1_place_32 ?_
  refine lv_icmp_ne (tgt := 57) hx hb dX1_place_33 (by decide) (fun c1 => ?_) (fun c1 => ?_)
  · rw [if_neg (fun z => c1 z.1)] at h
    cases h
    exact k _ _ ls hP hD hS (lv_sub hl [0, 1, 2, 3] rfl)
  · refine lv_iload_n hx hb dX1_place_36 rfl (lv_at hl 3 rfl) ?_
    refine lv_if_ne (tgt := 57) hx hb dX1_place_37 (by decide) (fun c2 => ?_) (fun c2 => ?_)
    · rw [if_neg (fun z => c2 z.2.1)] at h
      cases h
      exact k _ _ ls hP hD hS (lv_sub hl [0, 1, 2, 3] rfl)
    · refine lv_aload_n hx hb dX1_place_40 rfl (lv_at hl 0 rfl) ?_
      refine va_get (D := (dC, dI)) (ci := 1) (v := .int S) (C := RX1) (T := TX1) (N := 4) hx hb hts in_X1 hown hK hP 0 rfl rfl 2 (by decide) (hts _ q117) (fun _ h9 => h9) rfl dX1_place_41 ?_
      refine lv_iconst (v := 4) hx hb dX1_place_44 (by decide) ?_
      refine lv_irem hx hb dX1_place_45 (by decide) ?_
      refine lv_if_eq (tgt := 57) hx hb dX1_place_46 (by decide) (fun c3 => ?_) (fun c3 => ?_)
      · rw [if_neg (fun z => z.2.2 c3)] at h
        cases h
        exact k _ _ ls hP hD hS (lv_sub hl [0, 1, 2, 3] rfl)
      · rw [if_pos ⟨c1, c2, c3⟩] at h
        obtain ⟨T1, hu, rfl⟩ := ob_m h
        refine lv_aload_n hx hb dX1_place_49 rfl (lv_at hl 0 rfl) ?_
        refine lv_iload_n hx hb dX1_place_50 rfl (lv_at hl 1 rfl) ?_
        refine lv_iinc (v := pos + 1) (lv' := [(1, .int (pos + 1)), (0, .ref aD), (2, .int row), (3, .int col)]) hx hb dX1_place_51 hl (k := 1) rfl rfl (by decide) rfl (fun ls hl => ?_)
        refine pd_goV (ws := [(aD, .inr (1, [.ref aS, .int S, .int S, .ref aB])), (aB, .inl (kB, n, .inl (pcl b T))), (aS, .inr (2, [.ref aV, .int 0, .int 0, .int 0])), (aV, .inl (kV, 72, .inl (pd_by b)))]) (wc := [(aD, .inr (1, [.ref aS, .int S, .int S, .ref aB])), (aB, .inl (kB, n, .inl (pcl b T))), (aS, .inr (2, [.ref aV, .int 0, .int 0, .int 0])), (aV, .inl (kV, 72, .inl (pd_by b)))]) (wr := []) (w1 := [(aD, .inr (1, [.ref aS, .int S, .int S, .ref aB])), (aB, .inl (kB, n, .inl (pcl b T1))), (aS, .inr (2, [.ref aV, .int 0, .int 0, .int 0])), (aV, .inl (kV, 72, .inl (pd_by b)))]) [0, 1, 2, 3] [] hP hD hS hA rfl rfl (by decide) (by decide) (va_runV (As := [.int pos]) (rest := []) ⟨hx, hb, hml, hown, hts⟩ (metX1_corner2 l dC dI _ aD aB aS aV kB kV S n b T T1 pos hb256 hT hu) (cwV 1 hts (lw_V q193 q195 qs3 q17 q196) rfl rfl rfl (by decide +kernel) ⟨Nat.le_of_ble_eq_true rfl, Nat.le_of_ble_eq_true rfl⟩) ⟨pd_Pc.blind, va_recv hK hP (ci := 1) (q0 := 0) rfl rfl, pd_pre [0, 1, 2, 3] [0, 1] hP hK hD hE hS hA rfl (by decide) rfl⟩ rfl rfl hl.1 rfl (lv_room (Nat.le_of_ble_eq_true rfl)) dX1_place_54 ⟨Nat.le_of_ble_eq_true rfl, Nat.le_of_ble_eq_true rfl⟩) (fun H locs hP hD hS => ?_)
        have hP : va_P (dC, dI) vwCl [(aD, .inr (1, [.ref aS, .int S, .int S, .ref aB])), (aB, .inl (kB, n, .inl (pcl b T1))), (aS, .inr (2, [.ref aV, .int 0, .int 0, .int 0])), (aV, .inl (kV, 72, .inl (pd_by b)))] H := hP
        have hD : va_D A [(aD, .inr (1, [.ref aS, .int S, .int S, .ref aB])), (aB, .inl (kB, n, .inl (pcl b T1))), (aS, .inr (2, [.ref aV, .int 0, .int 0, .int 0])), (aV, .inl (kV, 72, .inl (pd_by b)))] := hD
        exact k _ _ ls hP hD hS (lv_sub hl [1, 0, 2, 3] rfl)
set_option maxHeartbeats 4000000 in
set_option maxRecDepth 100000 in
theorem x1p_k3B {l : Launch} {dC : Nat → ClassId} {dI : Nat → Nat → Nat} {p : Program} {e : Env} {s : State} {m : MethodId} {below : List Frame} {meth : Method} {c : Code} {A : Nat → Prop} {aD aB aS aV : Nat} {kB kV : ClassId} {S : Int32} {n : Nat} {b : Nat → Nat} {Q : State → Prop} (hb256 : ∀ j, b j < 256) (hx : p.tables.exec = Jvm.exec) (hb : c.code = cX1_place) (hml : c.maxLocals = 4) (hown : s.vm.findClass RX1 = some m.cls) (hts : ∀ w ∈ lw_all, w.before ([.ref aD] : List Value).toArray s = true) (hK : va_K (dC, dI) vwCl [(kB, .byte), (kV, .byte)] s) (hE : pd_E A s s.heap) (hA : ∀ q : Nat, s.heap.size ≤ q → A q) : ∀ (row col pos : Int32) (T : List pC), ¬ (row = S - 2 ∧ col = 0 ∧ S - S / 8 * 8 = 4) → (∀ (H : Heap) (locs : List Loc) (ls : Array Slot), va_P (dC, dI) vwCl [(aD, .inr (1, [.ref aS, .int S, .int S, .ref aB])), (aB, .inl (kB, n, .inl (pcl b T))), (aS, .inr (2, [.ref aV, .int 0, .int 0, .int 0])), (aV, .inl (kV, 72, .inl (pd_by b)))] H → va_D A [(aD, .inr (1, [.ref aS, .int S, .int S, .ref aB])), (aB, .inl (kB, n, .inl (pcl b T))), (aS, .inr (2, [.ref aV, .int 0, .int 0, .int 0])), (aV, .inl (kV, 72, .inl (pd_by b)))] → va_S A s.heap H locs → lv_has ls 4 [(0, .ref aD), (1, .int pos), (2, .int row), (3, .int col)] → W p l e (headSpec (ws_ yX1_place cX1_place 4 none) ({ frames := 6, cells := 0, slots := 0, locals := 133 })).room s m ([.ref aD] : List Value).toArray below meth c H locs 0 0 Q (F0 m 90 ls [])) → (∀ (H : Heap) (locs : List Loc) (ls : Array Slot), va_P (dC, dI) vwCl [(aD, .inr (1, [.ref aS, .int S, .int S, .ref aB])), (aB, .inl (kB, n, .inl (pcl b T))), (aS, .inr (2, [.ref aV, .int 0, .int 0, .int 0])), (aV, .inl (kV, 72, .inl (pd_by b)))] H → va_D A [(aD, .inr (1, [.ref aS, .int S, .int S, .ref aB])), (aB, .inl (kB, n, .inl (pcl b T))), (aS, .inr (2, [.ref aV, .int 0, .int 0, .int 0])), (aV, .inl (kV, 72, .inl (pd_by b)))] → va_S A s.heap H locs → lv_has ls 4 [(0, .ref aD), (1, .int pos), (2, .int row), (3, .int col)] → W p l e (headSpec (ws_ yX1_place cX1_place 4 none) ({ frames := 6, cells := 0, slots := 0, locals := 133 })).room s m ([.ref aD] : List Value).toArray below meth c H locs 0 0 Q (F0 m 57 ls [])) := by
  intro row col pos T h k
  intro H locs ls hP hD hS hl
  refine lv_iload_n hx hb dX1_place_57 rfl (lv_at hl 2 rfl) ?_
  refine lv_aload_n hx hb dX1_place_58 rfl (lv_at hl 0 rfl) ?_
  refine va_get (D := (dC, dI)) (ci := 1) (v := .int S) (C := RX1) (T := TX1) (N := 4) hx hb hts in_X1 hown hK hP 0 rfl rfl 1 (by decide) (hts _ q116) (fun _ h9 => h9) rfl dX1_place_59 ?_
  refine lv_iconst (v := 2) hx hb dX1_place_62 (by decide) ?_
  refine lv_isub hx hb dX1_place_63 ?_
  refine lv_icmp_ne (tgt := 90) hx hb dX1_place_64 (by decide) (fun c1 => ?_) (fun c1 => ?_)
  · exact k _ _ ls hP hD hS (lv_sub hl [0, 1, 2, 3] rfl)
  · refine lv_iload_n hx hb dX1_place_67 rfl (lv_at hl 3 rfl) ?_
    refine lv_if_ne (tgt := 90) hx hb dX1_place_68 (by decide) (fun c2 => ?_) (fun c2 => ?_)
    · exact k _ _ ls hP hD hS (lv_sub hl [0, 1, 2, 3] rfl)
    · refine lv_aload_n hx hb dX1_place_71 rfl (lv_at hl 0 rfl) ?_
      refine va_get (D := (dC, dI)) (ci := 1) (v := .int S) (C := RX1) (T := TX1) (N := 4) hx hb hts in_X1 hown hK hP 0 rfl rfl 2 (by decide) (hts _ q117) (fun _ h9 => h9) rfl dX1_place_72 ?_
      refine lv_bipush (v := 8) hx hb dX1_place_75 (by decide) ?_
      refine lv_irem hx hb dX1_place_77 (by decide) ?_
      refine lv_iconst (v := 4) hx hb dX1_place_78 (by decide) ?_
      refine lv_icmp_ne (tgt := 90) hx hb dX1_place_79 (by decide) (fun c3 => ?_) (fun c3 => ?_)
      · exact k _ _ ls hP hD hS (lv_sub hl [0, 1, 2, 3] rfl)
      · exact absurd ⟨c1, c2, c3⟩ h
set_option maxHeartbeats 4000000 in
set_option maxRecDepth 100000 in
theorem x1p_k4B {l : Launch} {dC : Nat → ClassId} {dI : Nat → Nat → Nat} {p : Program} {e : Env} {s : State} {m : MethodId} {below : List Frame} {meth : Method} {c : Code} {A : Nat → Prop} {aD aB aS aV : Nat} {kB kV : ClassId} {S : Int32} {n : Nat} {b : Nat → Nat} {Q : State → Prop} (hb256 : ∀ j, b j < 256) (hx : p.tables.exec = Jvm.exec) (hb : c.code = cX1_place) (hml : c.maxLocals = 4) (hown : s.vm.findClass RX1 = some m.cls) (hts : ∀ w ∈ lw_all, w.before ([.ref aD] : List Value).toArray s = true) (hK : va_K (dC, dI) vwCl [(kB, .byte), (kV, .byte)] s) (hE : pd_E A s s.heap) (hA : ∀ q : Nat, s.heap.size ≤ q → A q) : ∀ (row col pos : Int32) (T : List pC), ¬ (row = S + 4 ∧ col = 2 ∧ S - S / 8 * 8 = 0) → (∀ (H : Heap) (locs : List Loc) (ls : Array Slot), va_P (dC, dI) vwCl [(aD, .inr (1, [.ref aS, .int S, .int S, .ref aB])), (aB, .inl (kB, n, .inl (pcl b T))), (aS, .inr (2, [.ref aV, .int 0, .int 0, .int 0])), (aV, .inl (kV, 72, .inl (pd_by b)))] H → va_D A [(aD, .inr (1, [.ref aS, .int S, .int S, .ref aB])), (aB, .inl (kB, n, .inl (pcl b T))), (aS, .inr (2, [.ref aV, .int 0, .int 0, .int 0])), (aV, .inl (kV, 72, .inl (pd_by b)))] → va_S A s.heap H locs → lv_has ls 4 [(0, .ref aD), (1, .int pos), (2, .int row), (3, .int col)] → W p l e (headSpec (ws_ yX1_place cX1_place 4 none) ({ frames := 6, cells := 0, slots := 0, locals := 133 })).room s m ([.ref aD] : List Value).toArray below meth c H locs 0 0 Q (F0 m 123 ls [])) → (∀ (H : Heap) (locs : List Loc) (ls : Array Slot), va_P (dC, dI) vwCl [(aD, .inr (1, [.ref aS, .int S, .int S, .ref aB])), (aB, .inl (kB, n, .inl (pcl b T))), (aS, .inr (2, [.ref aV, .int 0, .int 0, .int 0])), (aV, .inl (kV, 72, .inl (pd_by b)))] H → va_D A [(aD, .inr (1, [.ref aS, .int S, .int S, .ref aB])), (aB, .inl (kB, n, .inl (pcl b T))), (aS, .inr (2, [.ref aV, .int 0, .int 0, .int 0])), (aV, .inl (kV, 72, .inl (pd_by b)))] → va_S A s.heap H locs → lv_has ls 4 [(0, .ref aD), (1, .int pos), (2, .int row), (3, .int col)] → W p l e (headSpec (ws_ yX1_place cX1_place 4 none) ({ frames := 6, cells := 0, slots := 0, locals := 133 })).room s m ([.ref aD] : List Value).toArray below meth c H locs 0 0 Q (F0 m 90 ls [])) := by
  intro row col pos T h k
  intro H locs ls hP hD hS hl
  refine lv_iload_n hx hb dX1_place_90 rfl (lv_at hl 2 rfl) ?_
  refine lv_aload_n hx hb dX1_place_91 rfl (lv_at hl 0 rfl) ?_
  refine va_get (D := (dC, dI)) (ci := 1) (v := .int S) (C := RX1) (T := TX1) (N := 4) hx hb hts in_X1 hown hK hP 0 rfl rfl 1 (by decide) (hts _ q116) (fun _ h9 => h9) rfl dX1_place_92 ?_
  refine lv_iconst (v := 4) hx hb dX1_place_95 (by decide) ?_
  refine lv_iadd hx hb dX1_place_96 ?_
  refine lv_icmp_ne (tgt := 123) hx hb dX1_place_97 (by decide) (fun c1 => ?_) (fun c1 => ?_)
  · exact k _ _ ls hP hD hS (lv_sub hl [0, 1, 2, 3] rfl)
  · refine lv_iload_n hx hb dX1_place_100 rfl (lv_at hl 3 rfl) ?_
    refine lv_iconst (v := 2) hx hb dX1_place_101 (by decide) ?_
    refine lv_icmp_ne (tgt := 123) hx hb dX1_place_102 (by decide) (fun c2 => ?_) (fun c2 => ?_)
    · exact k _ _ ls hP hD hS (lv_sub hl [0, 1, 2, 3] rfl)
    · refine lv_aload_n hx hb dX1_place_105 rfl (lv_at hl 0 rfl) ?_
      refine va_get (D := (dC, dI)) (ci := 1) (v := .int S) (C := RX1) (T := TX1) (N := 4) hx hb hts in_X1 hown hK hP 0 rfl rfl 2 (by decide) (hts _ q117) (fun _ h9 => h9) rfl dX1_place_106 ?_
      refine lv_bipush (v := 8) hx hb dX1_place_109 (by decide) ?_
      refine lv_irem hx hb dX1_place_111 (by decide) ?_
      refine lv_if_ne (tgt := 123) hx hb dX1_place_112 (by decide) (fun c3 => ?_) (fun c3 => ?_)
      · exact k _ _ ls hP hD hS (lv_sub hl [0, 1, 2, 3] rfl)
      · exact absurd ⟨c1, c2, c3⟩ h
set_option maxHeartbeats 4000000 in
set_option maxRecDepth 100000 in
theorem x1p_fix {l : Launch} {dC : Nat → ClassId} {dI : Nat → Nat → Nat} {p : Program} {e : Env} {s : State} {m : MethodId} {below : List Frame} {meth : Method} {c : Code} {A : Nat → Prop} {aD aB aS aV : Nat} {kB kV : ClassId} {S : Int32} {n : Nat} {b : Nat → Nat} {Tf : List pC} (hb256 : ∀ j, b j < 256) (hx : p.tables.exec = Jvm.exec) (hb : c.code = cX1_place) (hml : c.maxLocals = 4) (hown : s.vm.findClass RX1 = some m.cls) (hts : ∀ w ∈ lw_all, w.before ([.ref aD] : List Value).toArray s = true) (hK : va_K (dC, dI) vwCl [(kB, .byte), (kV, .byte)] s) (hE : pd_E A s s.heap) (hA : ∀ q : Nat, s.heap.size ≤ q → A q) (hr : meth.sig.returnType = none) (hlocks : meth.locks = false) : ∀ (row col pos : Int32) (T : List pC), T.length = n → pm_fix S T = some Tf → (∀ (H : Heap) (locs : List Loc) (ls : Array Slot), va_P (dC, dI) vwCl [(aD, .inr (1, [.ref aS, .int S, .int S, .ref aB])), (aB, .inl (kB, n, .inl (pcl b T))), (aS, .inr (2, [.ref aV, .int 0, .int 0, .int 0])), (aV, .inl (kV, 72, .inl (pd_by b)))] H → va_D A [(aD, .inr (1, [.ref aS, .int S, .int S, .ref aB])), (aB, .inl (kB, n, .inl (pcl b T))), (aS, .inr (2, [.ref aV, .int 0, .int 0, .int 0])), (aV, .inl (kV, 72, .inl (pd_by b)))] → va_S A s.heap H locs → lv_has ls 4 [(0, .ref aD), (1, .int pos), (2, .int row), (3, .int col)] → W p l e (headSpec (ws_ yX1_place cX1_place 4 none) ({ frames := 6, cells := 0, slots := 0, locals := 133 })).room s m ([.ref aD] : List Value).toArray below meth c H locs 0 0 (MQ below (pd_Qv (dC, dI) [(aD, .inr (1, [.ref aS, .int S, .int S, .ref aB])), (aB, .inl (kB, n, .inl (pcl b Tf))), (aS, .inr (2, [.ref aV, .int 0, .int 0, .int 0])), (aV, .inl (kV, 72, .inl (pd_by b)))] A) ([.ref aD] : List Value).toArray s 0 0 A) (F0 m 249 ls [])) := by
  intro row col pos T hT h
  intro H locs ls hP hD hS hl
  obtain ⟨hin, hq⟩ := pm_fix_spec h
  rw [hT] at hin
  refine lv_aload_n hx hb dX1_place_249 rfl (lv_at hl 0 rfl) ?_
  refine lv_aload_n hx hb dX1_place_250 rfl (lv_at hl 0 rfl) ?_
  refine va_get (D := (dC, dI)) (ci := 1) (v := .int S) (C := RX1) (T := TX1) (N := 4) hx hb hts in_X1 hown hK hP 0 rfl rfl 2 (by decide) (hts _ q117) (fun _ h9 => h9) rfl dX1_place_251 ?_
  refine lv_iconst (v := 1) hx hb dX1_place_254 (by decide) ?_
  refine lv_isub hx hb dX1_place_255 ?_
  refine lv_aload_n hx hb dX1_place_256 rfl (lv_at hl 0 rfl) ?_
  refine va_get (D := (dC, dI)) (ci := 1) (v := .int S) (C := RX1) (T := TX1) (N := 4) hx hb hts in_X1 hown hK hP 0 rfl rfl 1 (by decide) (hts _ q116) (fun _ h9 => h9) rfl dX1_place_257 ?_
  refine lv_iconst (v := 1) hx hb dX1_place_260 (by decide) ?_
  refine lv_isub hx hb dX1_place_261 ?_
  refine pd_read (v := (if pcl b T ((S - 1) * S + (S - 1)).toNatClampNeg < 0 then 1 else 0)) (W.runV (As := [.int (S - 1), .int (S - 1)]) (rest := []) ⟨hx, hb, hml, hown, hts⟩ (metX1_noBit l dC dI aD aB aS kB S n (pcl b T) (S - 1) (S - 1) hin) (cwV 2 hts (lw_V q205 q207 qs6 q17 q208) rfl rfl rfl (by decide +kernel) ⟨Nat.le_of_ble_eq_true rfl, Nat.le_of_ble_eq_true rfl⟩) ⟨pd_Pr.blind, va_recv hK hP (ci := 1) (q0 := 0) rfl rfl, pd_prer [0, 1] [0] hP hK hE hS rfl rfl⟩ rfl rfl hl.1 rfl (lv_room (Nat.le_of_ble_eq_true rfl)) dX1_place_262 ⟨Nat.le_of_ble_eq_true rfl, Nat.le_of_ble_eq_true rfl⟩) ?_
  rcases hq with ⟨d, hin2, e1⟩ | ⟨d, e1⟩
  · rw [e1, if_pos (show pcl b T ((S - 1) * S + (S - 1)).toNatClampNeg < 0 from pm_cv_free.mpr d)]
    refine lv_if_eq (tgt := 302) hx hb dX1_place_265 (by decide) (fun c2 => ?_) (fun c2 => ?_)
    · exact absurd c2 (by decide)
    · rw [hT] at hin2
      refine lv_aload_n hx hb dX1_place_268 rfl (lv_at hl 0 rfl) ?_
      refine lv_aload_n hx hb dX1_place_269 rfl (lv_at hl 0 rfl) ?_
      refine va_get (D := (dC, dI)) (ci := 1) (v := .int S) (C := RX1) (T := TX1) (N := 4) hx hb hts in_X1 hown hK hP 0 rfl rfl 2 (by decide) (hts _ q117) (fun _ h9 => h9) rfl dX1_place_270 ?_
      refine lv_iconst (v := 1) hx hb dX1_place_273 (by decide) ?_
      refine lv_isub hx hb dX1_place_274 ?_
      refine lv_aload_n hx hb dX1_place_275 rfl (lv_at hl 0 rfl) ?_
      refine va_get (D := (dC, dI)) (ci := 1) (v := .int S) (C := RX1) (T := TX1) (N := 4) hx hb hts in_X1 hown hK hP 0 rfl rfl 1 (by decide) (hts _ q116) (fun _ h9 => h9) rfl dX1_place_276 ?_
      refine lv_iconst (v := 1) hx hb dX1_place_279 (by decide) ?_
      refine lv_isub hx hb dX1_place_280 ?_
      refine lv_iconst (v := 1) hx hb dX1_place_281 (by decide) ?_
      refine pd_goV (ws := [(aD, .inr (1, [.ref aS, .int S, .int S, .ref aB])), (aB, .inl (kB, n, .inl (pcl b T))), (aS, .inr (2, [.ref aV, .int 0, .int 0, .int 0])), (aV, .inl (kV, 72, .inl (pd_by b)))]) (wc := [(aD, .inr (1, [.ref aS, .int S, .int S, .ref aB])), (aB, .inl (kB, n, .inl (pcl b T)))]) (wr := [(aS, .inr (2, [.ref aV, .int 0, .int 0, .int 0])), (aV, .inl (kV, 72, .inl (pd_by b)))]) (w1 := [(aD, .inr (1, [.ref aS, .int S, .int S, .ref aB])), (aB, .inl (kB, n, .inl (upd (pcl b T) ((S - 1) * S + (S - 1)).toNatClampNeg (if (1 : Int32) = 0 then 0 else 1))))]) [0, 1] [2, 3] hP hD hS hA rfl rfl (by decide) (by decide) (va_runV (As := [.int (S - 1), .int (S - 1), .int 1]) (rest := []) ⟨hx, hb, hml, hown, hts⟩ (metX1_setBit l dC dI _ aD aB aS kB S n (pcl b T) (S - 1) (S - 1) 1 hin) (cwV 3 hts (lw_V q189 q191 qs2 q17 q192) rfl rfl rfl (by decide +kernel) ⟨Nat.le_of_ble_eq_true rfl, Nat.le_of_ble_eq_true rfl⟩) ⟨pd_Pc.blind, va_recv hK hP (ci := 1) (q0 := 0) rfl rfl, pd_pre [0, 1] [0] hP hK hD hE hS hA rfl (by decide) rfl⟩ rfl rfl hl.1 rfl (lv_room (Nat.le_of_ble_eq_true rfl)) dX1_place_282 ⟨Nat.le_of_ble_eq_true rfl, Nat.le_of_ble_eq_true rfl⟩) (fun H locs hP hD hS => ?_)
      have hP : va_P (dC, dI) vwCl [(aS, .inr (2, [.ref aV, .int 0, .int 0, .int 0])), (aV, .inl (kV, 72, .inl (pd_by b))), (aD, .inr (1, [.ref aS, .int S, .int S, .ref aB])), (aB, .inl (kB, n, .inl (upd (pcl b T) ((S - 1) * S + (S - 1)).toNatClampNeg (if (1 : Int32) = 0 then 0 else 1))))] H := hP
      have hD : va_D A [(aS, .inr (2, [.ref aV, .int 0, .int 0, .int 0])), (aV, .inl (kV, 72, .inl (pd_by b))), (aD, .inr (1, [.ref aS, .int S, .int S, .ref aB])), (aB, .inl (kB, n, .inl (upd (pcl b T) ((S - 1) * S + (S - 1)).toNatClampNeg (if (1 : Int32) = 0 then 0 else 1))))] := hD
      rw [if_neg (show ¬ (1 : Int32) = 0 by decide), pcl_set (T := T) (c := pcF) (by rw [hT]; exact vp_lt hin) (pm_cvF b).symm] at hP hD
      have hP := hP.sub (ws' := [(aD, .inr (1, [.ref aS, .int S, .int S, .ref aB])), (aB, .inl (kB, n, .inl (pcl b (T.set ((S - 1) * S + (S - 1)).toNatClampNeg pcF)))), (aS, .inr (2, [.ref aV, .int 0, .int 0, .int 0])), (aV, .inl (kV, 72, .inl (pd_by b)))]) [2, 3, 0, 1] rfl
      have hD := hD.sub (ws' := [(aD, .inr (1, [.ref aS, .int S, .int S, .ref aB])), (aB, .inl (kB, n, .inl (pcl b (T.set ((S - 1) * S + (S - 1)).toNatClampNeg pcF)))), (aS, .inr (2, [.ref aV, .int 0, .int 0, .int 0])), (aV, .inl (kV, 72, .inl (pd_by b)))]) [2, 3, 0, 1] (by decide) rfl
      refine lv_aload_n hx hb dX1_place_285 rfl (lv_at hl 0 rfl) ?_
      refine lv_aload_n hx hb dX1_place_286 rfl (lv_at hl 0 rfl) ?_
      refine va_get (D := (dC, dI)) (ci := 1) (v := .int S) (C := RX1) (T := TX1) (N := 4) hx hb hts in_X1 hown hK hP 0 rfl rfl 2 (by decide) (hts _ q117) (fun _ h9 => h9) rfl dX1_place_287 ?_
      refine lv_iconst (v := 2) hx hb dX1_place_290 (by decide) ?_
      refine lv_isub hx hb dX1_place_291 ?_
      refine lv_aload_n hx hb dX1_place_292 rfl (lv_at hl 0 rfl) ?_
      refine va_get (D := (dC, dI)) (ci := 1) (v := .int S) (C := RX1) (T := TX1) (N := 4) hx hb hts in_X1 hown hK hP 0 rfl rfl 1 (by decide) (hts _ q116) (fun _ h9 => h9) rfl dX1_place_293 ?_
      refine lv_iconst (v := 2) hx hb dX1_place_296 (by decide) ?_
      refine lv_isub hx hb dX1_place_297 ?_
      refine lv_iconst (v := 1) hx hb dX1_place_298 (by decide) ?_
      refine pd_goV (ws := [(aD, .inr (1, [.ref aS, .int S, .int S, .ref aB])), (aB, .inl (kB, n, .inl (pcl b (T.set ((S - 1) * S + (S - 1)).toNatClampNeg pcF)))), (aS, .inr (2, [.ref aV, .int 0, .int 0, .int 0])), (aV, .inl (kV, 72, .inl (pd_by b)))]) (wc := [(aD, .inr (1, [.ref aS, .int S, .int S, .ref aB])), (aB, .inl (kB, n, .inl (pcl b (T.set ((S - 1) * S + (S - 1)).toNatClampNeg pcF))))]) (wr := [(aS, .inr (2, [.ref aV, .int 0, .int 0, .int 0])), (aV, .inl (kV, 72, .inl (pd_by b)))]) (w1 := [(aD, .inr (1, [.ref aS, .int S, .int S, .ref aB])), (aB, .inl (kB, n, .inl (upd (pcl b (T.set ((S - 1) * S + (S - 1)).toNatClampNeg pcF)) ((S - 2) * S + (S - 2)).toNatClampNeg (if (1 : Int32) = 0 then 0 else 1))))]) [0, 1] [2, 3] hP hD hS hA rfl rfl (by decide) (by decide) (va_runV (As := [.int (S - 2), .int (S - 2), .int 1]) (rest := []) ⟨hx, hb, hml, hown, hts⟩ (metX1_setBit l dC dI _ aD aB aS kB S n (pcl b (T.set ((S - 1) * S + (S - 1)).toNatClampNeg pcF)) (S - 2) (S - 2) 1 hin2) (cwV 3 hts (lw_V q189 q191 qs2 q17 q192) rfl rfl rfl (by decide +kernel) ⟨Nat.le_of_ble_eq_true rfl, Nat.le_of_ble_eq_true rfl⟩) ⟨pd_Pc.blind, va_recv hK hP (ci := 1) (q0 := 0) rfl rfl, pd_pre [0, 1] [0] hP hK hD hE hS hA rfl (by decide) rfl⟩ rfl rfl hl.1 rfl (lv_room (Nat.le_of_ble_eq_true rfl)) dX1_place_299 ⟨Nat.le_of_ble_eq_true rfl, Nat.le_of_ble_eq_true rfl⟩) (fun H locs hP hD hS => ?_)
      have hP : va_P (dC, dI) vwCl [(aS, .inr (2, [.ref aV, .int 0, .int 0, .int 0])), (aV, .inl (kV, 72, .inl (pd_by b))), (aD, .inr (1, [.ref aS, .int S, .int S, .ref aB])), (aB, .inl (kB, n, .inl (upd (pcl b (T.set ((S - 1) * S + (S - 1)).toNatClampNeg pcF)) ((S - 2) * S + (S - 2)).toNatClampNeg (if (1 : Int32) = 0 then 0 else 1))))] H := hP
      have hD : va_D A [(aS, .inr (2, [.ref aV, .int 0, .int 0, .int 0])), (aV, .inl (kV, 72, .inl (pd_by b))), (aD, .inr (1, [.ref aS, .int S, .int S, .ref aB])), (aB, .inl (kB, n, .inl (upd (pcl b (T.set ((S - 1) * S + (S - 1)).toNatClampNeg pcF)) ((S - 2) * S + (S - 2)).toNatClampNeg (if (1 : Int32) = 0 then 0 else 1))))] := hD
      rw [if_neg (show ¬ (1 : Int32) = 0 by decide), pcl_set (T := (T.set ((S - 1) * S + (S - 1)).toNatClampNeg pcF)) (c := pcF) (by rw [List.length_set]; rw [hT]; exact vp_lt hin2) (pm_cvF b).symm] at hP hD
      have hP := hP.sub (ws' := [(aD, .inr (1, [.ref aS, .int S, .int S, .ref aB])), (aB, .inl (kB, n, .inl (pcl b ((T.set ((S - 1) * S + (S - 1)).toNatClampNeg pcF).set ((S - 2) * S + (S - 2)).toNatClampNeg pcF)))), (aS, .inr (2, [.ref aV, .int 0, .int 0, .int 0])), (aV, .inl (kV, 72, .inl (pd_by b)))]) [2, 3, 0, 1] rfl
      have hD := hD.sub (ws' := [(aD, .inr (1, [.ref aS, .int S, .int S, .ref aB])), (aB, .inl (kB, n, .inl (pcl b ((T.set ((S - 1) * S + (S - 1)).toNatClampNeg pcF).set ((S - 2) * S + (S - 2)).toNatClampNeg pcF)))), (aS, .inr (2, [.ref aV, .int 0, .int 0, .int 0])), (aV, .inl (kV, 72, .inl (pd_by b)))]) [2, 3, 0, 1] (by decide) rfl
      exact W.vret hx hb hr (fun t ht hW => ⟨⟨(), rfl, trivial, by rw [ht]; exact hP, hD⟩, hS.F ht⟩) hS.2.2 dX1_place_302
  · rw [e1, if_neg (show ¬ pcl b T ((S - 1) * S + (S - 1)).toNatClampNeg < 0 from fun z => d (pm_cv_free.mp z))]
    refine lv_if_eq (tgt := 302) hx hb dX1_place_265 (by decide) (fun c3 => ?_) (fun c3 => ?_)
    · exact W.vret hx hb hr (fun t ht hW => ⟨⟨(), rfl, trivial, by rw [ht]; exact hP, hD⟩, hS.F ht⟩) hS.2.2 dX1_place_302
    · exact absurd rfl c3
set_option maxHeartbeats 4000000 in
set_option maxRecDepth 100000 in
theorem x1p_main {l : Launch} {dC : Nat → ClassId} {dI : Nat → Nat → Nat} {p : Program} {e : Env} {s : State} {m : MethodId} {below : List Frame} {meth : Method} {c : Code} {A : Nat → Prop} {aD aB aS aV : Nat} {kB kV : ClassId} {S : Int32} {n : Nat} {b : Nat → Nat} {Tf : List pC} (hb256 : ∀ j, b j < 256) (hx : p.tables.exec = Jvm.exec) (hb : c.code = cX1_place) (hml : c.maxLocals = 4) (hown : s.vm.findClass RX1 = some m.cls) (hts : ∀ w ∈ lw_all, w.before ([.ref aD] : List Value).toArray s = true) (hK : va_K (dC, dI) vwCl [(kB, .byte), (kV, .byte)] s) (hE : pd_E A s s.heap) (hA : ∀ q : Nat, s.heap.size ≤ q → A q) (hr : meth.sig.returnType = none) (hlocks : meth.locks = false) : ∀ (k : Nat) (row col pos : Int32) (T : List pC), T.length = n → pm_main S k row col pos T = some Tf → (∀ (H : Heap) (locs : List Loc) (ls : Array Slot), va_P (dC, dI) vwCl [(aD, .inr (1, [.ref aS, .int S, .int S, .ref aB])), (aB, .inl (kB, n, .inl (pcl b T))), (aS, .inr (2, [.ref aV, .int 0, .int 0, .int 0])), (aV, .inl (kV, 72, .inl (pd_by b)))] H → va_D A [(aD, .inr (1, [.ref aS, .int S, .int S, .ref aB])), (aB, .inl (kB, n, .inl (pcl b T))), (aS, .inr (2, [.ref aV, .int 0, .int 0, .int 0])), (aV, .inl (kV, 72, .inl (pd_by b)))] → va_S A s.heap H locs → lv_has ls 4 [(0, .ref aD), (1, .int pos), (2, .int row), (3, .int col)] → W p l e (headSpec (ws_ yX1_place cX1_place 4 none) ({ frames := 6, cells := 0, slots := 0, locals := 133 })).room s m ([.ref aD] : List Value).toArray below meth c H locs 0 0 (MQ below (pd_Qv (dC, dI) [(aD, .inr (1, [.ref aS, .int S, .int S, .ref aB])), (aB, .inl (kB, n, .inl (pcl b Tf))), (aS, .inr (2, [.ref aV, .int 0, .int 0, .int 0])), (aV, .inl (kV, 72, .inl (pd_by b)))] A) ([.ref aD] : List Value).toArray s 0 0 A) (F0 m 6 ls [])) := by
  intro k
  induction k with
  | zero =>
    intro row col pos T hT h
    rw [pm_main_0] at h
    cases h
  | succ k ih =>
    intro row col pos T hT h
    obtain ⟨a, d, u, v, h1, h2, h3, h4, h5, h6, h⟩ := pm_main_s h
    have ha := (pm_k1_len h1).trans hT
    have hd := (pm_k2_len h2).trans ha
    have hu := (pm_up_len 12 h5).trans hd
    have hv := (pm_dn_len 12 h6).trans hu
    refine x1p_k1B hb256 hx hb hml hown hts hK hE hA row col pos T a hT h1 (x1p_k2B hb256 hx hb hml hown hts hK hE hA row col a.1 a.2 d ha h2 (x1p_k3B hb256 hx hb hml hown hts hK hE hA row col d.1 d.2 h3 (x1p_k4B hb256 hx hb hml hown hts hK hE hA row col d.1 d.2 h4 (x1p_up hb256 hx hb hml hown hts hK hE hA 12 row col d.1 d.2 u hd h5 ?_))))
    intro H locs ls hP hD hS hl
    refine lv_iinc (v := u.1 + 1) (lv' := [(2, .int (u.1 + 1)), (0, .ref aD), (1, .int u.2.2.1), (3, .int u.2.1)]) hx hb dX1_place_172 hl (k := 2) rfl rfl (by decide) rfl (fun ls hl => ?_)
    refine lv_iinc (v := u.2.1 + 3) (lv' := [(3, .int (u.2.1 + 3)), (2, .int (u.1 + 1)), (0, .ref aD), (1, .int u.2.2.1)]) hx hb dX1_place_175 hl (k := 3) rfl rfl (by decide) rfl (fun ls hl => ?_)
    refine x1p_dn hb256 hx hb hml hown hts hK hE hA 12 (u.1 + 1) (u.2.1 + 3) u.2.2.1 u.2.2.2 v hu h6 ?_ _ _ ls hP hD hS (lv_sub hl [2, 3, 1, 0] rfl)
    intro H locs ls hP hD hS hl
    refine lv_iinc (v := v.1 + 3) (lv' := [(2, .int (v.1 + 3)), (0, .ref aD), (1, .int v.2.2.1), (3, .int v.2.1)]) hx hb dX1_place_227 hl (k := 2) rfl rfl (by decide) rfl (fun ls hl => ?_)
    refine lv_iinc (v := v.2.1 + 1) (lv' := [(3, .int (v.2.1 + 1)), (2, .int (v.1 + 3)), (0, .ref aD), (1, .int v.2.2.1)]) hx hb dX1_place_230 hl (k := 3) rfl rfl (by decide) rfl (fun ls hl => ?_)
    refine lv_iload_n hx hb dX1_place_233 rfl (lv_at hl 1 rfl) ?_
    refine lv_aload_n hx hb dX1_place_234 rfl (lv_at hl 2 rfl) ?_
    refine va_get (D := (dC, dI)) (ci := 1) (v := .int S) (C := RX1) (T := TX1) (N := 4) hx hb hts in_X1 hown hK hP 0 rfl rfl 1 (by decide) (hts _ q116) (fun _ h9 => h9) rfl dX1_place_235 ?_
    refine lv_icmp_lt (tgt := 6) hx hb dX1_place_238 (by decide) (fun c1 => ?_) (fun c1 => ?_)
    · rw [if_pos (Or.inl c1)] at h
      exact ih _ _ _ _ hv h _ _ ls hP hD hS (lv_sub hl [2, 3, 1, 0] rfl)
    · refine lv_iload_n hx hb dX1_place_241 rfl (lv_at hl 0 rfl) ?_
      refine lv_aload_n hx hb dX1_place_242 rfl (lv_at hl 2 rfl) ?_
      refine va_get (D := (dC, dI)) (ci := 1) (v := .int S) (C := RX1) (T := TX1) (N := 4) hx hb hts in_X1 hown hK hP 0 rfl rfl 2 (by decide) (hts _ q117) (fun _ h9 => h9) rfl dX1_place_243 ?_
      refine lv_icmp_lt (tgt := 6) hx hb dX1_place_246 (by decide) (fun c2 => ?_) (fun c2 => ?_)
      · rw [if_pos (Or.inr c2)] at h
        exact ih _ _ _ _ hv h _ _ ls hP hD hS (lv_sub hl [2, 3, 1, 0] rfl)
      · rw [if_neg (fun z => z.elim c1 c2)] at h
        exact x1p_fix hb256 hx hb hml hown hts hK hE hA hr hlocks _ _ _ _ hv h _ _ ls hP hD hS (lv_sub hl [2, 3, 1, 0] rfl)
set_option maxHeartbeats 4000000 in
set_option maxRecDepth 100000 in
/-- the whole placement -/
theorem metX1_place (l : Launch) (dC : Nat → ClassId) (dI : Nat → Nat → Nat) (sz : Nat) (aD aB aS aV : Nat) (kB kV : ClassId) (S : Int32) (n : Nat) (b : Nat → Nat) (T Tf : List pC) (hb256 : ∀ j, b j < 256) (hT : T.length = n) (h : pm_main S 8 4 0 0 T = some Tf) : Met l yX1_place (ws_ yX1_place cX1_place 4 none) ({ frames := 6, cells := 0, slots := 0, locals := 133 }) (pd_Pc [.ref aD] (dC, dI) [(aD, .inr (1, [.ref aS, .int S, .int S, .ref aB])), (aB, .inl (kB, n, .inl (pcl b T))), (aS, .inr (2, [.ref aV, .int 0, .int 0, .int 0])), (aV, .inl (kV, 72, .inl (pd_by b)))] [(kB, .byte), (kV, .byte)] sz) (pd_Qv (dC, dI) [(aD, .inr (1, [.ref aS, .int S, .int S, .ref aB])), (aB, .inl (kB, n, .inl (pcl b Tf))), (aS, .inr (2, [.ref aV, .int 0, .int 0, .int 0])), (aV, .inl (kV, 72, .inl (pd_by b)))] (va_A [(aD, .inr (1, [.ref aS, .int S, .int S, .ref aB])), (aB, .inl (kB, n, .inl (pcl b T))), (aS, .inr (2, [.ref aV, .int 0, .int 0, .int 0])), (aV, .inl (kV, 72, .inl (pd_by b)))] sz)) 0 0 (va_A [(aD, .inr (1, [.ref aS, .int S, .int S, .ref aB])), (aB, .inl (kB, n, .inl (pcl b T))), (aS, .inr (2, [.ref aV, .int 0, .int 0, .int 0])), (aV, .inl (kV, 72, .inl (pd_by b)))] sz) := by
  refine Met.ofW (cc := cX1_place) (maxL := 4) (ret := none) (by decide) rfl ?_
  intro p e s m args below meth c s₁ B hml hv
  obtain ⟨rfl, hsz, hP, hK, hD0, hE⟩ := hv
  have hx := B.exec
  have hb := B.bytes
  have hr := B.returns
  have hts := atoms_spec (ws := ws_ yX1_place cX1_place 4 none) B.pre
  have hts : ∀ w ∈ lw_all, w.before _ s = true := fun w h => hts w (List.mem_cons_of_mem _ h)
  have hown : s.vm.findClass RX1 = some m.cls := findClass_of_methodNamed B.named
  have hlocks := B.notSynchronized
  subst hsz
  have hD := hD0.self (sz := s.heap.size)
  generalize hAe : va_A [(aD, .inr (1, [.ref aS, .int S, .int S, .ref aB])), (aB, .inl (kB, n, .inl (pcl b T))), (aS, .inr (2, [.ref aV, .int 0, .int 0, .int 0])), (aV, .inl (kV, 72, .inl (pd_by b)))] s.heap.size = A at hD hE ⊢
  have hA : ∀ q : Nat, s.heap.size ≤ q → A q := fun q h => by rw [← hAe]; exact Or.inr h
  have hS : va_S A s.heap s.heap [] := va_S.rf
  have hP : va_P (dC, dI) vwCl [(aD, .inr (1, [.ref aS, .int S, .int S, .ref aB])), (aB, .inl (kB, n, .inl (pcl b T))), (aS, .inr (2, [.ref aV, .int 0, .int 0, .int 0])), (aV, .inl (kV, 72, .inl (pd_by b)))] s.heap := hP
  have hl := lv_entry ([.ref aD]) (n := 4) (Nat.le_of_ble_eq_true rfl)
  rw [lg_entry_eq]
  generalize (lg_sl ([.ref aD]) ++ List.replicate (4 - (lg_sl ([.ref aD])).length) Slot.unset).toArray = ls at hl ⊢
  have hl : lv_has ls 4 [(0, .ref aD)] := hl
  refine lv_iconst (v := 0) hx hb dX1_place_0 (by decide) ?_
  refine lv_istore_n (lv' := [(1, .int 0), (0, .ref aD)]) hx hb dX1_place_1 rfl hl (by decide) rfl (fun ls hl => ?_)
  refine lv_iconst (v := 4) hx hb dX1_place_2 (by decide) ?_
  refine lv_istore_n (lv' := [(2, .int 4), (1, .int 0), (0, .ref aD)]) hx hb dX1_place_3 rfl hl (by decide) rfl (fun ls hl => ?_)
  refine lv_iconst (v := 0) hx hb dX1_place_4 (by decide) ?_
  refine lv_istore_n (lv' := [(3, .int 0), (2, .int 4), (1, .int 0), (0, .ref aD)]) hx hb dX1_place_5 rfl hl (by decide) rfl (fun ls hl => ?_)
  exact x1p_main hb256 hx hb hml hown hts hK hE hA hr hlocks 8 4 0 0 T hT h _ _ ls hP hD hS (lv_sub hl [3, 2, 1, 0] rfl)
end
section
/-! PlacementDesk -/
/-- the side that a kind asks -/
def pd_sd (kind : Int32) : Int32 := 8 + 2 * (kind &&& 3)
theorem pd_sd_S (kind : Int32) : pm_S (pd_sd kind) := by
  obtain ⟨j, hj, e⟩ := pk_andE kind (m := 3) 2 (by decide +kernel)
  unfold pd_sd pm_S
  rw [e]
  rcases (show j = 0 ∨ j = 1 ∨ j = 2 ∨ j = 3 by omega) with rfl | rfl | rfl | rfl <;> decide +kernel
theorem pm_S_ne {S : Int32} (h : pm_S S) : ¬ S = 0 := by
  rcases h with rfl | rfl | rfl | rfl <;> decide +kernel
/-- what put stores, and where -/
def pd_v (v : Int32) : Nat := v.toBitVec.toNat % 2 ^ 8
theorem pd_v_lt (v : Int32) : pd_v v < 256 := Nat.mod_lt _ (by decide)
theorem pd_v_e (v : Int32) : v &&& 255 = nI (pd_v v) := pk_and v 8 (by decide +kernel)
def pd_at (x : Int32) : Nat := ((x &&& 2147483647) - (x &&& 2147483647) / 72 * 72).toNatClampNeg
theorem pd_vc (v : Int32) : vp_nar .char (v &&& 255) = v &&& 255 := by
  unfold vp_nar
  rw [sc_nar]
theorem pd_wd0 : pd_wd (fun _ => 0) = fun _ => 0 := rfl
set_option maxHeartbeats 4000000 in
set_option maxRecDepth 100000 in
/-- the side -/
theorem metX0_side (l : Launch) (dC : Nat → ClassId) (dI : Nat → Nat → Nat) (aX aC aD : Nat) (S : Int32) : Met l yX0_side (ws_ yX0_side cX0_side 1 (some .int)) ({ frames := 0, cells := 0, slots := 0, locals := 0 }) (pd_Pr [.ref aX] (dC, dI) [(aX, .inr (0, [.ref aC, .ref aD, .int S]))] []) (vp_Si (fun r => r = S)) 0 0 (fun _ => False) := by
  refine Met.ofW (cc := cX0_side) (maxL := 1) (ret := (some .int)) (by decide) rfl ?_
  intro p e s m args below meth c s₁ B hml hv
  obtain ⟨rfl, hP, hK, hE⟩ := hv
  have hx := B.exec
  have hb := B.bytes
  have hr := B.returns
  have hts := atoms_spec (ws := ws_ yX0_side cX0_side 1 (some .int)) B.pre
  have hts : ∀ w ∈ lw_all, w.before _ s = true := fun w h => hts w (List.mem_cons_of_mem _ h)
  have hown : s.vm.findClass RX0 = some m.cls := findClass_of_methodNamed B.named
  have hlocks := B.notSynchronized
  have hS : va_S (fun _ : Nat => False) s.heap s.heap [] := va_S.rf
  have hP : va_P (dC, dI) vwCl [(aX, .inr (0, [.ref aC, .ref aD, .int S]))] s.heap := hP
  have hl := lv_entry ([.ref aX]) (n := 1) (Nat.le_of_ble_eq_true rfl)
  rw [lg_entry_eq]
  generalize (lg_sl ([.ref aX]) ++ List.replicate (1 - (lg_sl ([.ref aX])).length) Slot.unset).toArray = ls at hl ⊢
  have hl : lv_has ls 1 [(0, .ref aX)] := hl
  refine lv_aload_n hx hb dX0_side_0 rfl (lv_at hl 0 rfl) ?_
  refine va_get (D := (dC, dI)) (ci := 0) (v := .int S) (C := RX0) (T := TX0) (N := 3) hx hb hts in_X0 hown hK hP 0 rfl rfl 2 (by decide) (hts _ q130) (fun _ h9 => h9) rfl dX0_side_1 ?_
  exact W.iret (v := S) hx hb hr (fun t ht hW => ⟨S, rfl, rfl, ht⟩) hS.2.2 dX0_side_4
set_option maxHeartbeats 4000000 in
set_option maxRecDepth 100000 in
/-- a bit of the sheet -/
theorem metX0_bit (l : Launch) (dC : Nat → ClassId) (dI : Nat → Nat → Nat) (aX aC aD aB aS : Nat) (kB : ClassId) (S : Int32) (f : Nat → Int32) (x y : Int32) (hSS : pm_S S) : Met l yX0_bit (ws_ yX0_bit cX0_bit 3 (some .boolean)) ({ frames := 1, cells := 0, slots := 0, locals := 22 }) (pd_Pr [.ref aX, .int x, .int y] (dC, dI) [(aX, .inr (0, [.ref aC, .ref aD, .int S])), (aD, .inr (1, [.ref aS, .int S, .int S, .ref aB])), (aB, .inl (kB, (S * S).toNatClampNeg, .inl f))] [(kB, .byte)]) (vp_Si (fun r => r = if f (((y &&& 2147483647) - (y &&& 2147483647) / S * S) * S + ((x &&& 2147483647) - (x &&& 2147483647) / S * S)).toNatClampNeg = 1 then 1 else 0)) 0 0 (fun _ => False) := by
  refine Met.ofW (cc := cX0_bit) (maxL := 3) (ret := (some .boolean)) (by decide) rfl ?_
  intro p e s m args below meth c s₁ B hml hv
  obtain ⟨rfl, hP, hK, hE⟩ := hv
  have hx := B.exec
  have hb := B.bytes
  have hr := B.returns
  have hts := atoms_spec (ws := ws_ yX0_bit cX0_bit 3 (some .boolean)) B.pre
  have hts : ∀ w ∈ lw_all, w.before _ s = true := fun w h => hts w (List.mem_cons_of_mem _ h)
  have hown : s.vm.findClass RX0 = some m.cls := findClass_of_methodNamed B.named
  have hlocks := B.notSynchronized
  have hS : va_S (fun _ : Nat => False) s.heap s.heap [] := va_S.rf
  have hP : va_P (dC, dI) vwCl [(aX, .inr (0, [.ref aC, .ref aD, .int S])), (aD, .inr (1, [.ref aS, .int S, .int S, .ref aB])), (aB, .inl (kB, (S * S).toNatClampNeg, .inl f))] s.heap := hP
  have hl := lv_entry ([.ref aX, .int x, .int y]) (n := 3) (Nat.le_of_ble_eq_true rfl)
  rw [lg_entry_eq]
  generalize (lg_sl ([.ref aX, .int x, .int y]) ++ List.replicate (3 - (lg_sl ([.ref aX, .int x, .int y])).length) Slot.unset).toArray = ls at hl ⊢
  have hl : lv_has ls 3 [(0, .ref aX), (1, .int x), (2, .int y)] := hl
  have hS0 := pm_S_ne hSS
  refine lv_aload_n hx hb dX0_bit_0 rfl (lv_at hl 0 rfl) ?_
  refine va_get (D := (dC, dI)) (ci := 0) (v := .ref aD) (C := RX0) (T := TX0) (N := 3) hx hb hts in_X0 hown hK hP 0 rfl rfl 1 (by decide) (hts _ q129) (fun _ h9 => h9) rfl dX0_bit_1 ?_
  refine lv_iload_n hx hb dX0_bit_4 rfl (lv_at hl 1 rfl) ?_
  refine lv_ldc (own := RX0) (v := 2147483647) hx hb hown (hts _ q142) dX0_bit_5 ?_
  refine lv_iand hx hb dX0_bit_7 ?_
  refine lv_aload_n hx hb dX0_bit_8 rfl (lv_at hl 0 rfl) ?_
  refine va_get (D := (dC, dI)) (ci := 0) (v := .int S) (C := RX0) (T := TX0) (N := 3) hx hb hts in_X0 hown hK hP 0 rfl rfl 2 (by decide) (hts _ q130) (fun _ h9 => h9) rfl dX0_bit_9 ?_
  refine lv_irem hx hb dX0_bit_12 hS0 ?_
  refine lv_iload_n hx hb dX0_bit_13 rfl (lv_at hl 2 rfl) ?_
  refine lv_ldc (own := RX0) (v := 2147483647) hx hb hown (hts _ q142) dX0_bit_14 ?_
  refine lv_iand hx hb dX0_bit_16 ?_
  refine lv_aload_n hx hb dX0_bit_17 rfl (lv_at hl 0 rfl) ?_
  refine va_get (D := (dC, dI)) (ci := 0) (v := .int S) (C := RX0) (T := TX0) (N := 3) hx hb hts in_X0 hown hK hP 0 rfl rfl 2 (by decide) (hts _ q130) (fun _ h9 => h9) rfl dX0_bit_18 ?_
  refine lv_irem hx hb dX0_bit_21 hS0 ?_
  refine pd_read (v := (if f (((y &&& 2147483647) - (y &&& 2147483647) / S * S) * S + ((x &&& 2147483647) - (x &&& 2147483647) / S * S)).toNatClampNeg = 1 then 1 else 0)) (W.runV (As := [.int ((x &&& 2147483647) - (x &&& 2147483647) / S * S), .int ((y &&& 2147483647) - (y &&& 2147483647) / S * S)]) (rest := []) ⟨hx, hb, hml, hown, hts⟩ (metX1_getBit l dC dI aD aB aS kB S _ f ((x &&& 2147483647) - (x &&& 2147483647) / S * S) ((y &&& 2147483647) - (y &&& 2147483647) / S * S) (pm_bit_in hSS)) (cwV 2 hts (lw_V q217 q218 q219 q17 q220) rfl rfl rfl (by decide +kernel) ⟨Nat.le_of_ble_eq_true rfl, Nat.le_of_ble_eq_true rfl⟩) ⟨pd_Pr.blind, va_recv hK hP (ci := 1) (q0 := 1) rfl rfl, pd_prer [1, 2] [0] hP hK hE hS rfl rfl⟩ rfl rfl hl.1 rfl (lv_room (Nat.le_of_ble_eq_true rfl)) dX0_bit_22 ⟨Nat.le_of_ble_eq_true rfl, Nat.le_of_ble_eq_true rfl⟩) ?_
  refine W.zret (v := if f (((y &&& 2147483647) - (y &&& 2147483647) / S * S) * S + ((x &&& 2147483647) - (x &&& 2147483647) / S * S)).toNatClampNeg = 1 then 1 else 0) hx hb hr ?_ (fun t ht hW => ⟨_, rfl, rfl, ht⟩) hS.2.2 dX0_bit_25
  by_cases hq : f (((y &&& 2147483647) - (y &&& 2147483647) / S * S) * S + ((x &&& 2147483647) - (x &&& 2147483647) / S * S)).toNatClampNeg = 1
  · rw [if_pos hq]; rfl
  · rw [if_neg hq]; rfl
set_option maxHeartbeats 4000000 in
set_option maxRecDepth 100000 in
/-- one codeword -/
theorem metX0_put (l : Launch) (dC : Nat → ClassId) (dI : Nat → Nat → Nat) (sz : Nat) (aX aC aD : Nat) (kC : ClassId) (S : Int32) (b : Nat → Nat) (x v : Int32) : Met l yX0_put (ws_ yX0_put cX0_put 3 none) ({ frames := 0, cells := 0, slots := 0, locals := 0 }) (pd_Pc [.ref aX, .int x, .int v] (dC, dI) [(aX, .inr (0, [.ref aC, .ref aD, .int S])), (aC, .inl (kC, 72, .inl (pd_wd b)))] [(kC, .char)] sz) (pd_Qv (dC, dI) [(aX, .inr (0, [.ref aC, .ref aD, .int S])), (aC, .inl (kC, 72, .inl (pd_wd (pd_pu b (pd_at x) (pd_v v)))))] (va_A [(aX, .inr (0, [.ref aC, .ref aD, .int S])), (aC, .inl (kC, 72, .inl (pd_wd b)))] sz)) 0 0 (va_A [(aX, .inr (0, [.ref aC, .ref aD, .int S])), (aC, .inl (kC, 72, .inl (pd_wd b)))] sz) := by
  refine Met.ofW (cc := cX0_put) (maxL := 3) (ret := none) (by decide) rfl ?_
  intro p e s m args below meth c s₁ B hml hv
  obtain ⟨rfl, hsz, hP, hK, hD0, hE⟩ := hv
  have hx := B.exec
  have hb := B.bytes
  have hr := B.returns
  have hts := atoms_spec (ws := ws_ yX0_put cX0_put 3 none) B.pre
  have hts : ∀ w ∈ lw_all, w.before _ s = true := fun w h => hts w (List.mem_cons_of_mem _ h)
  have hown : s.vm.findClass RX0 = some m.cls := findClass_of_methodNamed B.named
  have hlocks := B.notSynchronized
  subst hsz
  have hD := hD0.self (sz := s.heap.size)
  generalize hAe : va_A [(aX, .inr (0, [.ref aC, .ref aD, .int S])), (aC, .inl (kC, 72, .inl (pd_wd b)))] s.heap.size = A at hD hE ⊢
  have hA : ∀ q : Nat, s.heap.size ≤ q → A q := fun q h => by rw [← hAe]; exact Or.inr h
  have hS : va_S A s.heap s.heap [] := va_S.rf
  have hP : va_P (dC, dI) vwCl [(aX, .inr (0, [.ref aC, .ref aD, .int S])), (aC, .inl (kC, 72, .inl (pd_wd b)))] s.heap := hP
  have hl := lv_entry ([.ref aX, .int x, .int v]) (n := 3) (Nat.le_of_ble_eq_true rfl)
  rw [lg_entry_eq]
  generalize (lg_sl ([.ref aX, .int x, .int v]) ++ List.replicate (3 - (lg_sl ([.ref aX, .int x, .int v])).length) Slot.unset).toArray = ls at hl ⊢
  have hl : lv_has ls 3 [(0, .ref aX), (1, .int x), (2, .int v)] := hl
  refine lv_aload_n hx hb dX0_put_0 rfl (lv_at hl 0 rfl) ?_
  refine va_get (D := (dC, dI)) (ci := 0) (v := .ref aC) (C := RX0) (T := TX0) (N := 3) hx hb hts in_X0 hown hK hP 0 rfl rfl 0 (by decide) (hts _ q128) (fun _ h9 => h9) rfl dX0_put_1 ?_
  refine lv_iload_n hx hb dX0_put_4 rfl (lv_at hl 1 rfl) ?_
  refine lv_ldc (own := RX0) (v := 2147483647) hx hb hown (hts _ q142) dX0_put_5 ?_
  refine lv_iand hx hb dX0_put_7 ?_
  refine lv_bipush (v := 72) hx hb dX0_put_8 (by decide) ?_
  refine lv_irem hx hb dX0_put_10 (by decide) ?_
  refine lv_iload_n hx hb dX0_put_11 rfl (lv_at hl 2 rfl) ?_
  refine lv_sipush (v := 255) hx hb dX0_put_12 (by decide) ?_
  refine lv_iand hx hb dX0_put_15 ?_
  refine lv_i2c (v := v &&& 255) hx hb dX0_put_16 (sc_c2 _) ?_
  refine va_cast hx hb hK hP hD hS 1 0 rfl rfl (pm_put_in x) dX0_put_17 (fun H locs hP hD hS => ?_)
  have hP : va_P (dC, dI) vwCl [(aX, .inr (0, [.ref aC, .ref aD, .int S])), (aC, .inl (kC, 72, .inl (upd (pd_wd b) (((x &&& 2147483647) - (x &&& 2147483647) / 72 * 72)).toNatClampNeg (vp_nar .char (v &&& 255)))))] H := hP
  have hD : va_D A [(aX, .inr (0, [.ref aC, .ref aD, .int S])), (aC, .inl (kC, 72, .inl (upd (pd_wd b) (((x &&& 2147483647) - (x &&& 2147483647) / 72 * 72)).toNatClampNeg (vp_nar .char (v &&& 255)))))] := hD
  rw [pd_vc, pd_v_e, pd_wd_pu] at hP hD
  exact W.vret hx hb hr (fun t ht hW => ⟨⟨(), rfl, trivial, by rw [ht]; exact hP, hD⟩, hS.F ht⟩) hS.2.2 dX0_put_18
set_option maxHeartbeats 4000000 in
set_option maxRecDepth 100000 in
/-- no codeword, side 8, an empty sheet -/
theorem metX0_init (l : Launch) (dC : Nat → ClassId) (dI : Nat → Nat → Nat) (sz : Nat) (aX : Nat) : Met l yX0_init (ws_ yX0_init cX0_init 1 none) ({ frames := 4, cells := 6, slots := 420, locals := 97 }) (pd_Pc [.ref aX] (dC, dI) [(aX, .inr (0, [.null, .null, .int 0]))] [] sz) (pd_QA (dC, dI) (fun _ : Nat × Nat × Nat × Nat × Nat × ClassId × ClassId × ClassId => True) (fun u => [(aX, .inr (0, [.ref u.1, .ref u.2.1, .int 8])), (u.1, .inl (u.2.2.2.2.2.1, 72, .inl (pd_wd (fun _ => 0)))), (u.2.1, .inr (1, [.ref u.2.2.2.1, .int 8, .int 8, .ref u.2.2.1])), (u.2.2.1, .inl (u.2.2.2.2.2.2.1, 64, .inl (fun _ => -1))), (u.2.2.2.1, .inr (2, [.ref u.2.2.2.2.1, .int 0, .int 0, .int 0])), (u.2.2.2.2.1, .inl (u.2.2.2.2.2.2.2, 72, .inl (pd_by (fun _ => 0))))]) (fun u => [(u.2.2.2.2.2.1, .char), (u.2.2.2.2.2.2.1, .byte), (u.2.2.2.2.2.2.2, .byte)]) (va_A [(aX, .inr (0, [.null, .null, .int 0]))] sz)) 6 420 (va_A [(aX, .inr (0, [.null, .null, .int 0]))] sz) := by
  refine Met.ofW (cc := cX0_init) (maxL := 1) (ret := none) (by decide) rfl ?_
  intro p e s m args below meth c s₁ B hml hv
  obtain ⟨rfl, hsz, hP, hK, hD0, hE⟩ := hv
  have hx := B.exec
  have hb := B.bytes
  have hr := B.returns
  have hts := atoms_spec (ws := ws_ yX0_init cX0_init 1 none) B.pre
  have hts : ∀ w ∈ lw_all, w.before _ s = true := fun w h => hts w (List.mem_cons_of_mem _ h)
  have hown : s.vm.findClass RX0 = some m.cls := findClass_of_methodNamed B.named
  have hlocks := B.notSynchronized
  have hin : meth.name = "<init>" := (name_of_methodNamed B.named B.method).1
  subst hsz
  have hD := hD0.self (sz := s.heap.size)
  generalize hAe : va_A [(aX, .inr (0, [.null, .null, .int 0]))] s.heap.size = A at hD hE ⊢
  have hA : ∀ q : Nat, s.heap.size ≤ q → A q := fun q h => by rw [← hAe]; exact Or.inr h
  have hS : va_S A s.heap s.heap [] := va_S.rf
  have hP : va_P (dC, dI) vwCl [(aX, .inr (0, [.null, .null, .int 0]))] s.heap := hP
  have hl := lv_entry ([.ref aX]) (n := 1) (Nat.le_of_ble_eq_true rfl)
  rw [lg_entry_eq]
  generalize (lg_sl ([.ref aX]) ++ List.replicate (1 - (lg_sl ([.ref aX])).length) Slot.unset).toArray = ls at hl ⊢
  have hl : lv_has ls 1 [(0, .ref aX)] := hl
  refine lv_aload_n hx hb dX0_init_0 rfl (lv_at hl 0 rfl) ?_
  refine W.objInit hx hb hown (hts _ q29) (hts _ q30) (hts _ q31) rfl (by rw [hml]; exact hl.1) rfl dX0_init_1 (Nat.le_of_ble_eq_true rfl) (Nat.le_of_ble_eq_true rfl) ?_
  refine W.eq (g2 := F0 m 4 ls []) rfl ?_
  refine lv_aload_n hx hb dX0_init_4 rfl (lv_at hl 0 rfl) ?_
  refine lv_bipush (v := 72) hx hb dX0_init_5 (by decide) ?_
  refine va_newa (atype := .char) (ty := .char) (n := 72) (N' := 72) (a0 := (72, .inl (fun _ => 0))) hx hb (hts _ q106) rfl hK hP hD hS hA (fun _ => rfl) (by decide) pd_len72 (Nat.le_of_ble_eq_true rfl) (Nat.le_of_ble_eq_true rfl) (Nat.le_of_ble_eq_true rfl) dX0_init_7 (fun aC kC H hK hP hD hS => ?_)
  have hP : va_P (dC, dI) vwCl [(aX, .inr (0, [.null, .null, .int 0])), (aC, .inl (kC, 72, .inl (fun _ => 0)))] H := hP
  have hD : va_D A [(aX, .inr (0, [.null, .null, .int 0])), (aC, .inl (kC, 72, .inl (fun _ => 0)))] := hD
  have hK : va_K (dC, dI) vwCl [(kC, .char)] s := hK
  refine W.widen (k := 1) (n := 72) (Nat.le_of_ble_eq_true rfl) (Nat.le_of_ble_eq_true rfl) ?_
  refine va_putF (D := (dC, dI)) (ci := 0) (v := .ref aC) (ty := .array .char) (C := RX0) (T := TX0) (N := 3) hx hb hts in_X0 tyX0 tyX0_ok nmX0 hown hK hP hD hS 0 rfl rfl 0 (by decide) (hts _ q128) (fun _ h9 => h9) rfl hin rfl (by decide +kernel) rfl rfl (Nat.le_of_ble_eq_true rfl) dX0_init_9 (fun H locs hP hD hS => ?_)
  have hP : va_P (dC, dI) vwCl [(aX, .inr (0, [.ref aC, .null, .int 0])), (aC, .inl (kC, 72, .inl (fun _ => 0)))] H := hP
  have hD : va_D A [(aX, .inr (0, [.ref aC, .null, .int 0])), (aC, .inl (kC, 72, .inl (fun _ => 0)))] := hD
  refine lv_aload_n hx hb dX0_init_12 rfl (lv_at hl 0 rfl) ?_
  refine va_new (ci := 1) (fs := [.null, .int 0, .int 0, .null]) (C := RX1) (T := TX1) (N := 4) hx hb hts in_X1 tyX1 tyX1_ok hown (hts _ q32) (hts _ q33) (hts _ q17) hK hP hD hS hA rfl (fun j hj => by rcases (show j = 0 ∨ j = 1 ∨ j = 2 ∨ j = 3 by omega) with rfl | rfl | rfl | rfl <;> rfl) (Nat.le_of_ble_eq_true rfl) (Nat.le_of_ble_eq_true rfl) dX0_init_13 (fun aD H hP hD hS => ?_)
  have hP : va_P (dC, dI) vwCl [(aX, .inr (0, [.ref aC, .null, .int 0])), (aC, .inl (kC, 72, .inl (fun _ => 0))), (aD, .inr (1, [.null, .int 0, .int 0, .null]))] H := hP
  have hD : va_D A [(aX, .inr (0, [.ref aC, .null, .int 0])), (aC, .inl (kC, 72, .inl (fun _ => 0))), (aD, .inr (1, [.null, .int 0, .int 0, .null]))] := hD
  refine W.widen (k := 2) (n := 76) (Nat.le_of_ble_eq_true rfl) (Nat.le_of_ble_eq_true rfl) ?_
  refine lv_dup hx hb dX0_init_16 rfl ?_
  refine va_new (ci := 2) (fs := [.null, .int 0, .int 0, .int 0]) (C := RJ0) (T := TJ0) (N := 4) hx hb hts in_J0 tyJ0 tyJ0_ok hown (hts _ q34) (hts _ q35) (hts _ q18) hK hP hD hS hA rfl (fun j hj => by rcases (show j = 0 ∨ j = 1 ∨ j = 2 ∨ j = 3 by omega) with rfl | rfl | rfl | rfl <;> rfl) (Nat.le_of_ble_eq_true rfl) (Nat.le_of_ble_eq_true rfl) dX0_init_17 (fun aS H hP hD hS => ?_)
  have hP : va_P (dC, dI) vwCl [(aX, .inr (0, [.ref aC, .null, .int 0])), (aC, .inl (kC, 72, .inl (fun _ => 0))), (aD, .inr (1, [.null, .int 0, .int 0, .null])), (aS, .inr (2, [.null, .int 0, .int 0, .int 0]))] H := hP
  have hD : va_D A [(aX, .inr (0, [.ref aC, .null, .int 0])), (aC, .inl (kC, 72, .inl (fun _ => 0))), (aD, .inr (1, [.null, .int 0, .int 0, .null])), (aS, .inr (2, [.null, .int 0, .int 0, .int 0]))] := hD
  refine W.widen (k := 3) (n := 80) (Nat.le_of_ble_eq_true rfl) (Nat.le_of_ble_eq_true rfl) ?_
  refine lv_dup hx hb dX0_init_20 rfl ?_
  refine lv_bipush (v := 72) hx hb dX0_init_21 (by decide) ?_
  refine va_newa (atype := .char) (ty := .char) (n := 72) (N' := 72) (a0 := (72, .inl (fun _ => 0))) hx hb (hts _ q106) rfl hK hP hD hS hA (fun _ => rfl) (by decide) pd_len72 (Nat.le_of_ble_eq_true rfl) (Nat.le_of_ble_eq_true rfl) (Nat.le_of_ble_eq_true rfl) dX0_init_23 (fun a2 k2 H hK hP hD hS => ?_)
  have hP : va_P (dC, dI) vwCl [(aX, .inr (0, [.ref aC, .null, .int 0])), (aC, .inl (kC, 72, .inl (fun _ => 0))), (aD, .inr (1, [.null, .int 0, .int 0, .null])), (aS, .inr (2, [.null, .int 0, .int 0, .int 0])), (a2, .inl (k2, 72, .inl (fun _ => 0)))] H := hP
  have hD : va_D A [(aX, .inr (0, [.ref aC, .null, .int 0])), (aC, .inl (kC, 72, .inl (fun _ => 0))), (aD, .inr (1, [.null, .int 0, .int 0, .null])), (aS, .inr (2, [.null, .int 0, .int 0, .int 0])), (a2, .inl (k2, 72, .inl (fun _ => 0)))] := hD
  have hK : va_K (dC, dI) vwCl [(kC, .char), (k2, .char)] s := hK
  refine W.widen (k := 4) (n := 152) (Nat.le_of_ble_eq_true rfl) (Nat.le_of_ble_eq_true rfl) ?_
  rw [← pd_wd0] at hP hD
  have hP : va_P (dC, dI) vwCl [(aX, .inr (0, [.ref aC, .null, .int 0])), (aC, .inl (kC, 72, .inl (pd_wd (fun _ => 0)))), (aD, .inr (1, [.null, .int 0, .int 0, .null])), (aS, .inr (2, [.null, .int 0, .int 0, .int 0])), (a2, .inl (k2, 72, .inl (pd_wd (fun _ => 0))))] H := hP
  have hD : va_D A [(aX, .inr (0, [.ref aC, .null, .int 0])), (aC, .inl (kC, 72, .inl (pd_wd (fun _ => 0)))), (aD, .inr (1, [.null, .int 0, .int 0, .null])), (aS, .inr (2, [.null, .int 0, .int 0, .int 0])), (a2, .inl (k2, 72, .inl (pd_wd (fun _ => 0))))] := hD
  refine pd_goA (ws := [(aX, .inr (0, [.ref aC, .null, .int 0])), (aC, .inl (kC, 72, .inl (pd_wd (fun _ => 0)))), (aD, .inr (1, [.null, .int 0, .int 0, .null])), (aS, .inr (2, [.null, .int 0, .int 0, .int 0])), (a2, .inl (k2, 72, .inl (pd_wd (fun _ => 0))))]) (wc := [(aS, .inr (2, [.null, .int 0, .int 0, .int 0])), (a2, .inl (k2, 72, .inl (pd_wd (fun _ => 0))))]) (wr := [(aX, .inr (0, [.ref aC, .null, .int 0])), (aC, .inl (kC, 72, .inl (pd_wd (fun _ => 0)))), (aD, .inr (1, [.null, .int 0, .int 0, .null]))]) [3, 4] [0, 1, 2] hK hP hD hS hA rfl rfl (by decide) (by decide) (va_runI (As := [.ref a2]) (rest := [.ref aS, .ref aD, .ref aD, .ref aX]) ⟨hx, hb, hml, hown, hts⟩ (metJ0_init l dC dI _ aS a2 k2 (fun _ => 0) (fun _ => by decide)) (cwI 1 hts (lw_meth q38) rfl rfl rfl (hts _ q18) (hts _ q36) (hts _ q37) rfl (by decide +kernel) ⟨Nat.le_of_ble_eq_true rfl, Nat.le_of_ble_eq_true rfl⟩) ⟨pd_Pc.blind, pd_pre [3, 4] [1] hP hK hD hE hS hA rfl (by decide) rfl⟩ rfl rfl hl.1 rfl (lv_room (Nat.le_of_ble_eq_true rfl)) dX0_init_25 ⟨Nat.le_of_ble_eq_true rfl, Nat.le_of_ble_eq_true rfl⟩) (fun u H locs hw hK hP hD hS => ?_)
  obtain ⟨aV, kV⟩ := u
  have hP : va_P (dC, dI) vwCl [(aX, .inr (0, [.ref aC, .null, .int 0])), (aC, .inl (kC, 72, .inl (pd_wd (fun _ => 0)))), (aD, .inr (1, [.null, .int 0, .int 0, .null])), (aS, .inr (2, [.ref aV, .int 0, .int 0, .int 0])), (a2, .inl (k2, 72, .inl (pd_wd (fun _ => 0)))), (aV, .inl (kV, 72, .inl (pd_by (fun _ => 0))))] H := hP
  have hD : va_D A [(aX, .inr (0, [.ref aC, .null, .int 0])), (aC, .inl (kC, 72, .inl (pd_wd (fun _ => 0)))), (aD, .inr (1, [.null, .int 0, .int 0, .null])), (aS, .inr (2, [.ref aV, .int 0, .int 0, .int 0])), (a2, .inl (k2, 72, .inl (pd_wd (fun _ => 0)))), (aV, .inl (kV, 72, .inl (pd_by (fun _ => 0))))] := hD
  have hK : va_K (dC, dI) vwCl [(kC, .char), (k2, .char), (kV, .byte)] s := hK
  refine W.widen (k := 5) (n := 224) (Nat.le_of_ble_eq_true rfl) (Nat.le_of_ble_eq_true rfl) ?_
  refine lv_bipush (v := 8) hx hb dX0_init_28 (by decide) ?_
  refine lv_bipush (v := 8) hx hb dX0_init_30 (by decide) ?_
  refine pd_goA (ws := [(aX, .inr (0, [.ref aC, .null, .int 0])), (aC, .inl (kC, 72, .inl (pd_wd (fun _ => 0)))), (aD, .inr (1, [.null, .int 0, .int 0, .null])), (aS, .inr (2, [.ref aV, .int 0, .int 0, .int 0])), (a2, .inl (k2, 72, .inl (pd_wd (fun _ => 0)))), (aV, .inl (kV, 72, .inl (pd_by (fun _ => 0))))]) (wc := [(aD, .inr (1, [.null, .int 0, .int 0, .null]))]) (wr := [(aX, .inr (0, [.ref aC, .null, .int 0])), (aC, .inl (kC, 72, .inl (pd_wd (fun _ => 0)))), (aS, .inr (2, [.ref aV, .int 0, .int 0, .int 0])), (a2, .inl (k2, 72, .inl (pd_wd (fun _ => 0)))), (aV, .inl (kV, 72, .inl (pd_by (fun _ => 0))))]) [2] [0, 1, 3, 4, 5] hK hP hD hS hA rfl rfl (by decide) (by decide) (va_runI (As := [.ref aS, .int 8, .int 8]) (rest := [.ref aD, .ref aX]) ⟨hx, hb, hml, hown, hts⟩ (metX1_init l dC dI _ aD aS 8 64 (by decide +kernel) (by decide +kernel) (by decide)) (cwI 3 hts (lw_meth q110) rfl rfl rfl (hts _ q17) (hts _ q108) (hts _ q109) rfl (by decide +kernel) ⟨Nat.le_of_ble_eq_true rfl, Nat.le_of_ble_eq_true rfl⟩) ⟨pd_Pc.blind, pd_pre [2] [] hP hK hD hE hS hA rfl (by decide) rfl⟩ rfl rfl hl.1 rfl (lv_room (Nat.le_of_ble_eq_true rfl)) dX0_init_32 ⟨Nat.le_of_ble_eq_true rfl, Nat.le_of_ble_eq_true rfl⟩) (fun u H locs hw hK hP hD hS => ?_)
  obtain ⟨aB, kB⟩ := u
  have hP : va_P (dC, dI) vwCl [(aX, .inr (0, [.ref aC, .null, .int 0])), (aC, .inl (kC, 72, .inl (pd_wd (fun _ => 0)))), (aS, .inr (2, [.ref aV, .int 0, .int 0, .int 0])), (a2, .inl (k2, 72, .inl (pd_wd (fun _ => 0)))), (aV, .inl (kV, 72, .inl (pd_by (fun _ => 0)))), (aD, .inr (1, [.ref aS, .int 8, .int 8, .ref aB])), (aB, .inl (kB, 64, .inl (fun _ => -1)))] H := hP
  have hD : va_D A [(aX, .inr (0, [.ref aC, .null, .int 0])), (aC, .inl (kC, 72, .inl (pd_wd (fun _ => 0)))), (aS, .inr (2, [.ref aV, .int 0, .int 0, .int 0])), (a2, .inl (k2, 72, .inl (pd_wd (fun _ => 0)))), (aV, .inl (kV, 72, .inl (pd_by (fun _ => 0)))), (aD, .inr (1, [.ref aS, .int 8, .int 8, .ref aB])), (aB, .inl (kB, 64, .inl (fun _ => -1)))] := hD
  have hK : va_K (dC, dI) vwCl [(kC, .char), (k2, .char), (kV, .byte), (kB, .byte)] s := hK
  refine W.widen (k := 6) (n := 420) (Nat.le_of_ble_eq_true rfl) (Nat.le_of_ble_eq_true rfl) ?_
  refine va_put (D := (dC, dI)) (ci := 0) (v := .ref aD) (ty := .object "DefaultPlacement") (C := RX0) (T := TX0) (N := 3) hx hb hts in_X0 tyX0 tyX0_ok nmX0 hown hK hP hD hS 0 rfl rfl 1 (by decide) (hts _ q129) (fun _ h9 => h9) rfl (by decide +kernel) rfl rfl (Nat.le_of_ble_eq_true rfl) dX0_init_35 (fun H locs hP hD hS => ?_)
  have hP : va_P (dC, dI) vwCl [(aX, .inr (0, [.ref aC, .ref aD, .int 0])), (aC, .inl (kC, 72, .inl (pd_wd (fun _ => 0)))), (aS, .inr (2, [.ref aV, .int 0, .int 0, .int 0])), (a2, .inl (k2, 72, .inl (pd_wd (fun _ => 0)))), (aV, .inl (kV, 72, .inl (pd_by (fun _ => 0)))), (aD, .inr (1, [.ref aS, .int 8, .int 8, .ref aB])), (aB, .inl (kB, 64, .inl (fun _ => -1)))] H := hP
  have hD : va_D A [(aX, .inr (0, [.ref aC, .ref aD, .int 0])), (aC, .inl (kC, 72, .inl (pd_wd (fun _ => 0)))), (aS, .inr (2, [.ref aV, .int 0, .int 0, .int 0])), (a2, .inl (k2, 72, .inl (pd_wd (fun _ => 0)))), (aV, .inl (kV, 72, .inl (pd_by (fun _ => 0)))), (aD, .inr (1, [.ref aS, .int 8, .int 8, .ref aB])), (aB, .inl (kB, 64, .inl (fun _ => -1)))] := hD
  refine lv_aload_n hx hb dX0_init_38 rfl (lv_at hl 0 rfl) ?_
  refine lv_bipush (v := 8) hx hb dX0_init_39 (by decide) ?_
  refine va_put (D := (dC, dI)) (ci := 0) (v := .int 8) (ty := .int) (C := RX0) (T := TX0) (N := 3) hx hb hts in_X0 tyX0 tyX0_ok nmX0 hown hK hP hD hS 0 rfl rfl 2 (by decide) (hts _ q130) (fun _ h9 => h9) rfl (by decide +kernel) rfl rfl (Nat.le_of_ble_eq_true rfl) dX0_init_41 (fun H locs hP hD hS => ?_)
  have hP : va_P (dC, dI) vwCl [(aX, .inr (0, [.ref aC, .ref aD, .int 8])), (aC, .inl (kC, 72, .inl (pd_wd (fun _ => 0)))), (aS, .inr (2, [.ref aV, .int 0, .int 0, .int 0])), (a2, .inl (k2, 72, .inl (pd_wd (fun _ => 0)))), (aV, .inl (kV, 72, .inl (pd_by (fun _ => 0)))), (aD, .inr (1, [.ref aS, .int 8, .int 8, .ref aB])), (aB, .inl (kB, 64, .inl (fun _ => -1)))] H := hP
  have hD : va_D A [(aX, .inr (0, [.ref aC, .ref aD, .int 8])), (aC, .inl (kC, 72, .inl (pd_wd (fun _ => 0)))), (aS, .inr (2, [.ref aV, .int 0, .int 0, .int 0])), (a2, .inl (k2, 72, .inl (pd_wd (fun _ => 0)))), (aV, .inl (kV, 72, .inl (pd_by (fun _ => 0)))), (aD, .inr (1, [.ref aS, .int 8, .int 8, .ref aB])), (aB, .inl (kB, 64, .inl (fun _ => -1)))] := hD
  have hP := hP.sub (ws' := [(aX, .inr (0, [.ref aC, .ref aD, .int 8])), (aC, .inl (kC, 72, .inl (pd_wd (fun _ => 0)))), (aD, .inr (1, [.ref aS, .int 8, .int 8, .ref aB])), (aB, .inl (kB, 64, .inl (fun _ => -1))), (aS, .inr (2, [.ref aV, .int 0, .int 0, .int 0])), (aV, .inl (kV, 72, .inl (pd_by (fun _ => 0))))]) [0, 1, 5, 6, 2, 4] rfl
  have hD := hD.sub (ws' := [(aX, .inr (0, [.ref aC, .ref aD, .int 8])), (aC, .inl (kC, 72, .inl (pd_wd (fun _ => 0)))), (aD, .inr (1, [.ref aS, .int 8, .int 8, .ref aB])), (aB, .inl (kB, 64, .inl (fun _ => -1))), (aS, .inr (2, [.ref aV, .int 0, .int 0, .int 0])), (aV, .inl (kV, 72, .inl (pd_by (fun _ => 0))))]) [0, 1, 5, 6, 2, 4] (by decide) rfl
  have hK := hK.sub (tys' := [(kC, .char), (kB, .byte), (kV, .byte)]) [0, 3, 2] rfl
  exact W.vret hx hb hr (fun t ht hW => ⟨⟨(aC, aD, aB, aS, aV, kC, kB, kV), rfl, trivial, by rw [ht]; exact hP, va_K.moved hW.alike hK, hD⟩, hS.F ht⟩) hS.2.2 dX0_init_44
set_option maxHeartbeats 4000000 in
set_option maxRecDepth 100000 in
/-- the codewords placed on a new sheet -/
theorem metX0_place (l : Launch) (dC : Nat → ClassId) (dI : Nat → Nat → Nat) (sz : Nat) (aX aC a0 : Nat) (kC : ClassId) (S0 S kind : Int32) (b : Nat → Nat) (hb256 : ∀ j, b j < 256) (hSd : S = pd_sd kind) : Met l yX0_place (ws_ yX0_place cX0_place 3 none) ({ frames := 7, cells := 4, slots := 276, locals := 156 }) (pd_Pc [.ref aX, .int kind] (dC, dI) [(aX, .inr (0, [.ref aC, .ref a0, .int S0])), (aC, .inl (kC, 72, .inl (pd_wd b)))] [(kC, .char)] sz) (pd_QA (dC, dI) (fun _ : Nat × Nat × Nat × Nat × ClassId × ClassId => True) (fun u => [(aX, .inr (0, [.ref aC, .ref u.1, .int S])), (aC, .inl (kC, 72, .inl (pd_wd b))), (u.1, .inr (1, [.ref u.2.2.1, .int S, .int S, .ref u.2.1])), (u.2.1, .inl (u.2.2.2.2.1, (S * S).toNatClampNeg, .inl (pcl b (pm_T S)))), (u.2.2.1, .inr (2, [.ref u.2.2.2.1, .int 0, .int 0, .int 0])), (u.2.2.2.1, .inl (u.2.2.2.2.2, 72, .inl (pd_by b)))]) (fun u => [(u.2.2.2.2.1, .byte), (u.2.2.2.2.2, .byte)]) (va_A [(aX, .inr (0, [.ref aC, .ref a0, .int S0])), (aC, .inl (kC, 72, .inl (pd_wd b)))] sz)) 4 276 (va_A [(aX, .inr (0, [.ref aC, .ref a0, .int S0])), (aC, .inl (kC, 72, .inl (pd_wd b)))] sz) := by
  refine Met.ofW (cc := cX0_place) (maxL := 3) (ret := none) (by decide) rfl ?_
  intro p e s m args below meth c s₁ B hml hv
  obtain ⟨rfl, hsz, hP, hK, hD0, hE⟩ := hv
  have hx := B.exec
  have hb := B.bytes
  have hr := B.returns
  have hts := atoms_spec (ws := ws_ yX0_place cX0_place 3 none) B.pre
  have hts : ∀ w ∈ lw_all, w.before _ s = true := fun w h => hts w (List.mem_cons_of_mem _ h)
  have hown : s.vm.findClass RX0 = some m.cls := findClass_of_methodNamed B.named
  have hlocks := B.notSynchronized
  subst hsz
  have hD := hD0.self (sz := s.heap.size)
  generalize hAe : va_A [(aX, .inr (0, [.ref aC, .ref a0, .int S0])), (aC, .inl (kC, 72, .inl (pd_wd b)))] s.heap.size = A at hD hE ⊢
  have hA : ∀ q : Nat, s.heap.size ≤ q → A q := fun q h => by rw [← hAe]; exact Or.inr h
  have hS : va_S A s.heap s.heap [] := va_S.rf
  have hP : va_P (dC, dI) vwCl [(aX, .inr (0, [.ref aC, .ref a0, .int S0])), (aC, .inl (kC, 72, .inl (pd_wd b)))] s.heap := hP
  have hl := lv_entry ([.ref aX, .int kind]) (n := 3) (Nat.le_of_ble_eq_true rfl)
  rw [lg_entry_eq]
  generalize (lg_sl ([.ref aX, .int kind]) ++ List.replicate (3 - (lg_sl ([.ref aX, .int kind])).length) Slot.unset).toArray = ls at hl ⊢
  have hl : lv_has ls 3 [(0, .ref aX), (1, .int kind)] := hl
  have hSS : pm_S S := by rw [hSd]; exact pd_sd_S kind
  obtain ⟨hrun, hlen, hok⟩ := pm_good_spec (pm_S_good hSS)
  obtain ⟨hsq0, hsq1⟩ := pm_S_sq hSS
  have k36 : ∀ (ls : Array Slot), lv_has ls 3 [(0, .ref aX), (1, .int kind)] → W p l e (headSpec (ws_ yX0_place cX0_place 3 none) ({ frames := 7, cells := 4, slots := 276, locals := 156 })).room s m ([.ref aX, .int kind] : List Value).toArray below meth c s.heap [] 0 0 (MQ below (pd_QA (dC, dI) (fun _ : Nat × Nat × Nat × Nat × ClassId × ClassId => True) (fun u => [(aX, .inr (0, [.ref aC, .ref u.1, .int S])), (aC, .inl (kC, 72, .inl (pd_wd b))), (u.1, .inr (1, [.ref u.2.2.1, .int S, .int S, .ref u.2.1])), (u.2.1, .inl (u.2.2.2.2.1, (S * S).toNatClampNeg, .inl (pcl b (pm_T S)))), (u.2.2.1, .inr (2, [.ref u.2.2.2.1, .int 0, .int 0, .int 0])), (u.2.2.2.1, .inl (u.2.2.2.2.2, 72, .inl (pd_by b)))]) (fun u => [(u.2.2.2.2.1, .byte), (u.2.2.2.2.2, .byte)]) A) ([.ref aX, .int kind] : List Value).toArray s 4 276 A) (F0 m 36 ls [.int S, .ref aX]) := by
    intro ls hl
    refine va_put (D := (dC, dI)) (ci := 0) (v := .int S) (ty := .int) (C := RX0) (T := TX0) (N := 3) hx hb hts in_X0 tyX0 tyX0_ok nmX0 hown hK hP hD hS 0 rfl rfl 2 (by decide) (hts _ q130) (fun _ h9 => h9) rfl (by decide +kernel) rfl rfl (Nat.le_of_ble_eq_true rfl) dX0_place_36 (fun H locs hP hD hS => ?_)
    have hP : va_P (dC, dI) vwCl [(aX, .inr (0, [.ref aC, .ref a0, .int S])), (aC, .inl (kC, 72, .inl (pd_wd b)))] H := hP
    have hD : va_D A [(aX, .inr (0, [.ref aC, .ref a0, .int S])), (aC, .inl (kC, 72, .inl (pd_wd b)))] := hD
    refine lv_aload_n hx hb dX0_place_39 rfl (lv_at hl 0 rfl) ?_
    refine va_new (ci := 1) (fs := [.null, .int 0, .int 0, .null]) (C := RX1) (T := TX1) (N := 4) hx hb hts in_X1 tyX1 tyX1_ok hown (hts _ q32) (hts _ q33) (hts _ q17) hK hP hD hS hA rfl (fun j hj => by rcases (show j = 0 ∨ j = 1 ∨ j = 2 ∨ j = 3 by omega) with rfl | rfl | rfl | rfl <;> rfl) (Nat.le_of_ble_eq_true rfl) (Nat.le_of_ble_eq_true rfl) dX0_place_40 (fun aD H hP hD hS => ?_)
    have hP : va_P (dC, dI) vwCl [(aX, .inr (0, [.ref aC, .ref a0, .int S])), (aC, .inl (kC, 72, .inl (pd_wd b))), (aD, .inr (1, [.null, .int 0, .int 0, .null]))] H := hP
    have hD : va_D A [(aX, .inr (0, [.ref aC, .ref a0, .int S])), (aC, .inl (kC, 72, .inl (pd_wd b))), (aD, .inr (1, [.null, .int 0, .int 0, .null]))] := hD
    refine W.widen (k := 1) (n := 4) (Nat.le_of_ble_eq_true rfl) (Nat.le_of_ble_eq_true rfl) ?_
    refine lv_dup hx hb dX0_place_43 rfl ?_
    refine va_new (ci := 2) (fs := [.null, .int 0, .int 0, .int 0]) (C := RJ0) (T := TJ0) (N := 4) hx hb hts in_J0 tyJ0 tyJ0_ok hown (hts _ q34) (hts _ q35) (hts _ q18) hK hP hD hS hA rfl (fun j hj => by rcases (show j = 0 ∨ j = 1 ∨ j = 2 ∨ j = 3 by omega) with rfl | rfl | rfl | rfl <;> rfl) (Nat.le_of_ble_eq_true rfl) (Nat.le_of_ble_eq_true rfl) dX0_place_44 (fun aS H hP hD hS => ?_)
    have hP : va_P (dC, dI) vwCl [(aX, .inr (0, [.ref aC, .ref a0, .int S])), (aC, .inl (kC, 72, .inl (pd_wd b))), (aD, .inr (1, [.null, .int 0, .int 0, .null])), (aS, .inr (2, [.null, .int 0, .int 0, .int 0]))] H := hP
    have hD : va_D A [(aX, .inr (0, [.ref aC, .ref a0, .int S])), (aC, .inl (kC, 72, .inl (pd_wd b))), (aD, .inr (1, [.null, .int 0, .int 0, .null])), (aS, .inr (2, [.null, .int 0, .int 0, .int 0]))] := hD
    refine W.widen (k := 2) (n := 8) (Nat.le_of_ble_eq_true rfl) (Nat.le_of_ble_eq_true rfl) ?_
    refine lv_dup hx hb dX0_place_47 rfl ?_
    refine lv_aload_n hx hb dX0_place_48 rfl (lv_at hl 0 rfl) ?_
    refine va_get (D := (dC, dI)) (ci := 0) (v := .ref aC) (C := RX0) (T := TX0) (N := 3) hx hb hts in_X0 hown hK hP 0 rfl rfl 0 (by decide) (hts _ q128) (fun _ h9 => h9) rfl dX0_place_49 ?_
    refine pd_goA (ws := [(aX, .inr (0, [.ref aC, .ref a0, .int S])), (aC, .inl (kC, 72, .inl (pd_wd b))), (aD, .inr (1, [.null, .int 0, .int 0, .null])), (aS, .inr (2, [.null, .int 0, .int 0, .int 0]))]) (wc := [(aS, .inr (2, [.null, .int 0, .int 0, .int 0])), (aC, .inl (kC, 72, .inl (pd_wd b)))]) (wr := [(aX, .inr (0, [.ref aC, .ref a0, .int S])), (aD, .inr (1, [.null, .int 0, .int 0, .null]))]) [3, 1] [0, 2] hK hP hD hS hA rfl rfl (by decide) (by decide) (va_runI (As := [.ref aC]) (rest := [.ref aS, .ref aD, .ref aD, .ref aX]) ⟨hx, hb, hml, hown, hts⟩ (metJ0_init l dC dI _ aS aC kC b hb256) (cwI 1 hts (lw_meth q38) rfl rfl rfl (hts _ q18) (hts _ q36) (hts _ q37) rfl (by decide +kernel) ⟨Nat.le_of_ble_eq_true rfl, Nat.le_of_ble_eq_true rfl⟩) ⟨pd_Pc.blind, pd_pre [3, 1] [0] hP hK hD hE hS hA rfl (by decide) rfl⟩ rfl rfl hl.1 rfl (lv_room (Nat.le_of_ble_eq_true rfl)) dX0_place_52 ⟨Nat.le_of_ble_eq_true rfl, Nat.le_of_ble_eq_true rfl⟩) (fun u H locs hw hK hP hD hS => ?_)
    obtain ⟨aV, kV⟩ := u
    have hP : va_P (dC, dI) vwCl [(aX, .inr (0, [.ref aC, .ref a0, .int S])), (aD, .inr (1, [.null, .int 0, .int 0, .null])), (aS, .inr (2, [.ref aV, .int 0, .int 0, .int 0])), (aC, .inl (kC, 72, .inl (pd_wd b))), (aV, .inl (kV, 72, .inl (pd_by b)))] H := hP
    have hD : va_D A [(aX, .inr (0, [.ref aC, .ref a0, .int S])), (aD, .inr (1, [.null, .int 0, .int 0, .null])), (aS, .inr (2, [.ref aV, .int 0, .int 0, .int 0])), (aC, .inl (kC, 72, .inl (pd_wd b))), (aV, .inl (kV, 72, .inl (pd_by b)))] := hD
    have hK : va_K (dC, dI) vwCl [(kC, .char), (kV, .byte)] s := hK
    refine W.widen (k := 3) (n := 80) (Nat.le_of_ble_eq_true rfl) (Nat.le_of_ble_eq_true rfl) ?_
    refine lv_aload_n hx hb dX0_place_55 rfl (lv_at hl 0 rfl) ?_
    refine va_get (D := (dC, dI)) (ci := 0) (v := .int S) (C := RX0) (T := TX0) (N := 3) hx hb hts in_X0 hown hK hP 0 rfl rfl 2 (by decide) (hts _ q130) (fun _ h9 => h9) rfl dX0_place_56 ?_
    refine lv_aload_n hx hb dX0_place_59 rfl (lv_at hl 0 rfl) ?_
    refine va_get (D := (dC, dI)) (ci := 0) (v := .int S) (C := RX0) (T := TX0) (N := 3) hx hb hts in_X0 hown hK hP 0 rfl rfl 2 (by decide) (hts _ q130) (fun _ h9 => h9) rfl dX0_place_60 ?_
    refine pd_goA (ws := [(aX, .inr (0, [.ref aC, .ref a0, .int S])), (aD, .inr (1, [.null, .int 0, .int 0, .null])), (aS, .inr (2, [.ref aV, .int 0, .int 0, .int 0])), (aC, .inl (kC, 72, .inl (pd_wd b))), (aV, .inl (kV, 72, .inl (pd_by b)))]) (wc := [(aD, .inr (1, [.null, .int 0, .int 0, .null]))]) (wr := [(aX, .inr (0, [.ref aC, .ref a0, .int S])), (aS, .inr (2, [.ref aV, .int 0, .int 0, .int 0])), (aC, .inl (kC, 72, .inl (pd_wd b))), (aV, .inl (kV, 72, .inl (pd_by b)))]) [1] [0, 2, 3, 4] hK hP hD hS hA rfl rfl (by decide) (by decide) (va_runI (As := [.ref aS, .int S, .int S]) (rest := [.ref aD, .ref aX]) ⟨hx, hb, hml, hown, hts⟩ (metX1_init l dC dI _ aD aS S (S * S).toNatClampNeg hsq0 rfl hsq1) (cwI 3 hts (lw_meth q110) rfl rfl rfl (hts _ q17) (hts _ q108) (hts _ q109) rfl (by decide +kernel) ⟨Nat.le_of_ble_eq_true rfl, Nat.le_of_ble_eq_true rfl⟩) ⟨pd_Pc.blind, pd_pre [1] [] hP hK hD hE hS hA rfl (by decide) rfl⟩ rfl rfl hl.1 rfl (lv_room (Nat.le_of_ble_eq_true rfl)) dX0_place_63 ⟨Nat.le_of_ble_eq_true rfl, Nat.le_of_ble_eq_true rfl⟩) (fun u H locs hw hK hP hD hS => ?_)
    obtain ⟨aB, kB⟩ := u
    have hP : va_P (dC, dI) vwCl [(aX, .inr (0, [.ref aC, .ref a0, .int S])), (aS, .inr (2, [.ref aV, .int 0, .int 0, .int 0])), (aC, .inl (kC, 72, .inl (pd_wd b))), (aV, .inl (kV, 72, .inl (pd_by b))), (aD, .inr (1, [.ref aS, .int S, .int S, .ref aB])), (aB, .inl (kB, (S * S).toNatClampNeg, .inl (fun _ => -1)))] H := hP
    have hD : va_D A [(aX, .inr (0, [.ref aC, .ref a0, .int S])), (aS, .inr (2, [.ref aV, .int 0, .int 0, .int 0])), (aC, .inl (kC, 72, .inl (pd_wd b))), (aV, .inl (kV, 72, .inl (pd_by b))), (aD, .inr (1, [.ref aS, .int S, .int S, .ref aB])), (aB, .inl (kB, (S * S).toNatClampNeg, .inl (fun _ => -1)))] := hD
    have hK : va_K (dC, dI) vwCl [(kC, .char), (kV, .byte), (kB, .byte)] s := hK
    refine W.widen (k := 4) (n := 276) (Nat.le_of_ble_eq_true rfl) (Nat.le_of_ble_eq_true rfl) ?_
    refine va_put (D := (dC, dI)) (ci := 0) (v := .ref aD) (ty := .object "DefaultPlacement") (C := RX0) (T := TX0) (N := 3) hx hb hts in_X0 tyX0 tyX0_ok nmX0 hown hK hP hD hS 0 rfl rfl 1 (by decide) (hts _ q129) (fun _ h9 => h9) rfl (by decide +kernel) rfl rfl (Nat.le_of_ble_eq_true rfl) dX0_place_66 (fun H locs hP hD hS => ?_)
    have hP : va_P (dC, dI) vwCl [(aX, .inr (0, [.ref aC, .ref aD, .int S])), (aS, .inr (2, [.ref aV, .int 0, .int 0, .int 0])), (aC, .inl (kC, 72, .inl (pd_wd b))), (aV, .inl (kV, 72, .inl (pd_by b))), (aD, .inr (1, [.ref aS, .int S, .int S, .ref aB])), (aB, .inl (kB, (S * S).toNatClampNeg, .inl (fun _ => -1)))] H := hP
    have hD : va_D A [(aX, .inr (0, [.ref aC, .ref aD, .int S])), (aS, .inr (2, [.ref aV, .int 0, .int 0, .int 0])), (aC, .inl (kC, 72, .inl (pd_wd b))), (aV, .inl (kV, 72, .inl (pd_by b))), (aD, .inr (1, [.ref aS, .int S, .int S, .ref aB])), (aB, .inl (kB, (S * S).toNatClampNeg, .inl (fun _ => -1)))] := hD
    refine lv_aload_n hx hb dX0_place_69 rfl (lv_at hl 0 rfl) ?_
    refine va_get (D := (dC, dI)) (ci := 0) (v := .ref aD) (C := RX0) (T := TX0) (N := 3) hx hb hts in_X0 hown hK hP 0 rfl rfl 1 (by decide) (hts _ q129) (fun _ h9 => h9) rfl dX0_place_70 ?_
    rw [← pcl_nil b S] at hP hD
    have hP : va_P (dC, dI) vwCl [(aX, .inr (0, [.ref aC, .ref aD, .int S])), (aS, .inr (2, [.ref aV, .int 0, .int 0, .int 0])), (aC, .inl (kC, 72, .inl (pd_wd b))), (aV, .inl (kV, 72, .inl (pd_by b))), (aD, .inr (1, [.ref aS, .int S, .int S, .ref aB])), (aB, .inl (kB, (S * S).toNatClampNeg, .inl (pcl b (pm_nil S))))] H := hP
    have hD : va_D A [(aX, .inr (0, [.ref aC, .ref aD, .int S])), (aS, .inr (2, [.ref aV, .int 0, .int 0, .int 0])), (aC, .inl (kC, 72, .inl (pd_wd b))), (aV, .inl (kV, 72, .inl (pd_by b))), (aD, .inr (1, [.ref aS, .int S, .int S, .ref aB])), (aB, .inl (kB, (S * S).toNatClampNeg, .inl (pcl b (pm_nil S))))] := hD
    refine pd_goV (ws := [(aX, .inr (0, [.ref aC, .ref aD, .int S])), (aS, .inr (2, [.ref aV, .int 0, .int 0, .int 0])), (aC, .inl (kC, 72, .inl (pd_wd b))), (aV, .inl (kV, 72, .inl (pd_by b))), (aD, .inr (1, [.ref aS, .int S, .int S, .ref aB])), (aB, .inl (kB, (S * S).toNatClampNeg, .inl (pcl b (pm_nil S))))]) (wc := [(aD, .inr (1, [.ref aS, .int S, .int S, .ref aB])), (aB, .inl (kB, (S * S).toNatClampNeg, .inl (pcl b (pm_nil S)))), (aS, .inr (2, [.ref aV, .int 0, .int 0, .int 0])), (aV, .inl (kV, 72, .inl (pd_by b)))]) (wr := [(aX, .inr (0, [.ref aC, .ref aD, .int S])), (aC, .inl (kC, 72, .inl (pd_wd b)))]) (w1 := [(aD, .inr (1, [.ref aS, .int S, .int S, .ref aB])), (aB, .inl (kB, (S * S).toNatClampNeg, .inl (pcl b (pm_T S)))), (aS, .inr (2, [.ref aV, .int 0, .int 0, .int 0])), (aV, .inl (kV, 72, .inl (pd_by b)))]) [4, 5, 1, 3] [0, 2] hP hD hS hA rfl rfl (by decide) (by decide) (va_runV (As := []) (rest := []) ⟨hx, hb, hml, hown, hts⟩ (metX1_place l dC dI _ aD aB aS aV kB kV S (S * S).toNatClampNeg b (pm_nil S) (pm_T S) hb256 (pm_nil_len S) hrun) (cwV 0 hts (lw_V q147 q148 q149 q17 q150) rfl rfl rfl (by decide +kernel) ⟨Nat.le_of_ble_eq_true rfl, Nat.le_of_ble_eq_true rfl⟩) ⟨pd_Pc.blind, va_recv hK hP (ci := 1) (q0 := 4) rfl rfl, pd_pre [4, 5, 1, 3] [2, 1] hP hK hD hE hS hA rfl (by decide) rfl⟩ rfl rfl hl.1 rfl (lv_room (Nat.le_of_ble_eq_true rfl)) dX0_place_73 ⟨Nat.le_of_ble_eq_true rfl, Nat.le_of_ble_eq_true rfl⟩) (fun H locs hP hD hS => ?_)
    have hP : va_P (dC, dI) vwCl [(aX, .inr (0, [.ref aC, .ref aD, .int S])), (aC, .inl (kC, 72, .inl (pd_wd b))), (aD, .inr (1, [.ref aS, .int S, .int S, .ref aB])), (aB, .inl (kB, (S * S).toNatClampNeg, .inl (pcl b (pm_T S)))), (aS, .inr (2, [.ref aV, .int 0, .int 0, .int 0])), (aV, .inl (kV, 72, .inl (pd_by b)))] H := hP
    have hD : va_D A [(aX, .inr (0, [.ref aC, .ref aD, .int S])), (aC, .inl (kC, 72, .inl (pd_wd b))), (aD, .inr (1, [.ref aS, .int S, .int S, .ref aB])), (aB, .inl (kB, (S * S).toNatClampNeg, .inl (pcl b (pm_T S)))), (aS, .inr (2, [.ref aV, .int 0, .int 0, .int 0])), (aV, .inl (kV, 72, .inl (pd_by b)))] := hD
    have hP := hP.sub (ws' := [(aX, .inr (0, [.ref aC, .ref aD, .int S])), (aC, .inl (kC, 72, .inl (pd_wd b))), (aD, .inr (1, [.ref aS, .int S, .int S, .ref aB])), (aB, .inl (kB, (S * S).toNatClampNeg, .inl (pcl b (pm_T S)))), (aS, .inr (2, [.ref aV, .int 0, .int 0, .int 0])), (aV, .inl (kV, 72, .inl (pd_by b)))]) [0, 1, 2, 3, 4, 5] rfl
    have hD := hD.sub (ws' := [(aX, .inr (0, [.ref aC, .ref aD, .int S])), (aC, .inl (kC, 72, .inl (pd_wd b))), (aD, .inr (1, [.ref aS, .int S, .int S, .ref aB])), (aB, .inl (kB, (S * S).toNatClampNeg, .inl (pcl b (pm_T S)))), (aS, .inr (2, [.ref aV, .int 0, .int 0, .int 0])), (aV, .inl (kV, 72, .inl (pd_by b)))]) [0, 1, 2, 3, 4, 5] (by decide) rfl
    have hK := hK.sub (tys' := [(kB, .byte), (kV, .byte)]) [2, 1] rfl
    exact W.vret hx hb hr (fun t ht hW => ⟨⟨(aD, aB, aS, aV, kB, kV), rfl, trivial, by rw [ht]; exact hP, va_K.moved hW.alike hK, hD⟩, hS.F ht⟩) hS.2.2 dX0_place_76
  refine lv_iload_n hx hb dX0_place_0 rfl (lv_at hl 1 rfl) ?_
  refine lv_iconst (v := 3) hx hb dX0_place_1 (by decide) ?_
  refine lv_iand hx hb dX0_place_2 ?_
  refine lv_topi (fun x1 ex1 => ?_)
  refine lv_istore_n (lv' := [(2, .int x1), (0, .ref aX), (1, .int kind)]) hx hb dX0_place_3 rfl hl (by decide) rfl (fun ls hl => ?_)
  refine lv_aload_n hx hb dX0_place_4 rfl (lv_at hl 1 rfl) ?_
  refine lv_iload_n hx hb dX0_place_5 rfl (lv_at hl 0 rfl) ?_
  refine lv_if_ne (tgt := 14) hx hb dX0_place_6 (by decide) (fun c2 => ?_) (fun c2 => ?_)
  · refine lv_iload_n hx hb dX0_place_14 rfl (lv_at hl 0 rfl) ?_
    refine lv_iconst (v := 1) hx hb dX0_place_15 (by decide) ?_
    refine lv_icmp_ne (tgt := 24) hx hb dX0_place_16 (by decide) (fun c3 => ?_) (fun c3 => ?_)
    · refine lv_iload_n hx hb dX0_place_24 rfl (lv_at hl 0 rfl) ?_
      refine lv_iconst (v := 2) hx hb dX0_place_25 (by decide) ?_
      refine lv_icmp_ne (tgt := 34) hx hb dX0_place_26 (by decide) (fun c4 => ?_) (fun c4 => ?_)
      · have e3 : x1 = 3 := by
          obtain ⟨j, hj, ej⟩ := pk_andE kind (m := 3) 2 (by decide +kernel)
          rw [← ex1] at ej
          rcases (show j = 0 ∨ j = 1 ∨ j = 2 ∨ j = 3 by omega) with rfl | rfl | rfl | rfl
          · exact absurd ej c2
          · exact absurd ej c3
          · exact absurd ej c4
          · exact ej
        refine lv_bipush (v := 14) hx hb dX0_place_34 (by decide) ?_
        have e14 : (14 : Int32) = S := by rw [hSd]; unfold pd_sd; rw [← ex1, e3]; decide +kernel
        rw [e14]
        exact k36 ls (lv_sub hl [1, 2] rfl)
      · refine lv_bipush (v := 12) hx hb dX0_place_29 (by decide) ?_
        refine lv_goto (tgt := 36) hx hb dX0_place_31 (by decide) ?_
        have e12 : (12 : Int32) = S := by rw [hSd]; unfold pd_sd; rw [← ex1, c4]; decide +kernel
        rw [e12]
        exact k36 ls (lv_sub hl [1, 2] rfl)
    · refine lv_bipush (v := 10) hx hb dX0_place_19 (by decide) ?_
      refine lv_goto (tgt := 36) hx hb dX0_place_21 (by decide) ?_
      have e10 : (10 : Int32) = S := by rw [hSd]; unfold pd_sd; rw [← ex1, c3]; decide +kernel
      rw [e10]
      exact k36 ls (lv_sub hl [1, 2] rfl)
  · refine lv_bipush (v := 8) hx hb dX0_place_9 (by decide) ?_
    refine lv_goto (tgt := 36) hx hb dX0_place_11 (by decide) ?_
    have e8 : (8 : Int32) = S := by rw [hSd]; unfold pd_sd; rw [← ex1, c2]; decide +kernel
    rw [e8]
    exact k36 ls (lv_sub hl [1, 2] rfl)
end
section
/-! PlacementDeskModel: its methods but place -/
set_option maxHeartbeats 4000000 in
set_option maxRecDepth 100000 in
/-- the side -/
theorem metX2_side (l : Launch) (dC : Nat → ClassId) (dI : Nat → Nat → Nat) (aM aW aT aQ : Nat) (S : Int32) : Met l yX2_side (ws_ yX2_side cX2_side 1 (some .int)) ({ frames := 0, cells := 0, slots := 0, locals := 0 }) (pd_Pr [.ref aM] (dC, dI) [(aM, .inr (3, [.ref aW, .int S, .ref aT, .ref aQ]))] []) (vp_Si (fun r => r = S)) 0 0 (fun _ => False) := by
  refine Met.ofW (cc := cX2_side) (maxL := 1) (ret := (some .int)) (by decide) rfl ?_
  intro p e s m args below meth c s₁ B hml hv
  obtain ⟨rfl, hP, hK, hE⟩ := hv
  have hx := B.exec
  have hb := B.bytes
  have hr := B.returns
  have hts := atoms_spec (ws := ws_ yX2_side cX2_side 1 (some .int)) B.pre
  have hts : ∀ w ∈ lw_all, w.before _ s = true := fun w h => hts w (List.mem_cons_of_mem _ h)
  have hown : s.vm.findClass RX2 = some m.cls := findClass_of_methodNamed B.named
  have hlocks := B.notSynchronized
  have hS : va_S (fun _ : Nat => False) s.heap s.heap [] := va_S.rf
  have hP : va_P (dC, dI) vwCl [(aM, .inr (3, [.ref aW, .int S, .ref aT, .ref aQ]))] s.heap := hP
  have hl := lv_entry ([.ref aM]) (n := 1) (Nat.le_of_ble_eq_true rfl)
  rw [lg_entry_eq]
  generalize (lg_sl ([.ref aM]) ++ List.replicate (1 - (lg_sl ([.ref aM])).length) Slot.unset).toArray = ls at hl ⊢
  have hl : lv_has ls 1 [(0, .ref aM)] := hl
  refine lv_aload_n hx hb dX2_side_0 rfl (lv_at hl 0 rfl) ?_
  refine va_get (D := (dC, dI)) (ci := 3) (v := .int S) (C := RX2) (T := TX2) (N := 4) hx hb hts in_X2 hown hK hP 0 rfl rfl 1 (by decide) (hts _ q232) (fun _ h9 => h9) rfl dX2_side_1 ?_
  exact W.iret (v := S) hx hb hr (fun t ht hW => ⟨S, rfl, rfl, ht⟩) hS.2.2 dX2_side_4
set_option maxHeartbeats 4000000 in
set_option maxRecDepth 100000 in
/-- whether nothing stands at a place in range -/
theorem metX2_isFree (l : Launch) (dC : Nat → ClassId) (dI : Nat → Nat → Nat) (aM aW aT aQ : Nat) (eT : ClassId) (S : Int32) (n : Nat) (f : Nat → Int32) (row col : Int32) (h : vp_in (row * S + col) n) : Met l yX2_isFree (ws_ yX2_isFree cX2_isFree 3 (some .boolean)) ({ frames := 0, cells := 0, slots := 0, locals := 0 }) (pd_Pr [.ref aM, .int row, .int col] (dC, dI) [(aM, .inr (3, [.ref aW, .int S, .ref aT, .ref aQ])), (aT, .inl (eT, n, .inl f))] [(eT, .int)]) (vp_Si (fun r => r = if f (row * S + col).toNatClampNeg = 0 then 1 else 0)) 0 0 (fun _ => False) := by
  refine Met.ofW (cc := cX2_isFree) (maxL := 3) (ret := (some .boolean)) (by decide) rfl ?_
  intro p e s m args below meth c s₁ B hml hv
  obtain ⟨rfl, hP, hK, hE⟩ := hv
  have hx := B.exec
  have hb := B.bytes
  have hr := B.returns
  have hts := atoms_spec (ws := ws_ yX2_isFree cX2_isFree 3 (some .boolean)) B.pre
  have hts : ∀ w ∈ lw_all, w.before _ s = true := fun w h => hts w (List.mem_cons_of_mem _ h)
  have hown : s.vm.findClass RX2 = some m.cls := findClass_of_methodNamed B.named
  have hlocks := B.notSynchronized
  have hS : va_S (fun _ : Nat => False) s.heap s.heap [] := va_S.rf
  have hP : va_P (dC, dI) vwCl [(aM, .inr (3, [.ref aW, .int S, .ref aT, .ref aQ])), (aT, .inl (eT, n, .inl f))] s.heap := hP
  have hl := lv_entry ([.ref aM, .int row, .int col]) (n := 3) (Nat.le_of_ble_eq_true rfl)
  rw [lg_entry_eq]
  generalize (lg_sl ([.ref aM, .int row, .int col]) ++ List.replicate (3 - (lg_sl ([.ref aM, .int row, .int col])).length) Slot.unset).toArray = ls at hl ⊢
  have hl : lv_has ls 3 [(0, .ref aM), (1, .int row), (2, .int col)] := hl
  refine lv_aload_n hx hb dX2_isFree_0 rfl (lv_at hl 0 rfl) ?_
  refine va_get (D := (dC, dI)) (ci := 3) (v := .ref aT) (C := RX2) (T := TX2) (N := 4) hx hb hts in_X2 hown hK hP 0 rfl rfl 2 (by decide) (hts _ q233) (fun _ h9 => h9) rfl dX2_isFree_1 ?_
  refine lv_iload_n hx hb dX2_isFree_4 rfl (lv_at hl 1 rfl) ?_
  refine lv_aload_n hx hb dX2_isFree_5 rfl (lv_at hl 0 rfl) ?_
  refine va_get (D := (dC, dI)) (ci := 3) (v := .int S) (C := RX2) (T := TX2) (N := 4) hx hb hts in_X2 hown hK hP 0 rfl rfl 1 (by decide) (hts _ q232) (fun _ h9 => h9) rfl dX2_isFree_6 ?_
  refine lv_imul hx hb dX2_isFree_9 ?_
  refine lv_iload_n hx hb dX2_isFree_10 rfl (lv_at hl 2 rfl) ?_
  refine lv_iadd hx hb dX2_isFree_11 ?_
  refine va_iald hx hb hK hP 1 0 rfl rfl h dX2_isFree_12 ?_
  refine lv_if_ne (tgt := 20) hx hb dX2_isFree_13 (by decide) (fun c1 => ?_) (fun c1 => ?_)
  · refine lv_iconst (v := 0) hx hb dX2_isFree_20 (by decide) ?_
    exact W.zret (v := 0) hx hb hr rfl (fun t ht hW => ⟨0, rfl, (if_neg c1).symm, ht⟩) hS.2.2 dX2_isFree_21
  · refine lv_iconst (v := 1) hx hb dX2_isFree_16 (by decide) ?_
    refine lv_goto (tgt := 21) hx hb dX2_isFree_17 (by decide) ?_
    exact W.zret (v := 1) hx hb hr rfl (fun t ht hW => ⟨1, rfl, (if_pos c1).symm, ht⟩) hS.2.2 dX2_isFree_21
set_option maxHeartbeats 4000000 in
set_option maxRecDepth 100000 in
/-- a bit of the sheet -/
theorem metX2_bit (l : Launch) (dC : Nat → ClassId) (dI : Nat → Nat → Nat) (aM aW aT aQ : Nat) (eT : ClassId) (S : Int32) (f : Nat → Int32) (x y : Int32) (hSS : pm_S S) : Met l yX2_bit (ws_ yX2_bit cX2_bit 3 (some .boolean)) ({ frames := 0, cells := 0, slots := 0, locals := 0 }) (pd_Pr [.ref aM, .int x, .int y] (dC, dI) [(aM, .inr (3, [.ref aW, .int S, .ref aT, .ref aQ])), (aT, .inl (eT, (S * S).toNatClampNeg, .inl f))] [(eT, .int)]) (vp_Si (fun r => r = if f (((y &&& 2147483647) - (y &&& 2147483647) / S * S) * S + ((x &&& 2147483647) - (x &&& 2147483647) / S * S)).toNatClampNeg = 2 then 1 else 0)) 0 0 (fun _ => False) := by
  refine Met.ofW (cc := cX2_bit) (maxL := 3) (ret := (some .boolean)) (by decide) rfl ?_
  intro p e s m args below meth c s₁ B hml hv
  obtain ⟨rfl, hP, hK, hE⟩ := hv
  have hx := B.exec
  have hb := B.bytes
  have hr := B.returns
  have hts := atoms_spec (ws := ws_ yX2_bit cX2_bit 3 (some .boolean)) B.pre
  have hts : ∀ w ∈ lw_all, w.before _ s = true := fun w h => hts w (List.mem_cons_of_mem _ h)
  have hown : s.vm.findClass RX2 = some m.cls := findClass_of_methodNamed B.named
  have hlocks := B.notSynchronized
  have hS : va_S (fun _ : Nat => False) s.heap s.heap [] := va_S.rf
  have hP : va_P (dC, dI) vwCl [(aM, .inr (3, [.ref aW, .int S, .ref aT, .ref aQ])), (aT, .inl (eT, (S * S).toNatClampNeg, .inl f))] s.heap := hP
  have hl := lv_entry ([.ref aM, .int x, .int y]) (n := 3) (Nat.le_of_ble_eq_true rfl)
  rw [lg_entry_eq]
  generalize (lg_sl ([.ref aM, .int x, .int y]) ++ List.replicate (3 - (lg_sl ([.ref aM, .int x, .int y])).length) Slot.unset).toArray = ls at hl ⊢
  have hl : lv_has ls 3 [(0, .ref aM), (1, .int x), (2, .int y)] := hl
  have hS0 := pm_S_ne hSS
  refine lv_aload_n hx hb dX2_bit_0 rfl (lv_at hl 0 rfl) ?_
  refine va_get (D := (dC, dI)) (ci := 3) (v := .ref aT) (C := RX2) (T := TX2) (N := 4) hx hb hts in_X2 hown hK hP 0 rfl rfl 2 (by decide) (hts _ q233) (fun _ h9 => h9) rfl dX2_bit_1 ?_
  refine lv_iload_n hx hb dX2_bit_4 rfl (lv_at hl 2 rfl) ?_
  refine lv_ldc (own := RX2) (v := 2147483647) hx hb hown (hts _ q249) dX2_bit_5 ?_
  refine lv_iand hx hb dX2_bit_7 ?_
  refine lv_aload_n hx hb dX2_bit_8 rfl (lv_at hl 0 rfl) ?_
  refine va_get (D := (dC, dI)) (ci := 3) (v := .int S) (C := RX2) (T := TX2) (N := 4) hx hb hts in_X2 hown hK hP 0 rfl rfl 1 (by decide) (hts _ q232) (fun _ h9 => h9) rfl dX2_bit_9 ?_
  refine lv_irem hx hb dX2_bit_12 hS0 ?_
  refine lv_aload_n hx hb dX2_bit_13 rfl (lv_at hl 0 rfl) ?_
  refine va_get (D := (dC, dI)) (ci := 3) (v := .int S) (C := RX2) (T := TX2) (N := 4) hx hb hts in_X2 hown hK hP 0 rfl rfl 1 (by decide) (hts _ q232) (fun _ h9 => h9) rfl dX2_bit_14 ?_
  refine lv_imul hx hb dX2_bit_17 ?_
  refine lv_iload_n hx hb dX2_bit_18 rfl (lv_at hl 1 rfl) ?_
  refine lv_ldc (own := RX2) (v := 2147483647) hx hb hown (hts _ q249) dX2_bit_19 ?_
  refine lv_iand hx hb dX2_bit_21 ?_
  refine lv_aload_n hx hb dX2_bit_22 rfl (lv_at hl 0 rfl) ?_
  refine va_get (D := (dC, dI)) (ci := 3) (v := .int S) (C := RX2) (T := TX2) (N := 4) hx hb hts in_X2 hown hK hP 0 rfl rfl 1 (by decide) (hts _ q232) (fun _ h9 => h9) rfl dX2_bit_23 ?_
  refine lv_irem hx hb dX2_bit_26 hS0 ?_
  refine lv_iadd hx hb dX2_bit_27 ?_
  refine va_iald hx hb hK hP 1 0 rfl rfl (pm_bit_in hSS) dX2_bit_28 ?_
  refine lv_iconst (v := 2) hx hb dX2_bit_29 (by decide) ?_
  refine lv_icmp_ne (tgt := 37) hx hb dX2_bit_30 (by decide) (fun c1 => ?_) (fun c1 => ?_)
  · refine lv_iconst (v := 0) hx hb dX2_bit_37 (by decide) ?_
    exact W.zret (v := 0) hx hb hr rfl (fun t ht hW => ⟨0, rfl, (if_neg c1).symm, ht⟩) hS.2.2 dX2_bit_38
  · refine lv_iconst (v := 1) hx hb dX2_bit_33 (by decide) ?_
    refine lv_goto (tgt := 38) hx hb dX2_bit_34 (by decide) ?_
    exact W.zret (v := 1) hx hb hr rfl (fun t ht hW => ⟨1, rfl, (if_pos c1).symm, ht⟩) hS.2.2 dX2_bit_38
set_option maxHeartbeats 4000000 in
set_option maxRecDepth 100000 in
/-- one codeword -/
theorem metX2_put (l : Launch) (dC : Nat → ClassId) (dI : Nat → Nat → Nat) (sz : Nat) (aM aW aT aQ : Nat) (eW : ClassId) (S : Int32) (b : Nat → Nat) (x v : Int32) : Met l yX2_put (ws_ yX2_put cX2_put 3 none) ({ frames := 0, cells := 0, slots := 0, locals := 0 }) (pd_Pc [.ref aM, .int x, .int v] (dC, dI) [(aM, .inr (3, [.ref aW, .int S, .ref aT, .ref aQ])), (aW, .inl (eW, 72, .inl (pd_wd b)))] [(eW, .int)] sz) (pd_Qv (dC, dI) [(aM, .inr (3, [.ref aW, .int S, .ref aT, .ref aQ])), (aW, .inl (eW, 72, .inl (pd_wd (pd_pu b (pd_at x) (pd_v v)))))] (va_A [(aM, .inr (3, [.ref aW, .int S, .ref aT, .ref aQ])), (aW, .inl (eW, 72, .inl (pd_wd b)))] sz)) 0 0 (va_A [(aM, .inr (3, [.ref aW, .int S, .ref aT, .ref aQ])), (aW, .inl (eW, 72, .inl (pd_wd b)))] sz) := by
  refine Met.ofW (cc := cX2_put) (maxL := 3) (ret := none) (by decide) rfl ?_
  intro p e s m args below meth c s₁ B hml hv
  obtain ⟨rfl, hsz, hP, hK, hD0, hE⟩ := hv
  have hx := B.exec
  have hb := B.bytes
  have hr := B.returns
  have hts := atoms_spec (ws := ws_ yX2_put cX2_put 3 none) B.pre
  have hts : ∀ w ∈ lw_all, w.before _ s = true := fun w h => hts w (List.mem_cons_of_mem _ h)
  have hown : s.vm.findClass RX2 = some m.cls := findClass_of_methodNamed B.named
  have hlocks := B.notSynchronized
  subst hsz
  have hD := hD0.self (sz := s.heap.size)
  generalize hAe : va_A [(aM, .inr (3, [.ref aW, .int S, .ref aT, .ref aQ])), (aW, .inl (eW, 72, .inl (pd_wd b)))] s.heap.size = A at hD hE ⊢
  have hA : ∀ q : Nat, s.heap.size ≤ q → A q := fun q h => by rw [← hAe]; exact Or.inr h
  have hS : va_S A s.heap s.heap [] := va_S.rf
  have hP : va_P (dC, dI) vwCl [(aM, .inr (3, [.ref aW, .int S, .ref aT, .ref aQ])), (aW, .inl (eW, 72, .inl (pd_wd b)))] s.heap := hP
  have hl := lv_entry ([.ref aM, .int x, .int v]) (n := 3) (Nat.le_of_ble_eq_true rfl)
  rw [lg_entry_eq]
  generalize (lg_sl ([.ref aM, .int x, .int v]) ++ List.replicate (3 - (lg_sl ([.ref aM, .int x, .int v])).length) Slot.unset).toArray = ls at hl ⊢
  have hl : lv_has ls 3 [(0, .ref aM), (1, .int x), (2, .int v)] := hl
  refine lv_aload_n hx hb dX2_put_0 rfl (lv_at hl 0 rfl) ?_
  refine va_get (D := (dC, dI)) (ci := 3) (v := .ref aW) (C := RX2) (T := TX2) (N := 4) hx hb hts in_X2 hown hK hP 0 rfl rfl 0 (by decide) (hts _ q231) (fun _ h9 => h9) rfl dX2_put_1 ?_
  refine lv_iload_n hx hb dX2_put_4 rfl (lv_at hl 1 rfl) ?_
  refine lv_ldc (own := RX2) (v := 2147483647) hx hb hown (hts _ q249) dX2_put_5 ?_
  refine lv_iand hx hb dX2_put_7 ?_
  refine lv_bipush (v := 72) hx hb dX2_put_8 (by decide) ?_
  refine lv_irem hx hb dX2_put_10 (by decide) ?_
  refine lv_iload_n hx hb dX2_put_11 rfl (lv_at hl 2 rfl) ?_
  refine lv_sipush (v := 255) hx hb dX2_put_12 (by decide) ?_
  refine lv_iand hx hb dX2_put_15 ?_
  refine va_iast hx hb hK hP hD hS 1 0 rfl rfl (pm_put_in x) dX2_put_16 (fun H locs hP hD hS => ?_)
  have hP : va_P (dC, dI) vwCl [(aM, .inr (3, [.ref aW, .int S, .ref aT, .ref aQ])), (aW, .inl (eW, 72, .inl (upd (pd_wd b) (((x &&& 2147483647) - (x &&& 2147483647) / 72 * 72)).toNatClampNeg ((v &&& 255)))))] H := hP
  have hD : va_D A [(aM, .inr (3, [.ref aW, .int S, .ref aT, .ref aQ])), (aW, .inl (eW, 72, .inl (upd (pd_wd b) (((x &&& 2147483647) - (x &&& 2147483647) / 72 * 72)).toNatClampNeg ((v &&& 255)))))] := hD
  rw [pd_v_e, pd_wd_pu] at hP hD
  exact W.vret hx hb hr (fun t ht hW => ⟨⟨(), rfl, trivial, by rw [ht]; exact hP, hD⟩, hS.F ht⟩) hS.2.2 dX2_put_17
set_option maxHeartbeats 4000000 in
set_option maxRecDepth 100000 in
/-- no codeword, side 8, an empty sheet -/
theorem metX2_init (l : Launch) (dC : Nat → ClassId) (dI : Nat → Nat → Nat) (sz : Nat) (aM : Nat) : Met l yX2_init (ws_ yX2_init cX2_init 1 none) ({ frames := 1, cells := 3, slots := 208, locals := 12 }) (pd_Pc [.ref aM] (dC, dI) [(aM, .inr (3, [.null, .int 0, .null, .null]))] [] sz) (pd_QA (dC, dI) (fun _ : Nat × Nat × Nat × ClassId × ClassId × ClassId => True) (fun u => [(aM, .inr (3, [.ref u.1, .int 8, .ref u.2.1, .ref u.2.2.1])), (u.1, .inl (u.2.2.2.1, 72, .inl (fun _ => 0))), (u.2.1, .inl (u.2.2.2.2.1, 64, .inl (fun _ => 0))), (u.2.2.1, .inl (u.2.2.2.2.2, 72, .inl (fun _ => 0)))]) (fun u => [(u.2.2.2.1, .int), (u.2.2.2.2.1, .int), (u.2.2.2.2.2, .int)]) (va_A [(aM, .inr (3, [.null, .int 0, .null, .null]))] sz)) 3 208 (va_A [(aM, .inr (3, [.null, .int 0, .null, .null]))] sz) := by
  refine Met.ofW (cc := cX2_init) (maxL := 1) (ret := none) (by decide) rfl ?_
  intro p e s m args below meth c s₁ B hml hv
  obtain ⟨rfl, hsz, hP, hK, hD0, hE⟩ := hv
  have hx := B.exec
  have hb := B.bytes
  have hr := B.returns
  have hts := atoms_spec (ws := ws_ yX2_init cX2_init 1 none) B.pre
  have hts : ∀ w ∈ lw_all, w.before _ s = true := fun w h => hts w (List.mem_cons_of_mem _ h)
  have hown : s.vm.findClass RX2 = some m.cls := findClass_of_methodNamed B.named
  have hlocks := B.notSynchronized
  have hin : meth.name = "<init>" := (name_of_methodNamed B.named B.method).1
  subst hsz
  have hD := hD0.self (sz := s.heap.size)
  generalize hAe : va_A [(aM, .inr (3, [.null, .int 0, .null, .null]))] s.heap.size = A at hD hE ⊢
  have hA : ∀ q : Nat, s.heap.size ≤ q → A q := fun q h => by rw [← hAe]; exact Or.inr h
  have hS : va_S A s.heap s.heap [] := va_S.rf
  have hP : va_P (dC, dI) vwCl [(aM, .inr (3, [.null, .int 0, .null, .null]))] s.heap := hP
  have hl := lv_entry ([.ref aM]) (n := 1) (Nat.le_of_ble_eq_true rfl)
  rw [lg_entry_eq]
  generalize (lg_sl ([.ref aM]) ++ List.replicate (1 - (lg_sl ([.ref aM])).length) Slot.unset).toArray = ls at hl ⊢
  have hl : lv_has ls 1 [(0, .ref aM)] := hl
  refine lv_aload_n hx hb dX2_init_0 rfl (lv_at hl 0 rfl) ?_
  refine W.objInit hx hb hown (hts _ q230) (hts _ q30) (hts _ q31) rfl (by rw [hml]; exact hl.1) rfl dX2_init_1 (Nat.le_of_ble_eq_true rfl) (Nat.le_of_ble_eq_true rfl) ?_
  refine W.eq (g2 := F0 m 4 ls []) rfl ?_
  refine lv_aload_n hx hb dX2_init_4 rfl (lv_at hl 0 rfl) ?_
  refine lv_bipush (v := 72) hx hb dX2_init_5 (by decide) ?_
  refine va_newa (atype := .int) (ty := .int) (n := 72) (N' := 72) (a0 := (72, .inl (fun _ => 0))) hx hb (hts _ q244) rfl hK hP hD hS hA (fun _ => rfl) (by decide) pd_len72 (Nat.le_of_ble_eq_true rfl) (Nat.le_of_ble_eq_true rfl) (Nat.le_of_ble_eq_true rfl) dX2_init_7 (fun aW eW H hK hP hD hS => ?_)
  have hP : va_P (dC, dI) vwCl [(aM, .inr (3, [.null, .int 0, .null, .null])), (aW, .inl (eW, 72, .inl (fun _ => 0)))] H := hP
  have hD : va_D A [(aM, .inr (3, [.null, .int 0, .null, .null])), (aW, .inl (eW, 72, .inl (fun _ => 0)))] := hD
  have hK : va_K (dC, dI) vwCl [(eW, .int)] s := hK
  refine W.widen (k := 1) (n := 72) (Nat.le_of_ble_eq_true rfl) (Nat.le_of_ble_eq_true rfl) ?_
  refine va_putF (D := (dC, dI)) (ci := 3) (v := .ref aW) (ty := .array .int) (C := RX2) (T := TX2) (N := 4) hx hb hts in_X2 tyX2 tyX2_ok nmX2 hown hK hP hD hS 0 rfl rfl 0 (by decide) (hts _ q231) (fun _ h9 => h9) rfl hin rfl (by decide +kernel) rfl rfl (Nat.le_of_ble_eq_true rfl) dX2_init_9 (fun H locs hP hD hS => ?_)
  have hP : va_P (dC, dI) vwCl [(aM, .inr (3, [.ref aW, .int 0, .null, .null])), (aW, .inl (eW, 72, .inl (fun _ => 0)))] H := hP
  have hD : va_D A [(aM, .inr (3, [.ref aW, .int 0, .null, .null])), (aW, .inl (eW, 72, .inl (fun _ => 0)))] := hD
  refine lv_aload_n hx hb dX2_init_12 rfl (lv_at hl 0 rfl) ?_
  refine lv_bipush (v := 8) hx hb dX2_init_13 (by decide) ?_
  refine va_put (D := (dC, dI)) (ci := 3) (v := .int 8) (ty := .int) (C := RX2) (T := TX2) (N := 4) hx hb hts in_X2 tyX2 tyX2_ok nmX2 hown hK hP hD hS 0 rfl rfl 1 (by decide) (hts _ q232) (fun _ h9 => h9) rfl (by decide +kernel) rfl rfl (Nat.le_of_ble_eq_true rfl) dX2_init_15 (fun H locs hP hD hS => ?_)
  have hP : va_P (dC, dI) vwCl [(aM, .inr (3, [.ref aW, .int 8, .null, .null])), (aW, .inl (eW, 72, .inl (fun _ => 0)))] H := hP
  have hD : va_D A [(aM, .inr (3, [.ref aW, .int 8, .null, .null])), (aW, .inl (eW, 72, .inl (fun _ => 0)))] := hD
  refine lv_aload_n hx hb dX2_init_18 rfl (lv_at hl 0 rfl) ?_
  refine lv_bipush (v := 64) hx hb dX2_init_19 (by decide) ?_
  refine va_newa (atype := .int) (ty := .int) (n := 64) (N' := 64) (a0 := (64, .inl (fun _ => 0))) hx hb (hts _ q244) rfl hK hP hD hS hA (fun _ => rfl) (by decide) (by decide +kernel) (Nat.le_of_ble_eq_true rfl) (Nat.le_of_ble_eq_true rfl) (Nat.le_of_ble_eq_true rfl) dX2_init_21 (fun aT eT H hK hP hD hS => ?_)
  have hP : va_P (dC, dI) vwCl [(aM, .inr (3, [.ref aW, .int 8, .null, .null])), (aW, .inl (eW, 72, .inl (fun _ => 0))), (aT, .inl (eT, 64, .inl (fun _ => 0)))] H := hP
  have hD : va_D A [(aM, .inr (3, [.ref aW, .int 8, .null, .null])), (aW, .inl (eW, 72, .inl (fun _ => 0))), (aT, .inl (eT, 64, .inl (fun _ => 0)))] := hD
  have hK : va_K (dC, dI) vwCl [(eW, .int), (eT, .int)] s := hK
  refine W.widen (k := 2) (n := 136) (Nat.le_of_ble_eq_true rfl) (Nat.le_of_ble_eq_true rfl) ?_
  refine va_put (D := (dC, dI)) (ci := 3) (v := .ref aT) (ty := .array .int) (C := RX2) (T := TX2) (N := 4) hx hb hts in_X2 tyX2 tyX2_ok nmX2 hown hK hP hD hS 0 rfl rfl 2 (by decide) (hts _ q233) (fun _ h9 => h9) rfl (by decide +kernel) rfl rfl (Nat.le_of_ble_eq_true rfl) dX2_init_23 (fun H locs hP hD hS => ?_)
  have hP : va_P (dC, dI) vwCl [(aM, .inr (3, [.ref aW, .int 8, .ref aT, .null])), (aW, .inl (eW, 72, .inl (fun _ => 0))), (aT, .inl (eT, 64, .inl (fun _ => 0)))] H := hP
  have hD : va_D A [(aM, .inr (3, [.ref aW, .int 8, .ref aT, .null])), (aW, .inl (eW, 72, .inl (fun _ => 0))), (aT, .inl (eT, 64, .inl (fun _ => 0)))] := hD
  refine lv_aload_n hx hb dX2_init_26 rfl (lv_at hl 0 rfl) ?_
  refine lv_bipush (v := 72) hx hb dX2_init_27 (by decide) ?_
  refine va_newa (atype := .int) (ty := .int) (n := 72) (N' := 72) (a0 := (72, .inl (fun _ => 0))) hx hb (hts _ q244) rfl hK hP hD hS hA (fun _ => rfl) (by decide) pd_len72 (Nat.le_of_ble_eq_true rfl) (Nat.le_of_ble_eq_true rfl) (Nat.le_of_ble_eq_true rfl) dX2_init_29 (fun aQ eQ H hK hP hD hS => ?_)
  have hP : va_P (dC, dI) vwCl [(aM, .inr (3, [.ref aW, .int 8, .ref aT, .null])), (aW, .inl (eW, 72, .inl (fun _ => 0))), (aT, .inl (eT, 64, .inl (fun _ => 0))), (aQ, .inl (eQ, 72, .inl (fun _ => 0)))] H := hP
  have hD : va_D A [(aM, .inr (3, [.ref aW, .int 8, .ref aT, .null])), (aW, .inl (eW, 72, .inl (fun _ => 0))), (aT, .inl (eT, 64, .inl (fun _ => 0))), (aQ, .inl (eQ, 72, .inl (fun _ => 0)))] := hD
  have hK : va_K (dC, dI) vwCl [(eW, .int), (eT, .int), (eQ, .int)] s := hK
  refine W.widen (k := 3) (n := 208) (Nat.le_of_ble_eq_true rfl) (Nat.le_of_ble_eq_true rfl) ?_
  refine va_put (D := (dC, dI)) (ci := 3) (v := .ref aQ) (ty := .array .int) (C := RX2) (T := TX2) (N := 4) hx hb hts in_X2 tyX2 tyX2_ok nmX2 hown hK hP hD hS 0 rfl rfl 3 (by decide) (hts _ q234) (fun _ h9 => h9) rfl (by decide +kernel) rfl rfl (Nat.le_of_ble_eq_true rfl) dX2_init_31 (fun H locs hP hD hS => ?_)
  have hP : va_P (dC, dI) vwCl [(aM, .inr (3, [.ref aW, .int 8, .ref aT, .ref aQ])), (aW, .inl (eW, 72, .inl (fun _ => 0))), (aT, .inl (eT, 64, .inl (fun _ => 0))), (aQ, .inl (eQ, 72, .inl (fun _ => 0)))] H := hP
  have hD : va_D A [(aM, .inr (3, [.ref aW, .int 8, .ref aT, .ref aQ])), (aW, .inl (eW, 72, .inl (fun _ => 0))), (aT, .inl (eT, 64, .inl (fun _ => 0))), (aQ, .inl (eQ, 72, .inl (fun _ => 0)))] := hD
  exact W.vret hx hb hr (fun t ht hW => ⟨⟨(aW, aT, aQ, eW, eT, eQ), rfl, trivial, by rw [ht]; exact hP, va_K.moved hW.alike hK, hD⟩, hS.F ht⟩) hS.2.2 dX2_init_34
set_option maxHeartbeats 4000000 in
set_option maxRecDepth 100000 in
/-- one bit of one codeword -/
theorem metX2_module (l : Launch) (dC : Nat → ClassId) (dI : Nat → Nat → Nat) (sz : Nat) (aM aW aT aQ : Nat) (eT eQ : ClassId) (S : Int32) (n : Nat) (b : Nat → Nat) (T T1 : List pC) (row col pos bit : Int32) (hT : T.length = n) (h : pm_mod S row col pos bit T = some T1) : Met l yX2_module (ws_ yX2_module cX2_module 7 none) ({ frames := 0, cells := 0, slots := 0, locals := 0 }) (pd_Pc [.ref aM, .int row, .int col, .int pos, .int bit] (dC, dI) [(aM, .inr (3, [.ref aW, .int S, .ref aT, .ref aQ])), (aT, .inl (eT, n, .inl (pmd b T))), (aQ, .inl (eQ, 72, .inl (pd_wd b)))] [(eT, .int), (eQ, .int)] sz) (pd_Qv (dC, dI) [(aM, .inr (3, [.ref aW, .int S, .ref aT, .ref aQ])), (aT, .inl (eT, n, .inl (pmd b T1))), (aQ, .inl (eQ, 72, .inl (pd_wd b)))] (va_A [(aM, .inr (3, [.ref aW, .int S, .ref aT, .ref aQ])), (aT, .inl (eT, n, .inl (pmd b T))), (aQ, .inl (eQ, 72, .inl (pd_wd b)))] sz)) 0 0 (va_A [(aM, .inr (3, [.ref aW, .int S, .ref aT, .ref aQ])), (aT, .inl (eT, n, .inl (pmd b T))), (aQ, .inl (eQ, 72, .inl (pd_wd b)))] sz) := by
  refine Met.ofW (cc := cX2_module) (maxL := 7) (ret := none) (by decide) rfl ?_
  intro p e s m args below meth c s₁ B hml hv
  obtain ⟨rfl, hsz, hP, hK, hD0, hE⟩ := hv
  have hx := B.exec
  have hb := B.bytes
  have hr := B.returns
  have hts := atoms_spec (ws := ws_ yX2_module cX2_module 7 none) B.pre
  have hts : ∀ w ∈ lw_all, w.before _ s = true := fun w h => hts w (List.mem_cons_of_mem _ h)
  have hown : s.vm.findClass RX2 = some m.cls := findClass_of_methodNamed B.named
  have hlocks := B.notSynchronized
  subst hsz
  have hD := hD0.self (sz := s.heap.size)
  generalize hAe : va_A [(aM, .inr (3, [.ref aW, .int S, .ref aT, .ref aQ])), (aT, .inl (eT, n, .inl (pmd b T))), (aQ, .inl (eQ, 72, .inl (pd_wd b)))] s.heap.size = A at hD hE ⊢
  have hA : ∀ q : Nat, s.heap.size ≤ q → A q := fun q h => by rw [← hAe]; exact Or.inr h
  have hS : va_S A s.heap s.heap [] := va_S.rf
  have hP : va_P (dC, dI) vwCl [(aM, .inr (3, [.ref aW, .int S, .ref aT, .ref aQ])), (aT, .inl (eT, n, .inl (pmd b T))), (aQ, .inl (eQ, 72, .inl (pd_wd b)))] s.heap := hP
  have hl := lv_entry ([.ref aM, .int row, .int col, .int pos, .int bit]) (n := 7) (Nat.le_of_ble_eq_true rfl)
  rw [lg_entry_eq]
  generalize (lg_sl ([.ref aM, .int row, .int col, .int pos, .int bit]) ++ List.replicate (7 - (lg_sl ([.ref aM, .int row, .int col, .int pos, .int bit])).length) Slot.unset).toArray = ls at hl ⊢
  have hl : lv_has ls 7 [(0, .ref aM), (1, .int row), (2, .int col), (3, .int pos), (4, .int bit)] := hl
  obtain ⟨hi, hpos, hT1⟩ := pm_mod_spec h
  have k66 : ∀ (r c0 : Int32) (ls : Array Slot), lv_has ls 7 [(0, .ref aM), (3, .int pos), (4, .int bit), (5, .int r), (6, .int c0)] → r * S + c0 = pm_ix S row col → W p l e (headSpec (ws_ yX2_module cX2_module 7 none) ({ frames := 0, cells := 0, slots := 0, locals := 0 })).room s m ([.ref aM, .int row, .int col, .int pos, .int bit] : List Value).toArray below meth c s.heap [] 0 0 (MQ below (pd_Qv (dC, dI) [(aM, .inr (3, [.ref aW, .int S, .ref aT, .ref aQ])), (aT, .inl (eT, n, .inl (pmd b T1))), (aQ, .inl (eQ, 72, .inl (pd_wd b)))] A) ([.ref aM, .int row, .int col, .int pos, .int bit] : List Value).toArray s 0 0 A) (F0 m 66 ls []) := by
    intro r c0 ls hl hix
    refine lv_aload_n hx hb dX2_module_66 rfl (lv_at hl 0 rfl) ?_
    refine va_get (D := (dC, dI)) (ci := 3) (v := .ref aT) (C := RX2) (T := TX2) (N := 4) hx hb hts in_X2 hown hK hP 0 rfl rfl 2 (by decide) (hts _ q233) (fun _ h9 => h9) rfl dX2_module_67 ?_
    refine lv_iload hx hb dX2_module_70 (lv_at hl 3 rfl) ?_
    refine lv_aload_n hx hb dX2_module_72 rfl (lv_at hl 0 rfl) ?_
    refine va_get (D := (dC, dI)) (ci := 3) (v := .int S) (C := RX2) (T := TX2) (N := 4) hx hb hts in_X2 hown hK hP 0 rfl rfl 1 (by decide) (hts _ q232) (fun _ h9 => h9) rfl dX2_module_73 ?_
    refine lv_imul hx hb dX2_module_76 ?_
    refine lv_iload hx hb dX2_module_77 (lv_at hl 4 rfl) ?_
    refine lv_iadd hx hb dX2_module_79 ?_
    refine lv_iconst (v := 1) hx hb dX2_module_80 (by decide) ?_
    refine lv_aload_n hx hb dX2_module_81 rfl (lv_at hl 0 rfl) ?_
    refine va_get (D := (dC, dI)) (ci := 3) (v := .ref aQ) (C := RX2) (T := TX2) (N := 4) hx hb hts in_X2 hown hK hP 0 rfl rfl 3 (by decide) (hts _ q234) (fun _ h9 => h9) rfl dX2_module_82 ?_
    refine lv_iload_n hx hb dX2_module_85 rfl (lv_at hl 1 rfl) ?_
    refine va_iald hx hb hK hP 2 1 rfl rfl hpos dX2_module_86 ?_
    refine lv_bipush (v := 8) hx hb dX2_module_87 (by decide) ?_
    refine lv_iload hx hb dX2_module_89 (lv_at hl 2 rfl) ?_
    refine lv_isub hx hb dX2_module_91 ?_
    refine lv_ishr hx hb dX2_module_92 ?_
    refine lv_iconst (v := 1) hx hb dX2_module_93 (by decide) ?_
    refine lv_iand hx hb dX2_module_94 ?_
    refine lv_iadd hx hb dX2_module_95 ?_
    refine va_iast hx hb hK hP hD hS 1 0 rfl rfl (by rw [hix, ← hT]; exact hi) dX2_module_96 (fun H locs hP hD hS => ?_)
    have hP : va_P (dC, dI) vwCl [(aM, .inr (3, [.ref aW, .int S, .ref aT, .ref aQ])), (aT, .inl (eT, n, .inl (upd (pmd b T) (((r * S) + c0)).toNatClampNeg ((1 + ((((pd_wd b) (pos).toNatClampNeg) >>> ((8 - bit) &&& 31)) &&& 1)))))), (aQ, .inl (eQ, 72, .inl (pd_wd b)))] H := hP
    have hD : va_D A [(aM, .inr (3, [.ref aW, .int S, .ref aT, .ref aQ])), (aT, .inl (eT, n, .inl (upd (pmd b T) (((r * S) + c0)).toNatClampNeg ((1 + ((((pd_wd b) (pos).toNatClampNeg) >>> ((8 - bit) &&& 31)) &&& 1)))))), (aQ, .inl (eQ, 72, .inl (pd_wd b)))] := hD
    have ev : (1 + ((((pd_wd b) (pos).toNatClampNeg) >>> ((8 - bit) &&& 31)) &&& 1)) = pm_mv b (2, pos, bit) := (pm_mv2 b pos bit).symm
    rw [hix, pmd_set (c := (2, pos, bit)) (vp_lt hi) ev, ← hT1] at hP hD
    exact W.vret hx hb hr (fun t ht hW => ⟨⟨(), rfl, trivial, by rw [ht]; exact hP, hD⟩, hS.F ht⟩) hS.2.2 dX2_module_97
  have k36 : ∀ (r c0 : Int32) (ls : Array Slot), lv_has ls 7 [(0, .ref aM), (3, .int pos), (4, .int bit), (5, .int r), (6, .int c0)] → (if c0 < 0 then (r + pm_k S) * S + (c0 + S) else r * S + c0) = pm_ix S row col → W p l e (headSpec (ws_ yX2_module cX2_module 7 none) ({ frames := 0, cells := 0, slots := 0, locals := 0 })).room s m ([.ref aM, .int row, .int col, .int pos, .int bit] : List Value).toArray below meth c s.heap [] 0 0 (MQ below (pd_Qv (dC, dI) [(aM, .inr (3, [.ref aW, .int S, .ref aT, .ref aQ])), (aT, .inl (eT, n, .inl (pmd b T1))), (aQ, .inl (eQ, 72, .inl (pd_wd b)))] A) ([.ref aM, .int row, .int col, .int pos, .int bit] : List Value).toArray s 0 0 A) (F0 m 36 ls []) := by
    intro r c0 ls hl hix
    refine lv_iload hx hb dX2_module_36 (lv_at hl 4 rfl) ?_
    refine lv_if_ge (tgt := 66) hx hb dX2_module_38 (by decide) (fun c1 => ?_) (fun c1 => ?_)
    · rw [if_neg (Int32.not_lt.mpr c1)] at hix
      exact k66 r c0 ls hl hix
    · rw [if_pos (Int32.not_le.mp c1)] at hix
      refine lv_iload hx hb dX2_module_41 (lv_at hl 4 rfl) ?_
      refine lv_aload_n hx hb dX2_module_43 rfl (lv_at hl 0 rfl) ?_
      refine va_get (D := (dC, dI)) (ci := 3) (v := .int S) (C := RX2) (T := TX2) (N := 4) hx hb hts in_X2 hown hK hP 0 rfl rfl 1 (by decide) (hts _ q232) (fun _ h9 => h9) rfl dX2_module_44 ?_
      refine lv_iadd hx hb dX2_module_47 ?_
      refine lv_istore (lv' := [(6, .int (c0 + S)), (0, .ref aM), (3, .int pos), (4, .int bit), (5, .int r)]) hx hb dX2_module_48 hl (by decide) rfl (fun ls hl => ?_)
      refine lv_iload hx hb dX2_module_50 (lv_at hl 4 rfl) ?_
      refine lv_iconst (v := 4) hx hb dX2_module_52 (by decide) ?_
      refine lv_aload_n hx hb dX2_module_53 rfl (lv_at hl 1 rfl) ?_
      refine va_get (D := (dC, dI)) (ci := 3) (v := .int S) (C := RX2) (T := TX2) (N := 4) hx hb hts in_X2 hown hK hP 0 rfl rfl 1 (by decide) (hts _ q232) (fun _ h9 => h9) rfl dX2_module_54 ?_
      refine lv_iconst (v := 4) hx hb dX2_module_57 (by decide) ?_
      refine lv_iadd hx hb dX2_module_58 ?_
      refine lv_bipush (v := 8) hx hb dX2_module_59 (by decide) ?_
      refine lv_irem hx hb dX2_module_61 (by decide) ?_
      refine lv_isub hx hb dX2_module_62 ?_
      refine lv_iadd hx hb dX2_module_63 ?_
      refine lv_istore (lv' := [(5, .int (r + (4 - ((S + 4) - (S + 4) / 8 * 8)))), (6, .int (c0 + S)), (0, .ref aM), (3, .int pos), (4, .int bit)]) hx hb dX2_module_64 hl (by decide) rfl (fun ls hl => ?_)
      exact k66 (r + pm_k S) (c0 + S) ls (lv_sub hl [2, 3, 4, 0, 1] rfl) hix
  refine lv_iload_n hx hb dX2_module_0 rfl (lv_at hl 1 rfl) ?_
  refine lv_istore (lv' := [(5, .int row), (0, .ref aM), (1, .int row), (2, .int col), (3, .int pos), (4, .int bit)]) hx hb dX2_module_1 hl (by decide) rfl (fun ls hl => ?_)
  refine lv_iload_n hx hb dX2_module_3 rfl (lv_at hl 3 rfl) ?_
  refine lv_istore (lv' := [(6, .int col), (5, .int row), (0, .ref aM), (1, .int row), (2, .int col), (3, .int pos), (4, .int bit)]) hx hb dX2_module_4 hl (by decide) rfl (fun ls hl => ?_)
  refine lv_iload hx hb dX2_module_6 (lv_at hl 1 rfl) ?_
  refine lv_if_ge (tgt := 36) hx hb dX2_module_8 (by decide) (fun c1 => ?_) (fun c1 => ?_)
  · exact k36 row col ls (lv_sub hl [2, 5, 6, 1, 0] rfl) (by unfold pm_ix; rw [if_neg (Int32.not_lt.mpr c1)])
  · refine lv_iload hx hb dX2_module_11 (lv_at hl 1 rfl) ?_
    refine lv_aload_n hx hb dX2_module_13 rfl (lv_at hl 2 rfl) ?_
    refine va_get (D := (dC, dI)) (ci := 3) (v := .int S) (C := RX2) (T := TX2) (N := 4) hx hb hts in_X2 hown hK hP 0 rfl rfl 1 (by decide) (hts _ q232) (fun _ h9 => h9) rfl dX2_module_14 ?_
    refine lv_iadd hx hb dX2_module_17 ?_
    refine lv_istore (lv' := [(5, .int (row + S)), (6, .int col), (0, .ref aM), (1, .int row), (2, .int col), (3, .int pos), (4, .int bit)]) hx hb dX2_module_18 hl (by decide) rfl (fun ls hl => ?_)
    refine lv_iload hx hb dX2_module_20 (lv_at hl 1 rfl) ?_
    refine lv_iconst (v := 4) hx hb dX2_module_22 (by decide) ?_
    refine lv_aload_n hx hb dX2_module_23 rfl (lv_at hl 2 rfl) ?_
    refine va_get (D := (dC, dI)) (ci := 3) (v := .int S) (C := RX2) (T := TX2) (N := 4) hx hb hts in_X2 hown hK hP 0 rfl rfl 1 (by decide) (hts _ q232) (fun _ h9 => h9) rfl dX2_module_24 ?_
    refine lv_iconst (v := 4) hx hb dX2_module_27 (by decide) ?_
    refine lv_iadd hx hb dX2_module_28 ?_
    refine lv_bipush (v := 8) hx hb dX2_module_29 (by decide) ?_
    refine lv_irem hx hb dX2_module_31 (by decide) ?_
    refine lv_isub hx hb dX2_module_32 ?_
    refine lv_iadd hx hb dX2_module_33 ?_
    refine lv_istore (lv' := [(6, .int (col + (4 - ((S + 4) - (S + 4) / 8 * 8)))), (5, .int (row + S)), (0, .ref aM), (1, .int row), (2, .int col), (3, .int pos), (4, .int bit)]) hx hb dX2_module_34 hl (by decide) rfl (fun ls hl => ?_)
    exact k36 (row + S) (col + pm_k S) ls (lv_sub hl [2, 5, 6, 1, 0] rfl) (by unfold pm_ix; rw [if_pos (Int32.not_le.mp c1)])
set_option maxHeartbeats 4000000 in
set_option maxRecDepth 100000 in
/-- the eight bits of one codeword -/
theorem metX2_utah (l : Launch) (dC : Nat → ClassId) (dI : Nat → Nat → Nat) (sz : Nat) (aM aW aT aQ : Nat) (eT eQ : ClassId) (S : Int32) (n : Nat) (b : Nat → Nat) (T T8 : List pC) (row col pos : Int32) (hT : T.length = n) (h : pm_utah S row col pos T = some T8) : Met l yX2_utah (ws_ yX2_utah cX2_utah 4 none) ({ frames := 1, cells := 0, slots := 0, locals := 26 }) (pd_Pc [.ref aM, .int row, .int col, .int pos] (dC, dI) [(aM, .inr (3, [.ref aW, .int S, .ref aT, .ref aQ])), (aT, .inl (eT, n, .inl (pmd b T))), (aQ, .inl (eQ, 72, .inl (pd_wd b)))] [(eT, .int), (eQ, .int)] sz) (pd_Qv (dC, dI) [(aM, .inr (3, [.ref aW, .int S, .ref aT, .ref aQ])), (aT, .inl (eT, n, .inl (pmd b T8))), (aQ, .inl (eQ, 72, .inl (pd_wd b)))] (va_A [(aM, .inr (3, [.ref aW, .int S, .ref aT, .ref aQ])), (aT, .inl (eT, n, .inl (pmd b T))), (aQ, .inl (eQ, 72, .inl (pd_wd b)))] sz)) 0 0 (va_A [(aM, .inr (3, [.ref aW, .int S, .ref aT, .ref aQ])), (aT, .inl (eT, n, .inl (pmd b T))), (aQ, .inl (eQ, 72, .inl (pd_wd b)))] sz) := by
  refine Met.ofW (cc := cX2_utah) (maxL := 4) (ret := none) (by decide) rfl ?_
  intro p e s m args below meth c s₁ B hml hv
  obtain ⟨rfl, hsz, hP, hK, hD0, hE⟩ := hv
  have hx := B.exec
  have hb := B.bytes
  have hr := B.returns
  have hts := atoms_spec (ws := ws_ yX2_utah cX2_utah 4 none) B.pre
  have hts : ∀ w ∈ lw_all, w.before _ s = true := fun w h => hts w (List.mem_cons_of_mem _ h)
  have hown : s.vm.findClass RX2 = some m.cls := findClass_of_methodNamed B.named
  have hlocks := B.notSynchronized
  subst hsz
  have hD := hD0.self (sz := s.heap.size)
  generalize hAe : va_A [(aM, .inr (3, [.ref aW, .int S, .ref aT, .ref aQ])), (aT, .inl (eT, n, .inl (pmd b T))), (aQ, .inl (eQ, 72, .inl (pd_wd b)))] s.heap.size = A at hD hE ⊢
  have hA : ∀ q : Nat, s.heap.size ≤ q → A q := fun q h => by rw [← hAe]; exact Or.inr h
  have hS : va_S A s.heap s.heap [] := va_S.rf
  have hP : va_P (dC, dI) vwCl [(aM, .inr (3, [.ref aW, .int S, .ref aT, .ref aQ])), (aT, .inl (eT, n, .inl (pmd b T))), (aQ, .inl (eQ, 72, .inl (pd_wd b)))] s.heap := hP
  have hl := lv_entry ([.ref aM, .int row, .int col, .int pos]) (n := 4) (Nat.le_of_ble_eq_true rfl)
  rw [lg_entry_eq]
  generalize (lg_sl ([.ref aM, .int row, .int col, .int pos]) ++ List.replicate (4 - (lg_sl ([.ref aM, .int row, .int col, .int pos])).length) Slot.unset).toArray = ls at hl ⊢
  have hl : lv_has ls 4 [(0, .ref aM), (1, .int row), (2, .int col), (3, .int pos)] := hl
  obtain ⟨T1, T2, T3, T4, T5, T6, T7, h1, h2, h3, h4, h5, h6, h7, h8⟩ := pm_8 h
  refine lv_aload_n hx hb dX2_utah_0 rfl (lv_at hl 0 rfl) ?_
  refine lv_iload_n hx hb dX2_utah_1 rfl (lv_at hl 1 rfl) ?_
  refine lv_iconst (v := 2) hx hb dX2_utah_2 (by decide) ?_
  refine lv_isub hx hb dX2_utah_3 ?_
  refine lv_iload_n hx hb dX2_utah_4 rfl (lv_at hl 2 rfl) ?_
  refine lv_iconst (v := 2) hx hb dX2_utah_5 (by decide) ?_
  refine lv_isub hx hb dX2_utah_6 ?_
  refine lv_iload_n hx hb dX2_utah_7 rfl (lv_at hl 3 rfl) ?_
  refine lv_iconst (v := 1) hx hb dX2_utah_8 (by decide) ?_
  refine pd_goV (ws := [(aM, .inr (3, [.ref aW, .int S, .ref aT, .ref aQ])), (aT, .inl (eT, n, .inl (pmd b T))), (aQ, .inl (eQ, 72, .inl (pd_wd b)))]) (wc := [(aM, .inr (3, [.ref aW, .int S, .ref aT, .ref aQ])), (aT, .inl (eT, n, .inl (pmd b T))), (aQ, .inl (eQ, 72, .inl (pd_wd b)))]) (wr := []) (w1 := [(aM, .inr (3, [.ref aW, .int S, .ref aT, .ref aQ])), (aT, .inl (eT, n, .inl (pmd b T1))), (aQ, .inl (eQ, 72, .inl (pd_wd b)))]) [0, 1, 2] [] hP hD hS hA rfl rfl (by decide) (by decide) (va_runV (As := [.int (row - 2), .int (col - 2), .int pos, .int 1]) (rest := []) ⟨hx, hb, hml, hown, hts⟩ (metX2_module l dC dI _ aM aW aT aQ eT eQ S n b T T1 (row - 2) (col - 2) pos 1 hT h1) (cwV 4 hts (lw_V q258 q260 qs9 q22 q261) rfl rfl rfl (by decide +kernel) ⟨Nat.le_of_ble_eq_true rfl, Nat.le_of_ble_eq_true rfl⟩) ⟨pd_Pc.blind, va_recv hK hP (ci := 3) (q0 := 0) rfl rfl, pd_pre [0, 1, 2] [0, 1] hP hK hD hE hS hA rfl (by decide) rfl⟩ rfl rfl hl.1 rfl (lv_room (Nat.le_of_ble_eq_true rfl)) dX2_utah_9 ⟨Nat.le_of_ble_eq_true rfl, Nat.le_of_ble_eq_true rfl⟩) (fun H locs hP hD hS => ?_)
  have hP : va_P (dC, dI) vwCl [(aM, .inr (3, [.ref aW, .int S, .ref aT, .ref aQ])), (aT, .inl (eT, n, .inl (pmd b T1))), (aQ, .inl (eQ, 72, .inl (pd_wd b)))] H := hP
  have hD : va_D A [(aM, .inr (3, [.ref aW, .int S, .ref aT, .ref aQ])), (aT, .inl (eT, n, .inl (pmd b T1))), (aQ, .inl (eQ, 72, .inl (pd_wd b)))] := hD
  have hT1 : T1.length = n := (pm_mod_len h1).trans hT
  refine lv_aload_n hx hb dX2_utah_12 rfl (lv_at hl 0 rfl) ?_
  refine lv_iload_n hx hb dX2_utah_13 rfl (lv_at hl 1 rfl) ?_
  refine lv_iconst (v := 2) hx hb dX2_utah_14 (by decide) ?_
  refine lv_isub hx hb dX2_utah_15 ?_
  refine lv_iload_n hx hb dX2_utah_16 rfl (lv_at hl 2 rfl) ?_
  refine lv_iconst (v := 1) hx hb dX2_utah_17 (by decide) ?_
  refine lv_isub hx hb dX2_utah_18 ?_
  refine lv_iload_n hx hb dX2_utah_19 rfl (lv_at hl 3 rfl) ?_
  refine lv_iconst (v := 2) hx hb dX2_utah_20 (by decide) ?_
  refine pd_goV (ws := [(aM, .inr (3, [.ref aW, .int S, .ref aT, .ref aQ])), (aT, .inl (eT, n, .inl (pmd b T1))), (aQ, .inl (eQ, 72, .inl (pd_wd b)))]) (wc := [(aM, .inr (3, [.ref aW, .int S, .ref aT, .ref aQ])), (aT, .inl (eT, n, .inl (pmd b T1))), (aQ, .inl (eQ, 72, .inl (pd_wd b)))]) (wr := []) (w1 := [(aM, .inr (3, [.ref aW, .int S, .ref aT, .ref aQ])), (aT, .inl (eT, n, .inl (pmd b T2))), (aQ, .inl (eQ, 72, .inl (pd_wd b)))]) [0, 1, 2] [] hP hD hS hA rfl rfl (by decide) (by decide) (va_runV (As := [.int (row - 2), .int (col - 1), .int pos, .int 2]) (rest := []) ⟨hx, hb, hml, hown, hts⟩ (metX2_module l dC dI _ aM aW aT aQ eT eQ S n b T1 T2 (row - 2) (col - 1) pos 2 hT1 h2) (cwV 4 hts (lw_V q258 q260 qs9 q22 q261) rfl rfl rfl (by decide +kernel) ⟨Nat.le_of_ble_eq_true rfl, Nat.le_of_ble_eq_true rfl⟩) ⟨pd_Pc.blind, va_recv hK hP (ci := 3) (q0 := 0) rfl rfl, pd_pre [0, 1, 2] [0, 1] hP hK hD hE hS hA rfl (by decide) rfl⟩ rfl rfl hl.1 rfl (lv_room (Nat.le_of_ble_eq_true rfl)) dX2_utah_21 ⟨Nat.le_of_ble_eq_true rfl, Nat.le_of_ble_eq_true rfl⟩) (fun H locs hP hD hS => ?_)
  have hP : va_P (dC, dI) vwCl [(aM, .inr (3, [.ref aW, .int S, .ref aT, .ref aQ])), (aT, .inl (eT, n, .inl (pmd b T2))), (aQ, .inl (eQ, 72, .inl (pd_wd b)))] H := hP
  have hD : va_D A [(aM, .inr (3, [.ref aW, .int S, .ref aT, .ref aQ])), (aT, .inl (eT, n, .inl (pmd b T2))), (aQ, .inl (eQ, 72, .inl (pd_wd b)))] := hD
  have hT2 : T2.length = n := (pm_mod_len h2).trans hT1
  refine lv_aload_n hx hb dX2_utah_24 rfl (lv_at hl 0 rfl) ?_
  refine lv_iload_n hx hb dX2_utah_25 rfl (lv_at hl 1 rfl) ?_
  refine lv_iconst (v := 1) hx hb dX2_utah_26 (by decide) ?_
  refine lv_isub hx hb dX2_utah_27 ?_
  refine lv_iload_n hx hb dX2_utah_28 rfl (lv_at hl 2 rfl) ?_
  refine lv_iconst (v := 2) hx hb dX2_utah_29 (by decide) ?_
  refine lv_isub hx hb dX2_utah_30 ?_
  refine lv_iload_n hx hb dX2_utah_31 rfl (lv_at hl 3 rfl) ?_
  refine lv_iconst (v := 3) hx hb dX2_utah_32 (by decide) ?_
  refine pd_goV (ws := [(aM, .inr (3, [.ref aW, .int S, .ref aT, .ref aQ])), (aT, .inl (eT, n, .inl (pmd b T2))), (aQ, .inl (eQ, 72, .inl (pd_wd b)))]) (wc := [(aM, .inr (3, [.ref aW, .int S, .ref aT, .ref aQ])), (aT, .inl (eT, n, .inl (pmd b T2))), (aQ, .inl (eQ, 72, .inl (pd_wd b)))]) (wr := []) (w1 := [(aM, .inr (3, [.ref aW, .int S, .ref aT, .ref aQ])), (aT, .inl (eT, n, .inl (pmd b T3))), (aQ, .inl (eQ, 72, .inl (pd_wd b)))]) [0, 1, 2] [] hP hD hS hA rfl rfl (by decide) (by decide) (va_runV (As := [.int (row - 1), .int (col - 2), .int pos, .int 3]) (rest := []) ⟨hx, hb, hml, hown, hts⟩ (metX2_module l dC dI _ aM aW aT aQ eT eQ S n b T2 T3 (row - 1) (col - 2) pos 3 hT2 h3) (cwV 4 hts (lw_V q258 q260 qs9 q22 q261) rfl rfl rfl (by decide +kernel) ⟨Nat.le_of_ble_eq_true rfl, Nat.le_of_ble_eq_true rfl⟩) ⟨pd_Pc.blind, va_recv hK hP (ci := 3) (q0 := 0) rfl rfl, pd_pre [0, 1, 2] [0, 1] hP hK hD hE hS hA rfl (by decide) rfl⟩ rfl rfl hl.1 rfl (lv_room (Nat.le_of_ble_eq_true rfl)) dX2_utah_33 ⟨Nat.le_of_ble_eq_true rfl, Nat.le_of_ble_eq_true rfl⟩) (fun H locs hP hD hS => ?_)
  have hP : va_P (dC, dI) vwCl [(aM, .inr (3, [.ref aW, .int S, .ref aT, .ref aQ])), (aT, .inl (eT, n, .inl (pmd b T3))), (aQ, .inl (eQ, 72, .inl (pd_wd b)))] H := hP
  have hD : va_D A [(aM, .inr (3, [.ref aW, .int S, .ref aT, .ref aQ])), (aT, .inl (eT, n, .inl (pmd b T3))), (aQ, .inl (eQ, 72, .inl (pd_wd b)))] := hD
  have hT3 : T3.length = n := (pm_mod_len h3).trans hT2
  refine lv_aload_n hx hb dX2_utah_36 rfl (lv_at hl 0 rfl) ?_
  refine lv_iload_n hx hb dX2_utah_37 rfl (lv_at hl 1 rfl) ?_
  refine lv_iconst (v := 1) hx hb dX2_utah_38 (by decide) ?_
  refine lv_isub hx hb dX2_utah_39 ?_
  refine lv_iload_n hx hb dX2_utah_40 rfl (lv_at hl 2 rfl) ?_
  refine lv_iconst (v := 1) hx hb dX2_utah_41 (by decide) ?_
  refine lv_isub hx hb dX2_utah_42 ?_
  refine lv_iload_n hx hb dX2_utah_43 rfl (lv_at hl 3 rfl) ?_
  refine lv_iconst (v := 4) hx hb dX2_utah_44 (by decide) ?_
  refine pd_goV (ws := [(aM, .inr (3, [.ref aW, .int S, .ref aT, .ref aQ])), (aT, .inl (eT, n, .inl (pmd b T3))), (aQ, .inl (eQ, 72, .inl (pd_wd b)))]) (wc := [(aM, .inr (3, [.ref aW, .int S, .ref aT, .ref aQ])), (aT, .inl (eT, n, .inl (pmd b T3))), (aQ, .inl (eQ, 72, .inl (pd_wd b)))]) (wr := []) (w1 := [(aM, .inr (3, [.ref aW, .int S, .ref aT, .ref aQ])), (aT, .inl (eT, n, .inl (pmd b T4))), (aQ, .inl (eQ, 72, .inl (pd_wd b)))]) [0, 1, 2] [] hP hD hS hA rfl rfl (by decide) (by decide) (va_runV (As := [.int (row - 1), .int (col - 1), .int pos, .int 4]) (rest := []) ⟨hx, hb, hml, hown, hts⟩ (metX2_module l dC dI _ aM aW aT aQ eT eQ S n b T3 T4 (row - 1) (col - 1) pos 4 hT3 h4) (cwV 4 hts (lw_V q258 q260 qs9 q22 q261) rfl rfl rfl (by decide +kernel) ⟨Nat.le_of_ble_eq_true rfl, Nat.le_of_ble_eq_true rfl⟩) ⟨pd_Pc.blind, va_recv hK hP (ci := 3) (q0 := 0) rfl rfl, pd_pre [0, 1, 2] [0, 1] hP hK hD hE hS hA rfl (by decide) rfl⟩ rfl rfl hl.1 rfl (lv_room (Nat.le_of_ble_eq_true rfl)) dX2_utah_45 ⟨Nat.le_of_ble_eq_true rfl, Nat.le_of_ble_eq_true rfl⟩) (fun H locs hP hD hS => ?_)
  have hP : va_P (dC, dI) vwCl [(aM, .inr (3, [.ref aW, .int S, .ref aT, .ref aQ])), (aT, .inl (eT, n, .inl (pmd b T4))), (aQ, .inl (eQ, 72, .inl (pd_wd b)))] H := hP
  have hD : va_D A [(aM, .inr (3, [.ref aW, .int S, .ref aT, .ref aQ])), (aT, .inl (eT, n, .inl (pmd b T4))), (aQ, .inl (eQ, 72, .inl (pd_wd b)))] := hD
  have hT4 : T4.length = n := (pm_mod_len h4).trans hT3
  refine lv_aload_n hx hb dX2_utah_48 rfl (lv_at hl 0 rfl) ?_
  refine lv_iload_n hx hb dX2_utah_49 rfl (lv_at hl 1 rfl) ?_
  refine lv_iconst (v := 1) hx hb dX2_utah_50 (by decide) ?_
  refine lv_isub hx hb dX2_utah_51 ?_
  refine lv_iload_n hx hb dX2_utah_52 rfl (lv_at hl 2 rfl) ?_
  refine lv_iload_n hx hb dX2_utah_53 rfl (lv_at hl 3 rfl) ?_
  refine lv_iconst (v := 5) hx hb dX2_utah_54 (by decide) ?_
  refine pd_goV (ws := [(aM, .inr (3, [.ref aW, .int S, .ref aT, .ref aQ])), (aT, .inl (eT, n, .inl (pmd b T4))), (aQ, .inl (eQ, 72, .inl (pd_wd b)))]) (wc := [(aM, .inr (3, [.ref aW, .int S, .ref aT, .ref aQ])), (aT, .inl (eT, n, .inl (pmd b T4))), (aQ, .inl (eQ, 72, .inl (pd_wd b)))]) (wr := []) (w1 := [(aM, .inr (3, [.ref aW, .int S, .ref aT, .ref aQ])), (aT, .inl (eT, n, .inl (pmd b T5))), (aQ, .inl (eQ, 72, .inl (pd_wd b)))]) [0, 1, 2] [] hP hD hS hA rfl rfl (by decide) (by decide) (va_runV (As := [.int (row - 1), .int col, .int pos, .int 5]) (rest := []) ⟨hx, hb, hml, hown, hts⟩ (metX2_module l dC dI _ aM aW aT aQ eT eQ S n b T4 T5 (row - 1) col pos 5 hT4 h5) (cwV 4 hts (lw_V q258 q260 qs9 q22 q261) rfl rfl rfl (by decide +kernel) ⟨Nat.le_of_ble_eq_true rfl, Nat.le_of_ble_eq_true rfl⟩) ⟨pd_Pc.blind, va_recv hK hP (ci := 3) (q0 := 0) rfl rfl, pd_pre [0, 1, 2] [0, 1] hP hK hD hE hS hA rfl (by decide) rfl⟩ rfl rfl hl.1 rfl (lv_room (Nat.le_of_ble_eq_true rfl)) dX2_utah_55 ⟨Nat.le_of_ble_eq_true rfl, Nat.le_of_ble_eq_true rfl⟩) (fun H locs hP hD hS => ?_)
  have hP : va_P (dC, dI) vwCl [(aM, .inr (3, [.ref aW, .int S, .ref aT, .ref aQ])), (aT, .inl (eT, n, .inl (pmd b T5))), (aQ, .inl (eQ, 72, .inl (pd_wd b)))] H := hP
  have hD : va_D A [(aM, .inr (3, [.ref aW, .int S, .ref aT, .ref aQ])), (aT, .inl (eT, n, .inl (pmd b T5))), (aQ, .inl (eQ, 72, .inl (pd_wd b)))] := hD
  have hT5 : T5.length = n := (pm_mod_len h5).trans hT4
  refine lv_aload_n hx hb dX2_utah_58 rfl (lv_at hl 0 rfl) ?_
  refine lv_iload_n hx hb dX2_utah_59 rfl (lv_at hl 1 rfl) ?_
  refine lv_iload_n hx hb dX2_utah_60 rfl (lv_at hl 2 rfl) ?_
  refine lv_iconst (v := 2) hx hb dX2_utah_61 (by decide) ?_
  refine lv_isub hx hb dX2_utah_62 ?_
  refine lv_iload_n hx hb dX2_utah_63 rfl (lv_at hl 3 rfl) ?_
  refine lv_bipush (v := 6) hx hb dX2_utah_64 (by decide) ?_
  refine pd_goV (ws := [(aM, .inr (3, [.ref aW, .int S, .ref aT, .ref aQ])), (aT, .inl (eT, n, .inl (pmd b T5))), (aQ, .inl (eQ, 72, .inl (pd_wd b)))]) (wc := [(aM, .inr (3, [.ref aW, .int S, .ref aT, .ref aQ])), (aT, .inl (eT, n, .inl (pmd b T5))), (aQ, .inl (eQ, 72, .inl (pd_wd b)))]) (wr := []) (w1 := [(aM, .inr (3, [.ref aW, .int S, .ref aT, .ref aQ])), (aT, .inl (eT, n, .inl (pmd b T6))), (aQ, .inl (eQ, 72, .inl (pd_wd b)))]) [0, 1, 2] [] hP hD hS hA rfl rfl (by decide) (by decide) (va_runV (As := [.int row, .int (col - 2), .int pos, .int 6]) (rest := []) ⟨hx, hb, hml, hown, hts⟩ (metX2_module l dC dI _ aM aW aT aQ eT eQ S n b T5 T6 row (col - 2) pos 6 hT5 h6) (cwV 4 hts (lw_V q258 q260 qs9 q22 q261) rfl rfl rfl (by decide +kernel) ⟨Nat.le_of_ble_eq_true rfl, Nat.le_of_ble_eq_true rfl⟩) ⟨pd_Pc.blind, va_recv hK hP (ci := 3) (q0 := 0) rfl rfl, pd_pre [0, 1, 2] [0, 1] hP hK hD hE hS hA rfl (by decide) rfl⟩ rfl rfl hl.1 rfl (lv_room (Nat.le_of_ble_eq_true rfl)) dX2_utah_66 ⟨Nat.le_of_ble_eq_true rfl, Nat.le_of_ble_eq_true rfl⟩) (fun H locs hP hD hS => ?_)
  have hP : va_P (dC, dI) vwCl [(aM, .inr (3, [.ref aW, .int S, .ref aT, .ref aQ])), (aT, .inl (eT, n, .inl (pmd b T6))), (aQ, .inl (eQ, 72, .inl (pd_wd b)))] H := hP
  have hD : va_D A [(aM, .inr (3, [.ref aW, .int S, .ref aT, .ref aQ])), (aT, .inl (eT, n, .inl (pmd b T6))), (aQ, .inl (eQ, 72, .inl (pd_wd b)))] := hD
  have hT6 : T6.length = n := (pm_mod_len h6).trans hT5
  refine lv_aload_n hx hb dX2_utah_69 rfl (lv_at hl 0 rfl) ?_
  refine lv_iload_n hx hb dX2_utah_70 rfl (lv_at hl 1 rfl) ?_
  refine lv_iload_n hx hb dX2_utah_71 rfl (lv_at hl 2 rfl) ?_
  refine lv_iconst (v := 1) hx hb dX2_utah_72 (by decide) ?_
  refine lv_isub hx hb dX2_utah_73 ?_
  refine lv_iload_n hx hb dX2_utah_74 rfl (lv_at hl 3 rfl) ?_
  refine lv_bipush (v := 7) hx hb dX2_utah_75 (by decide) ?_
  refine pd_goV (ws := [(aM, .inr (3, [.ref aW, .int S, .ref aT, .ref aQ])), (aT, .inl (eT, n, .inl (pmd b T6))), (aQ, .inl (eQ, 72, .inl (pd_wd b)))]) (wc := [(aM, .inr (3, [.ref aW, .int S, .ref aT, .ref aQ])), (aT, .inl (eT, n, .inl (pmd b T6))), (aQ, .inl (eQ, 72, .inl (pd_wd b)))]) (wr := []) (w1 := [(aM, .inr (3, [.ref aW, .int S, .ref aT, .ref aQ])), (aT, .inl (eT, n, .inl (pmd b T7))), (aQ, .inl (eQ, 72, .inl (pd_wd b)))]) [0, 1, 2] [] hP hD hS hA rfl rfl (by decide) (by decide) (va_runV (As := [.int row, .int (col - 1), .int pos, .int 7]) (rest := []) ⟨hx, hb, hml, hown, hts⟩ (metX2_module l dC dI _ aM aW aT aQ eT eQ S n b T6 T7 row (col - 1) pos 7 hT6 h7) (cwV 4 hts (lw_V q258 q260 qs9 q22 q261) rfl rfl rfl (by decide +kernel) ⟨Nat.le_of_ble_eq_true rfl, Nat.le_of_ble_eq_true rfl⟩) ⟨pd_Pc.blind, va_recv hK hP (ci := 3) (q0 := 0) rfl rfl, pd_pre [0, 1, 2] [0, 1] hP hK hD hE hS hA rfl (by decide) rfl⟩ rfl rfl hl.1 rfl (lv_room (Nat.le_of_ble_eq_true rfl)) dX2_utah_77 ⟨Nat.le_of_ble_eq_true rfl, Nat.le_of_ble_eq_true rfl⟩) (fun H locs hP hD hS => ?_)
  have hP : va_P (dC, dI) vwCl [(aM, .inr (3, [.ref aW, .int S, .ref aT, .ref aQ])), (aT, .inl (eT, n, .inl (pmd b T7))), (aQ, .inl (eQ, 72, .inl (pd_wd b)))] H := hP
  have hD : va_D A [(aM, .inr (3, [.ref aW, .int S, .ref aT, .ref aQ])), (aT, .inl (eT, n, .inl (pmd b T7))), (aQ, .inl (eQ, 72, .inl (pd_wd b)))] := hD
  have hT7 : T7.length = n := (pm_mod_len h7).trans hT6
  refine lv_aload_n hx hb dX2_utah_80 rfl (lv_at hl 0 rfl) ?_
  refine lv_iload_n hx hb dX2_utah_81 rfl (lv_at hl 1 rfl) ?_
  refine lv_iload_n hx hb dX2_utah_82 rfl (lv_at hl 2 rfl) ?_
  refine lv_iload_n hx hb dX2_utah_83 rfl (lv_at hl 3 rfl) ?_
  refine lv_bipush (v := 8) hx hb dX2_utah_84 (by decide) ?_
  refine pd_goV (ws := [(aM, .inr (3, [.ref aW, .int S, .ref aT, .ref aQ])), (aT, .inl (eT, n, .inl (pmd b T7))), (aQ, .inl (eQ, 72, .inl (pd_wd b)))]) (wc := [(aM, .inr (3, [.ref aW, .int S, .ref aT, .ref aQ])), (aT, .inl (eT, n, .inl (pmd b T7))), (aQ, .inl (eQ, 72, .inl (pd_wd b)))]) (wr := []) (w1 := [(aM, .inr (3, [.ref aW, .int S, .ref aT, .ref aQ])), (aT, .inl (eT, n, .inl (pmd b T8))), (aQ, .inl (eQ, 72, .inl (pd_wd b)))]) [0, 1, 2] [] hP hD hS hA rfl rfl (by decide) (by decide) (va_runV (As := [.int row, .int col, .int pos, .int 8]) (rest := []) ⟨hx, hb, hml, hown, hts⟩ (metX2_module l dC dI _ aM aW aT aQ eT eQ S n b T7 T8 row col pos 8 hT7 h8) (cwV 4 hts (lw_V q258 q260 qs9 q22 q261) rfl rfl rfl (by decide +kernel) ⟨Nat.le_of_ble_eq_true rfl, Nat.le_of_ble_eq_true rfl⟩) ⟨pd_Pc.blind, va_recv hK hP (ci := 3) (q0 := 0) rfl rfl, pd_pre [0, 1, 2] [0, 1] hP hK hD hE hS hA rfl (by decide) rfl⟩ rfl rfl hl.1 rfl (lv_room (Nat.le_of_ble_eq_true rfl)) dX2_utah_86 ⟨Nat.le_of_ble_eq_true rfl, Nat.le_of_ble_eq_true rfl⟩) (fun H locs hP hD hS => ?_)
  have hP : va_P (dC, dI) vwCl [(aM, .inr (3, [.ref aW, .int S, .ref aT, .ref aQ])), (aT, .inl (eT, n, .inl (pmd b T8))), (aQ, .inl (eQ, 72, .inl (pd_wd b)))] H := hP
  have hD : va_D A [(aM, .inr (3, [.ref aW, .int S, .ref aT, .ref aQ])), (aT, .inl (eT, n, .inl (pmd b T8))), (aQ, .inl (eQ, 72, .inl (pd_wd b)))] := hD
  exact W.vret hx hb hr (fun t ht hW => ⟨⟨(), rfl, trivial, by rw [ht]; exact hP, hD⟩, hS.F ht⟩) hS.2.2 dX2_utah_89
set_option maxHeartbeats 4000000 in
set_option maxRecDepth 100000 in
/-- the eight bits of one codeword -/
theorem metX2_cornerOne (l : Launch) (dC : Nat → ClassId) (dI : Nat → Nat → Nat) (sz : Nat) (aM aW aT aQ : Nat) (eT eQ : ClassId) (S : Int32) (n : Nat) (b : Nat → Nat) (T T8 : List pC) (pos : Int32) (hT : T.length = n) (h : pm_c1 S pos T = some T8) : Met l yX2_cornerOne (ws_ yX2_cornerOne cX2_cornerOne 2 none) ({ frames := 1, cells := 0, slots := 0, locals := 26 }) (pd_Pc [.ref aM, .int pos] (dC, dI) [(aM, .inr (3, [.ref aW, .int S, .ref aT, .ref aQ])), (aT, .inl (eT, n, .inl (pmd b T))), (aQ, .inl (eQ, 72, .inl (pd_wd b)))] [(eT, .int), (eQ, .int)] sz) (pd_Qv (dC, dI) [(aM, .inr (3, [.ref aW, .int S, .ref aT, .ref aQ])), (aT, .inl (eT, n, .inl (pmd b T8))), (aQ, .inl (eQ, 72, .inl (pd_wd b)))] (va_A [(aM, .inr (3, [.ref aW, .int S, .ref aT, .ref aQ])), (aT, .inl (eT, n, .inl (pmd b T))), (aQ, .inl (eQ, 72, .inl (pd_wd b)))] sz)) 0 0 (va_A [(aM, .inr (3, [.ref aW, .int S, .ref aT, .ref aQ])), (aT, .inl (eT, n, .inl (pmd b T))), (aQ, .inl (eQ, 72, .inl (pd_wd b)))] sz) := by
  refine Met.ofW (cc := cX2_cornerOne) (maxL := 2) (ret := none) (by decide) rfl ?_
  intro p e s m args below meth c s₁ B hml hv
  obtain ⟨rfl, hsz, hP, hK, hD0, hE⟩ := hv
  have hx := B.exec
  have hb := B.bytes
  have hr := B.returns
  have hts := atoms_spec (ws := ws_ yX2_cornerOne cX2_cornerOne 2 none) B.pre
  have hts : ∀ w ∈ lw_all, w.before _ s = true := fun w h => hts w (List.mem_cons_of_mem _ h)
  have hown : s.vm.findClass RX2 = some m.cls := findClass_of_methodNamed B.named
  have hlocks := B.notSynchronized
  subst hsz
  have hD := hD0.self (sz := s.heap.size)
  generalize hAe : va_A [(aM, .inr (3, [.ref aW, .int S, .ref aT, .ref aQ])), (aT, .inl (eT, n, .inl (pmd b T))), (aQ, .inl (eQ, 72, .inl (pd_wd b)))] s.heap.size = A at hD hE ⊢
  have hA : ∀ q : Nat, s.heap.size ≤ q → A q := fun q h => by rw [← hAe]; exact Or.inr h
  have hS : va_S A s.heap s.heap [] := va_S.rf
  have hP : va_P (dC, dI) vwCl [(aM, .inr (3, [.ref aW, .int S, .ref aT, .ref aQ])), (aT, .inl (eT, n, .inl (pmd b T))), (aQ, .inl (eQ, 72, .inl (pd_wd b)))] s.heap := hP
  have hl := lv_entry ([.ref aM, .int pos]) (n := 2) (Nat.le_of_ble_eq_true rfl)
  rw [lg_entry_eq]
  generalize (lg_sl ([.ref aM, .int pos]) ++ List.replicate (2 - (lg_sl ([.ref aM, .int pos])).length) Slot.unset).toArray = ls at hl ⊢
  have hl : lv_has ls 2 [(0, .ref aM), (1, .int pos)] := hl
  obtain ⟨T1, T2, T3, T4, T5, T6, T7, h1, h2, h3, h4, h5, h6, h7, h8⟩ := pm_8 h
  refine lv_aload_n hx hb dX2_cornerOne_0 rfl (lv_at hl 0 rfl) ?_
  refine lv_aload_n hx hb dX2_cornerOne_1 rfl (lv_at hl 0 rfl) ?_
  refine va_get (D := (dC, dI)) (ci := 3) (v := .int S) (C := RX2) (T := TX2) (N := 4) hx hb hts in_X2 hown hK hP 0 rfl rfl 1 (by decide) (hts _ q232) (fun _ h9 => h9) rfl dX2_cornerOne_2 ?_
  refine lv_iconst (v := 1) hx hb dX2_cornerOne_5 (by decide) ?_
  refine lv_isub hx hb dX2_cornerOne_6 ?_
  refine lv_iconst (v := 0) hx hb dX2_cornerOne_7 (by decide) ?_
  refine lv_iload_n hx hb dX2_cornerOne_8 rfl (lv_at hl 1 rfl) ?_
  refine lv_iconst (v := 1) hx hb dX2_cornerOne_9 (by decide) ?_
  refine pd_goV (ws := [(aM, .inr (3, [.ref aW, .int S, .ref aT, .ref aQ])), (aT, .inl (eT, n, .inl (pmd b T))), (aQ, .inl (eQ, 72, .inl (pd_wd b)))]) (wc := [(aM, .inr (3, [.ref aW, .int S, .ref aT, .ref aQ])), (aT, .inl (eT, n, .inl (pmd b T))), (aQ, .inl (eQ, 72, .inl (pd_wd b)))]) (wr := []) (w1 := [(aM, .inr (3, [.ref aW, .int S, .ref aT, .ref aQ])), (aT, .inl (eT, n, .inl (pmd b T1))), (aQ, .inl (eQ, 72, .inl (pd_wd b)))]) [0, 1, 2] [] hP hD hS hA rfl rfl (by decide) (by decide) (va_runV (As := [.int (S - 1), .int 0, .int pos, .int 1]) (rest := []) ⟨hx, hb, hml, hown, hts⟩ (metX2_module l dC dI _ aM aW aT aQ eT eQ S n b T T1 (S - 1) 0 pos 1 hT h1) (cwV 4 hts (lw_V q258 q260 qs9 q22 q261) rfl rfl rfl (by decide +kernel) ⟨Nat.le_of_ble_eq_true rfl, Nat.le_of_ble_eq_true rfl⟩) ⟨pd_Pc.blind, va_recv hK hP (ci := 3) (q0 := 0) rfl rfl, pd_pre [0, 1, 2] [0, 1] hP hK hD hE hS hA rfl (by decide) rfl⟩ rfl rfl hl.1 rfl (lv_room (Nat.le_of_ble_eq_true rfl)) dX2_cornerOne_10 ⟨Nat.le_of_ble_eq_true rfl, Nat.le_of_ble_eq_true rfl⟩) (fun H locs hP hD hS => ?_)
  have hP : va_P (dC, dI) vwCl [(aM, .inr (3, [.ref aW, .int S, .ref aT, .ref aQ])), (aT, .inl (eT, n, .inl (pmd b T1))), (aQ, .inl (eQ, 72, .inl (pd_wd b)))] H := hP
  have hD : va_D A [(aM, .inr (3, [.ref aW, .int S, .ref aT, .ref aQ])), (aT, .inl (eT, n, .inl (pmd b T1))), (aQ, .inl (eQ, 72, .inl (pd_wd b)))] := hD
  have hT1 : T1.length = n := (pm_mod_len h1).trans hT
  refine lv_aload_n hx hb dX2_cornerOne_13 rfl (lv_at hl 0 rfl) ?_
  refine lv_aload_n hx hb dX2_cornerOne_14 rfl (lv_at hl 0 rfl) ?_
  refine va_get (D := (dC, dI)) (ci := 3) (v := .int S) (C := RX2) (T := TX2) (N := 4) hx hb hts in_X2 hown hK hP 0 rfl rfl 1 (by decide) (hts _ q232) (fun _ h9 => h9) rfl dX2_cornerOne_15 ?_
  refine lv_iconst (v := 1) hx hb dX2_cornerOne_18 (by decide) ?_
  refine lv_isub hx hb dX2_cornerOne_19 ?_
  refine lv_iconst (v := 1) hx hb dX2_cornerOne_20 (by decide) ?_
  refine lv_iload_n hx hb dX2_cornerOne_21 rfl (lv_at hl 1 rfl) ?_
  refine lv_iconst (v := 2) hx hb dX2_cornerOne_22 (by decide) ?_
  refine pd_goV (ws := [(aM, .inr (3, [.ref aW, .int S, .ref aT, .ref aQ])), (aT, .inl (eT, n, .inl (pmd b T1))), (aQ, .inl (eQ, 72, .inl (pd_wd b)))]) (wc := [(aM, .inr (3, [.ref aW, .int S, .ref aT, .ref aQ])), (aT, .inl (eT, n, .inl (pmd b T1))), (aQ, .inl (eQ, 72, .inl (pd_wd b)))]) (wr := []) (w1 := [(aM, .inr (3, [.ref aW, .int S, .ref aT, .ref aQ])), (aT, .inl (eT, n, .inl (pmd b T2))), (aQ, .inl (eQ, 72, .inl (pd_wd b)))]) [0, 1, 2] [] hP hD hS hA rfl rfl (by decide) (by decide) (va_runV (As := [.int (S - 1), .int 1, .int pos, .int 2]) (rest := []) ⟨hx, hb, hml, hown, hts⟩ (metX2_module l dC dI _ aM aW aT aQ eT eQ S n b T1 T2 (S - 1) 1 pos 2 hT1 h2) (cwV 4 hts (lw_V q258 q260 qs9 q22 q261) rfl rfl rfl (by decide +kernel) ⟨Nat.le_of_ble_eq_true rfl, Nat.le_of_ble_eq_true rfl⟩) ⟨pd_Pc.blind, va_recv hK hP (ci := 3) (q0 := 0) rfl rfl, pd_pre [0, 1, 2] [0, 1] hP hK hD hE hS hA rfl (by decide) rfl⟩ rfl rfl hl.1 rfl (lv_room (Nat.le_of_ble_eq_true rfl)) dX2_cornerOne_23 ⟨Nat.le_of_ble_eq_true rfl, Nat.le_of_ble_eq_true rfl⟩) (fun H locs hP hD hS => ?_)
  have hP : va_P (dC, dI) vwCl [(aM, .inr (3, [.ref aW, .int S, .ref aT, .ref aQ])), (aT, .inl (eT, n, .inl (pmd b T2))), (aQ, .inl (eQ, 72, .inl (pd_wd b)))] H := hP
  have hD : va_D A [(aM, .inr (3, [.ref aW, .int S, .ref aT, .ref aQ])), (aT, .inl (eT, n, .inl (pmd b T2))), (aQ, .inl (eQ, 72, .inl (pd_wd b)))] := hD
  have hT2 : T2.length = n := (pm_mod_len h2).trans hT1
  refine lv_aload_n hx hb dX2_cornerOne_26 rfl (lv_at hl 0 rfl) ?_
  refine lv_aload_n hx hb dX2_cornerOne_27 rfl (lv_at hl 0 rfl) ?_
  refine va_get (D := (dC, dI)) (ci := 3) (v := .int S) (C := RX2) (T := TX2) (N := 4) hx hb hts in_X2 hown hK hP 0 rfl rfl 1 (by decide) (hts _ q232) (fun _ h9 => h9) rfl dX2_cornerOne_28 ?_
  refine lv_iconst (v := 1) hx hb dX2_cornerOne_31 (by decide) ?_
  refine lv_isub hx hb dX2_cornerOne_32 ?_
  refine lv_iconst (v := 2) hx hb dX2_cornerOne_33 (by decide) ?_
  refine lv_iload_n hx hb dX2_cornerOne_34 rfl (lv_at hl 1 rfl) ?_
  refine lv_iconst (v := 3) hx hb dX2_cornerOne_35 (by decide) ?_
  refine pd_goV (ws := [(aM, .inr (3, [.ref aW, .int S, .ref aT, .ref aQ])), (aT, .inl (eT, n, .inl (pmd b T2))), (aQ, .inl (eQ, 72, .inl (pd_wd b)))]) (wc := [(aM, .inr (3, [.ref aW, .int S, .ref aT, .ref aQ])), (aT, .inl (eT, n, .inl (pmd b T2))), (aQ, .inl (eQ, 72, .inl (pd_wd b)))]) (wr := []) (w1 := [(aM, .inr (3, [.ref aW, .int S, .ref aT, .ref aQ])), (aT, .inl (eT, n, .inl (pmd b T3))), (aQ, .inl (eQ, 72, .inl (pd_wd b)))]) [0, 1, 2] [] hP hD hS hA rfl rfl (by decide) (by decide) (va_runV (As := [.int (S - 1), .int 2, .int pos, .int 3]) (rest := []) ⟨hx, hb, hml, hown, hts⟩ (metX2_module l dC dI _ aM aW aT aQ eT eQ S n b T2 T3 (S - 1) 2 pos 3 hT2 h3) (cwV 4 hts (lw_V q258 q260 qs9 q22 q261) rfl rfl rfl (by decide +kernel) ⟨Nat.le_of_ble_eq_true rfl, Nat.le_of_ble_eq_true rfl⟩) ⟨pd_Pc.blind, va_recv hK hP (ci := 3) (q0 := 0) rfl rfl, pd_pre [0, 1, 2] [0, 1] hP hK hD hE hS hA rfl (by decide) rfl⟩ rfl rfl hl.1 rfl (lv_room (Nat.le_of_ble_eq_true rfl)) dX2_cornerOne_36 ⟨Nat.le_of_ble_eq_true rfl, Nat.le_of_ble_eq_true rfl⟩) (fun H locs hP hD hS => ?_)
  have hP : va_P (dC, dI) vwCl [(aM, .inr (3, [.ref aW, .int S, .ref aT, .ref aQ])), (aT, .inl (eT, n, .inl (pmd b T3))), (aQ, .inl (eQ, 72, .inl (pd_wd b)))] H := hP
  have hD : va_D A [(aM, .inr (3, [.ref aW, .int S, .ref aT, .ref aQ])), (aT, .inl (eT, n, .inl (pmd b T3))), (aQ, .inl (eQ, 72, .inl (pd_wd b)))] := hD
  have hT3 : T3.length = n := (pm_mod_len h3).trans hT2
  refine lv_aload_n hx hb dX2_cornerOne_39 rfl (lv_at hl 0 rfl) ?_
  refine lv_iconst (v := 0) hx hb dX2_cornerOne_40 (by decide) ?_
  refine lv_aload_n hx hb dX2_cornerOne_41 rfl (lv_at hl 0 rfl) ?_
  refine va_get (D := (dC, dI)) (ci := 3) (v := .int S) (C := RX2) (T := TX2) (N := 4) hx hb hts in_X2 hown hK hP 0 rfl rfl 1 (by decide) (hts _ q232) (fun _ h9 => h9) rfl dX2_cornerOne_42 ?_
  refine lv_iconst (v := 2) hx hb dX2_cornerOne_45 (by decide) ?_
  refine lv_isub hx hb dX2_cornerOne_46 ?_
  refine lv_iload_n hx hb dX2_cornerOne_47 rfl (lv_at hl 1 rfl) ?_
  refine lv_iconst (v := 4) hx hb dX2_cornerOne_48 (by decide) ?_
  refine pd_goV (ws := [(aM, .inr (3, [.ref aW, .int S, .ref aT, .ref aQ])), (aT, .inl (eT, n, .inl (pmd b T3))), (aQ, .inl (eQ, 72, .inl (pd_wd b)))]) (wc := [(aM, .inr (3, [.ref aW, .int S, .ref aT, .ref aQ])), (aT, .inl (eT, n, .inl (pmd b T3))), (aQ, .inl (eQ, 72, .inl (pd_wd b)))]) (wr := []) (w1 := [(aM, .inr (3, [.ref aW, .int S, .ref aT, .ref aQ])), (aT, .inl (eT, n, .inl (pmd b T4))), (aQ, .inl (eQ, 72, .inl (pd_wd b)))]) [0, 1, 2] [] hP hD hS hA rfl rfl (by decide) (by decide) (va_runV (As := [.int 0, .int (S - 2), .int pos, .int 4]) (rest := []) ⟨hx, hb, hml, hown, hts⟩ (metX2_module l dC dI _ aM aW aT aQ eT eQ S n b T3 T4 0 (S - 2) pos 4 hT3 h4) (cwV 4 hts (lw_V q258 q260 qs9 q22 q261) rfl rfl rfl (by decide +kernel) ⟨Nat.le_of_ble_eq_true rfl, Nat.le_of_ble_eq_true rfl⟩) ⟨pd_Pc.blind, va_recv hK hP (ci := 3) (q0 := 0) rfl rfl, pd_pre [0, 1, 2] [0, 1] hP hK hD hE hS hA rfl (by decide) rfl⟩ rfl rfl hl.1 rfl (lv_room (Nat.le_of_ble_eq_true rfl)) dX2_cornerOne_49 ⟨Nat.le_of_ble_eq_true rfl, Nat.le_of_ble_eq_true rfl⟩) (fun H locs hP hD hS => ?_)
  have hP : va_P (dC, dI) vwCl [(aM, .inr (3, [.ref aW, .int S, .ref aT, .ref aQ])), (aT, .inl (eT, n, .inl (pmd b T4))), (aQ, .inl (eQ, 72, .inl (pd_wd b)))] H := hP
  have hD : va_D A [(aM, .inr (3, [.ref aW, .int S, .ref aT, .ref aQ])), (aT, .inl (eT, n, .inl (pmd b T4))), (aQ, .inl (eQ, 72, .inl (pd_wd b)))] := hD
  have hT4 : T4.length = n := (pm_mod_len h4).trans hT3
  refine lv_aload_n hx hb dX2_cornerOne_52 rfl (lv_at hl 0 rfl) ?_
  refine lv_iconst (v := 0) hx hb dX2_cornerOne_53 (by decide) ?_
  refine lv_aload_n hx hb dX2_cornerOne_54 rfl (lv_at hl 0 rfl) ?_
  refine va_get (D := (dC, dI)) (ci := 3) (v := .int S) (C := RX2) (T := TX2) (N := 4) hx hb hts in_X2 hown hK hP 0 rfl rfl 1 (by decide) (hts _ q232) (fun _ h9 => h9) rfl dX2_cornerOne_55 ?_
  refine lv_iconst (v := 1) hx hb dX2_cornerOne_58 (by decide) ?_
  refine lv_isub hx hb dX2_cornerOne_59 ?_
  refine lv_iload_n hx hb dX2_cornerOne_60 rfl (lv_at hl 1 rfl) ?_
  refine lv_iconst (v := 5) hx hb dX2_cornerOne_61 (by decide) ?_
  refine pd_goV (ws := [(aM, .inr (3, [.ref aW, .int S, .ref aT, .ref aQ])), (aT, .inl (eT, n, .inl (pmd b T4))), (aQ, .inl (eQ, 72, .inl (pd_wd b)))]) (wc := [(aM, .inr (3, [.ref aW, .int S, .ref aT, .ref aQ])), (aT, .inl (eT, n, .inl (pmd b T4))), (aQ, .inl (eQ, 72, .inl (pd_wd b)))]) (wr := []) (w1 := [(aM, .inr (3, [.ref aW, .int S, .ref aT, .ref aQ])), (aT, .inl (eT, n, .inl (pmd b T5))), (aQ, .inl (eQ, 72, .inl (pd_wd b)))]) [0, 1, 2] [] hP hD hS hA rfl rfl (by decide) (by decide) (va_runV (As := [.int 0, .int (S - 1), .int pos, .int 5]) (rest := []) ⟨hx, hb, hml, hown, hts⟩ (metX2_module l dC dI _ aM aW aT aQ eT eQ S n b T4 T5 0 (S - 1) pos 5 hT4 h5) (cwV 4 hts (lw_V q258 q260 qs9 q22 q261) rfl rfl rfl (by decide +kernel) ⟨Nat.le_of_ble_eq_true rfl, Nat.le_of_ble_eq_true rfl⟩) ⟨pd_Pc.blind, va_recv hK hP (ci := 3) (q0 := 0) rfl rfl, pd_pre [0, 1, 2] [0, 1] hP hK hD hE hS hA rfl (by decide) rfl⟩ rfl rfl hl.1 rfl (lv_room (Nat.le_of_ble_eq_true rfl)) dX2_cornerOne_62 ⟨Nat.le_of_ble_eq_true rfl, Nat.le_of_ble_eq_true rfl⟩) (fun H locs hP hD hS => ?_)
  have hP : va_P (dC, dI) vwCl [(aM, .inr (3, [.ref aW, .int S, .ref aT, .ref aQ])), (aT, .inl (eT, n, .inl (pmd b T5))), (aQ, .inl (eQ, 72, .inl (pd_wd b)))] H := hP
  have hD : va_D A [(aM, .inr (3, [.ref aW, .int S, .ref aT, .ref aQ])), (aT, .inl (eT, n, .inl (pmd b T5))), (aQ, .inl (eQ, 72, .inl (pd_wd b)))] := hD
  have hT5 : T5.length = n := (pm_mod_len h5).trans hT4
  refine lv_aload_n hx hb dX2_cornerOne_65 rfl (lv_at hl 0 rfl) ?_
  refine lv_iconst (v := 1) hx hb dX2_cornerOne_66 (by decide) ?_
  refine lv_aload_n hx hb dX2_cornerOne_67 rfl (lv_at hl 0 rfl) ?_
  refine va_get (D := (dC, dI)) (ci := 3) (v := .int S) (C := RX2) (T := TX2) (N := 4) hx hb hts in_X2 hown hK hP 0 rfl rfl 1 (by decide) (hts _ q232) (fun _ h9 => h9) rfl dX2_cornerOne_68 ?_
  refine lv_iconst (v := 1) hx hb dX2_cornerOne_71 (by decide) ?_
  refine lv_isub hx hb dX2_cornerOne_72 ?_
  refine lv_iload_n hx hb dX2_cornerOne_73 rfl (lv_at hl 1 rfl) ?_
  refine lv_bipush (v := 6) hx hb dX2_cornerOne_74 (by decide) ?_
  refine pd_goV (ws := [(aM, .inr (3, [.ref aW, .int S, .ref aT, .ref aQ])), (aT, .inl (eT, n, .inl (pmd b T5))), (aQ, .inl (eQ, 72, .inl (pd_wd b)))]) (wc := [(aM, .inr (3, [.ref aW, .int S, .ref aT, .ref aQ])), (aT, .inl (eT, n, .inl (pmd b T5))), (aQ, .inl (eQ, 72, .inl (pd_wd b)))]) (wr := []) (w1 := [(aM, .inr (3, [.ref aW, .int S, .ref aT, .ref aQ])), (aT, .inl (eT, n, .inl (pmd b T6))), (aQ, .inl (eQ, 72, .inl (pd_wd b)))]) [0, 1, 2] [] hP hD hS hA rfl rfl (by decide) (by decide) (va_runV (As := [.int 1, .int (S - 1), .int pos, .int 6]) (rest := []) ⟨hx, hb, hml, hown, hts⟩ (metX2_module l dC dI _ aM aW aT aQ eT eQ S n b T5 T6 1 (S - 1) pos 6 hT5 h6) (cwV 4 hts (lw_V q258 q260 qs9 q22 q261) rfl rfl rfl (by decide +kernel) ⟨Nat.le_of_ble_eq_true rfl, Nat.le_of_ble_eq_true rfl⟩) ⟨pd_Pc.blind, va_recv hK hP (ci := 3) (q0 := 0) rfl rfl, pd_pre [0, 1, 2] [0, 1] hP hK hD hE hS hA rfl (by decide) rfl⟩ rfl rfl hl.1 rfl (lv_room (Nat.le_of_ble_eq_true rfl)) dX2_cornerOne_76 ⟨Nat.le_of_ble_eq_true rfl, Nat.le_of_ble_eq_true rfl⟩) (fun H locs hP hD hS => ?_)
  have hP : va_P (dC, dI) vwCl [(aM, .inr (3, [.ref aW, .int S, .ref aT, .ref aQ])), (aT, .inl (eT, n, .inl (pmd b T6))), (aQ, .inl (eQ, 72, .inl (pd_wd b)))] H := hP
  have hD : va_D A [(aM, .inr (3, [.ref aW, .int S, .ref aT, .ref aQ])), (aT, .inl (eT, n, .inl (pmd b T6))), (aQ, .inl (eQ, 72, .inl (pd_wd b)))] := hD
  have hT6 : T6.length = n := (pm_mod_len h6).trans hT5
  refine lv_aload_n hx hb dX2_cornerOne_79 rfl (lv_at hl 0 rfl) ?_
  refine lv_iconst (v := 2) hx hb dX2_cornerOne_80 (by decide) ?_
  refine lv_aload_n hx hb dX2_cornerOne_81 rfl (lv_at hl 0 rfl) ?_
  refine va_get (D := (dC, dI)) (ci := 3) (v := .int S) (C := RX2) (T := TX2) (N := 4) hx hb hts in_X2 hown hK hP 0 rfl rfl 1 (by decide) (hts _ q232) (fun _ h9 => h9) rfl dX2_cornerOne_82 ?_
  refine lv_iconst (v := 1) hx hb dX2_cornerOne_85 (by decide) ?_
  refine lv_isub hx hb dX2_cornerOne_86 ?_
  refine lv_iload_n hx hb dX2_cornerOne_87 rfl (lv_at hl 1 rfl) ?_
  refine lv_bipush (v := 7) hx hb dX2_cornerOne_88 (by decide) ?_
  refine pd_goV (ws := [(aM, .inr (3, [.ref aW, .int S, .ref aT, .ref aQ])), (aT, .inl (eT, n, .inl (pmd b T6))), (aQ, .inl (eQ, 72, .inl (pd_wd b)))]) (wc := [(aM, .inr (3, [.ref aW, .int S, .ref aT, .ref aQ])), (aT, .inl (eT, n, .inl (pmd b T6))), (aQ, .inl (eQ, 72, .inl (pd_wd b)))]) (wr := []) (w1 := [(aM, .inr (3, [.ref aW, .int S, .ref aT, .ref aQ])), (aT, .inl (eT, n, .inl (pmd b T7))), (aQ, .inl (eQ, 72, .inl (pd_wd b)))]) [0, 1, 2] [] hP hD hS hA rfl rfl (by decide) (by decide) (va_runV (As := [.int 2, .int (S - 1), .int pos, .int 7]) (rest := []) ⟨hx, hb, hml, hown, hts⟩ (metX2_module l dC dI _ aM aW aT aQ eT eQ S n b T6 T7 2 (S - 1) pos 7 hT6 h7) (cwV 4 hts (lw_V q258 q260 qs9 q22 q261) rfl rfl rfl (by decide +kernel) ⟨Nat.le_of_ble_eq_true rfl, Nat.le_of_ble_eq_true rfl⟩) ⟨pd_Pc.blind, va_recv hK hP (ci := 3) (q0 := 0) rfl rfl, pd_pre [0, 1, 2] [0, 1] hP hK hD hE hS hA rfl (by decide) rfl⟩ rfl rfl hl.1 rfl (lv_room (Nat.le_of_ble_eq_true rfl)) dX2_cornerOne_90 ⟨Nat.le_of_ble_eq_true rfl, Nat.le_of_ble_eq_true rfl⟩) (fun H locs hP hD hS => ?_)
  have hP : va_P (dC, dI) vwCl [(aM, .inr (3, [.ref aW, .int S, .ref aT, .ref aQ])), (aT, .inl (eT, n, .inl (pmd b T7))), (aQ, .inl (eQ, 72, .inl (pd_wd b)))] H := hP
  have hD : va_D A [(aM, .inr (3, [.ref aW, .int S, .ref aT, .ref aQ])), (aT, .inl (eT, n, .inl (pmd b T7))), (aQ, .inl (eQ, 72, .inl (pd_wd b)))] := hD
  have hT7 : T7.length = n := (pm_mod_len h7).trans hT6
  refine lv_aload_n hx hb dX2_cornerOne_93 rfl (lv_at hl 0 rfl) ?_
  refine lv_iconst (v := 3) hx hb dX2_cornerOne_94 (by decide) ?_
  refine lv_aload_n hx hb dX2_cornerOne_95 rfl (lv_at hl 0 rfl) ?_
  refine va_get (D := (dC, dI)) (ci := 3) (v := .int S) (C := RX2) (T := TX2) (N := 4) hx hb hts in_X2 hown hK hP 0 rfl rfl 1 (by decide) (hts _ q232) (fun _ h9 => h9) rfl dX2_cornerOne_96 ?_
  refine lv_iconst (v := 1) hx hb dX2_cornerOne_99 (by decide) ?_
  refine lv_isub hx hb dX2_cornerOne_100 ?_
  refine lv_iload_n hx hb dX2_cornerOne_101 rfl (lv_at hl 1 rfl) ?_
  refine lv_bipush (v := 8) hx hb dX2_cornerOne_102 (by decide) ?_
  refine pd_goV (ws := [(aM, .inr (3, [.ref aW, .int S, .ref aT, .ref aQ])), (aT, .inl (eT, n, .inl (pmd b T7))), (aQ, .inl (eQ, 72, .inl (pd_wd b)))]) (wc := [(aM, .inr (3, [.ref aW, .int S, .ref aT, .ref aQ])), (aT, .inl (eT, n, .inl (pmd b T7))), (aQ, .inl (eQ, 72, .inl (pd_wd b)))]) (wr := []) (w1 := [(aM, .inr (3, [.ref aW, .int S, .ref aT, .ref aQ])), (aT, .inl (eT, n, .inl (pmd b T8))), (aQ, .inl (eQ, 72, .inl (pd_wd b)))]) [0, 1, 2] [] hP hD hS hA rfl rfl (by decide) (by decide) (va_runV (As := [.int 3, .int (S - 1), .int pos, .int 8]) (rest := []) ⟨hx, hb, hml, hown, hts⟩ (metX2_module l dC dI _ aM aW aT aQ eT eQ S n b T7 T8 3 (S - 1) pos 8 hT7 h8) (cwV 4 hts (lw_V q258 q260 qs9 q22 q261) rfl rfl rfl (by decide +kernel) ⟨Nat.le_of_ble_eq_true rfl, Nat.le_of_ble_eq_true rfl⟩) ⟨pd_Pc.blind, va_recv hK hP (ci := 3) (q0 := 0) rfl rfl, pd_pre [0, 1, 2] [0, 1] hP hK hD hE hS hA rfl (by decide) rfl⟩ rfl rfl hl.1 rfl (lv_room (Nat.le_of_ble_eq_true rfl)) dX2_cornerOne_104 ⟨Nat.le_of_ble_eq_true rfl, Nat.le_of_ble_eq_true rfl⟩) (fun H locs hP hD hS => ?_)
  have hP : va_P (dC, dI) vwCl [(aM, .inr (3, [.ref aW, .int S, .ref aT, .ref aQ])), (aT, .inl (eT, n, .inl (pmd b T8))), (aQ, .inl (eQ, 72, .inl (pd_wd b)))] H := hP
  have hD : va_D A [(aM, .inr (3, [.ref aW, .int S, .ref aT, .ref aQ])), (aT, .inl (eT, n, .inl (pmd b T8))), (aQ, .inl (eQ, 72, .inl (pd_wd b)))] := hD
  exact W.vret hx hb hr (fun t ht hW => ⟨⟨(), rfl, trivial, by rw [ht]; exact hP, hD⟩, hS.F ht⟩) hS.2.2 dX2_cornerOne_107
set_option maxHeartbeats 4000000 in
set_option maxRecDepth 100000 in
/-- the eight bits of one codeword -/
theorem metX2_cornerTwo (l : Launch) (dC : Nat → ClassId) (dI : Nat → Nat → Nat) (sz : Nat) (aM aW aT aQ : Nat) (eT eQ : ClassId) (S : Int32) (n : Nat) (b : Nat → Nat) (T T8 : List pC) (pos : Int32) (hT : T.length = n) (h : pm_c2 S pos T = some T8) : Met l yX2_cornerTwo (ws_ yX2_cornerTwo cX2_cornerTwo 2 none) ({ frames := 1, cells := 0, slots := 0, locals := 26 }) (pd_Pc [.ref aM, .int pos] (dC, dI) [(aM, .inr (3, [.ref aW, .int S, .ref aT, .ref aQ])), (aT, .inl (eT, n, .inl (pmd b T))), (aQ, .inl (eQ, 72, .inl (pd_wd b)))] [(eT, .int), (eQ, .int)] sz) (pd_Qv (dC, dI) [(aM, .inr (3, [.ref aW, .int S, .ref aT, .ref aQ])), (aT, .inl (eT, n, .inl (pmd b T8))), (aQ, .inl (eQ, 72, .inl (pd_wd b)))] (va_A [(aM, .inr (3, [.ref aW, .int S, .ref aT, .ref aQ])), (aT, .inl (eT, n, .inl (pmd b T))), (aQ, .inl (eQ, 72, .inl (pd_wd b)))] sz)) 0 0 (va_A [(aM, .inr (3, [.ref aW, .int S, .ref aT, .ref aQ])), (aT, .inl (eT, n, .inl (pmd b T))), (aQ, .inl (eQ, 72, .inl (pd_wd b)))] sz) := by
  refine Met.ofW (cc := cX2_cornerTwo) (maxL := 2) (ret := none) (by decide) rfl ?_
  intro p e s m args below meth c s₁ B hml hv
  obtain ⟨rfl, hsz, hP, hK, hD0, hE⟩ := hv
  have hx := B.exec
  have hb := B.bytes
  have hr := B.returns
  have hts := atoms_spec (ws := ws_ yX2_cornerTwo cX2_cornerTwo 2 none) B.pre
  have hts : ∀ w ∈ lw_all, w.before _ s = true := fun w h => hts w (List.mem_cons_of_mem _ h)
  have hown : s.vm.findClass RX2 = some m.cls := findClass_of_methodNamed B.named
  have hlocks := B.notSynchronized
  subst hsz
  have hD := hD0.self (sz := s.heap.size)
  generalize hAe : va_A [(aM, .inr (3, [.ref aW, .int S, .ref aT, .ref aQ])), (aT, .inl (eT, n, .inl (pmd b T))), (aQ, .inl (eQ, 72, .inl (pd_wd b)))] s.heap.size = A at hD hE ⊢
  have hA : ∀ q : Nat, s.heap.size ≤ q → A q := fun q h => by rw [← hAe]; exact Or.inr h
  have hS : va_S A s.heap s.heap [] := va_S.rf
  have hP : va_P (dC, dI) vwCl [(aM, .inr (3, [.ref aW, .int S, .ref aT, .ref aQ])), (aT, .inl (eT, n, .inl (pmd b T))), (aQ, .inl (eQ, 72, .inl (pd_wd b)))] s.heap := hP
  have hl := lv_entry ([.ref aM, .int pos]) (n := 2) (Nat.le_of_ble_eq_true rfl)
  rw [lg_entry_eq]
  generalize (lg_sl ([.ref aM, .int pos]) ++ List.replicate (2 - (lg_sl ([.ref aM, .int pos])).length) Slot.unset).toArray = ls at hl ⊢
  have hl : lv_has ls 2 [(0, .ref aM), (1, .int pos)] := hl
  obtain ⟨T1, T2, T3, T4, T5, T6, T7, h1, h2, h3, h4, h5, h6, h7, h8⟩ := pm_8 h
  refine lv_aload_n hx hb dX2_cornerTwo_0 rfl (lv_at hl 0 rfl) ?_
  refine lv_aload_n hx hb dX2_cornerTwo_1 rfl (lv_at hl 0 rfl) ?_
  refine va_get (D := (dC, dI)) (ci := 3) (v := .int S) (C := RX2) (T := TX2) (N := 4) hx hb hts in_X2 hown hK hP 0 rfl rfl 1 (by decide) (hts _ q232) (fun _ h9 => h9) rfl dX2_cornerTwo_2 ?_
  refine lv_iconst (v := 3) hx hb dX2_cornerTwo_5 (by decide) ?_
  refine lv_isub hx hb dX2_cornerTwo_6 ?_
  refine lv_iconst (v := 0) hx hb dX2_cornerTwo_7 (by decide) ?_
  refine lv_iload_n hx hb dX2_cornerTwo_8 rfl (lv_at hl 1 rfl) ?_
  refine lv_iconst (v := 1) hx hb dX2_cornerTwo_9 (by decide) ?_
  refine pd_goV (ws := [(aM, .inr (3, [.ref aW, .int S, .ref aT, .ref aQ])), (aT, .inl (eT, n, .inl (pmd b T))), (aQ, .inl (eQ, 72, .inl (pd_wd b)))]) (wc := [(aM, .inr (3, [.ref aW, .int S, .ref aT, .ref aQ])), (aT, .inl (eT, n, .inl (pmd b T))), (aQ, .inl (eQ, 72, .inl (pd_wd b)))]) (wr := []) (w1 := [(aM, .inr (3, [.ref aW, .int S, .ref aT, .ref aQ])), (aT, .inl (eT, n, .inl (pmd b T1))), (aQ, .inl (eQ, 72, .inl (pd_wd b)))]) [0, 1, 2] [] hP hD hS hA rfl rfl (by decide) (by decide) (va_runV (As := [.int (S - 3), .int 0, .int pos, .int 1]) (rest := []) ⟨hx, hb, hml, hown, hts⟩ (metX2_module l dC dI _ aM aW aT aQ eT eQ S n b T T1 (S - 3) 0 pos 1 hT h1) (cwV 4 hts (lw_V q258 q260 qs9 q22 q261) rfl rfl rfl (by decide +kernel) ⟨Nat.le_of_ble_eq_true rfl, Nat.le_of_ble_eq_true rfl⟩) ⟨pd_Pc.blind, va_recv hK hP (ci := 3) (q0 := 0) rfl rfl, pd_pre [0, 1, 2] [0, 1] hP hK hD hE hS hA rfl (by decide) rfl⟩ rfl rfl hl.1 rfl (lv_room (Nat.le_of_ble_eq_true rfl)) dX2_cornerTwo_10 ⟨Nat.le_of_ble_eq_true rfl, Nat.le_of_ble_eq_true rfl⟩) (fun H locs hP hD hS => ?_)
  have hP : va_P (dC, dI) vwCl [(aM, .inr (3, [.ref aW, .int S, .ref aT, .ref aQ])), (aT, .inl (eT, n, .inl (pmd b T1))), (aQ, .inl (eQ, 72, .inl (pd_wd b)))] H := hP
  have hD : va_D A [(aM, .inr (3, [.ref aW, .int S, .ref aT, .ref aQ])), (aT, .inl (eT, n, .inl (pmd b T1))), (aQ, .inl (eQ, 72, .inl (pd_wd b)))] := hD
  have hT1 : T1.length = n := (pm_mod_len h1).trans hT
  refine lv_aload_n hx hb dX2_cornerTwo_13 rfl (lv_at hl 0 rfl) ?_
  refine lv_aload_n hx hb dX2_cornerTwo_14 rfl (lv_at hl 0 rfl) ?_
  refine va_get (D := (dC, dI)) (ci := 3) (v := .int S) (C := RX2) (T := TX2) (N := 4) hx hb hts in_X2 hown hK hP 0 rfl rfl 1 (by decide) (hts _ q232) (fun _ h9 => h9) rfl dX2_cornerTwo_15 ?_
  refine lv_iconst (v := 2) hx hb dX2_cornerTwo_18 (by decide) ?_
  refine lv_isub hx hb dX2_cornerTwo_19 ?_
  refine lv_iconst (v := 0) hx hb dX2_cornerTwo_20 (by decide) ?_
  refine lv_iload_n hx hb dX2_cornerTwo_21 rfl (lv_at hl 1 rfl) ?_
  refine lv_iconst (v := 2) hx hb dX2_cornerTwo_22 (by decide) ?_
  refine pd_goV (ws := [(aM, .inr (3, [.ref aW, .int S, .ref aT, .ref aQ])), (aT, .inl (eT, n, .inl (pmd b T1))), (aQ, .inl (eQ, 72, .inl (pd_wd b)))]) (wc := [(aM, .inr (3, [.ref aW, .int S, .ref aT, .ref aQ])), (aT, .inl (eT, n, .inl (pmd b T1))), (aQ, .inl (eQ, 72, .inl (pd_wd b)))]) (wr := []) (w1 := [(aM, .inr (3, [.ref aW, .int S, .ref aT, .ref aQ])), (aT, .inl (eT, n, .inl (pmd b T2))), (aQ, .inl (eQ, 72, .inl (pd_wd b)))]) [0, 1, 2] [] hP hD hS hA rfl rfl (by decide) (by decide) (va_runV (As := [.int (S - 2), .int 0, .int pos, .int 2]) (rest := []) ⟨hx, hb, hml, hown, hts⟩ (metX2_module l dC dI _ aM aW aT aQ eT eQ S n b T1 T2 (S - 2) 0 pos 2 hT1 h2) (cwV 4 hts (lw_V q258 q260 qs9 q22 q261) rfl rfl rfl (by decide +kernel) ⟨Nat.le_of_ble_eq_true rfl, Nat.le_of_ble_eq_true rfl⟩) ⟨pd_Pc.blind, va_recv hK hP (ci := 3) (q0 := 0) rfl rfl, pd_pre [0, 1, 2] [0, 1] hP hK hD hE hS hA rfl (by decide) rfl⟩ rfl rfl hl.1 rfl (lv_room (Nat.le_of_ble_eq_true rfl)) dX2_cornerTwo_23 ⟨Nat.le_of_ble_eq_true rfl, Nat.le_of_ble_eq_true rfl⟩) (fun H locs hP hD hS => ?_)
  have hP : va_P (dC, dI) vwCl [(aM, .inr (3, [.ref aW, .int S, .ref aT, .ref aQ])), (aT, .inl (eT, n, .inl (pmd b T2))), (aQ, .inl (eQ, 72, .inl (pd_wd b)))] H := hP
  have hD : va_D A [(aM, .inr (3, [.ref aW, .int S, .ref aT, .ref aQ])), (aT, .inl (eT, n, .inl (pmd b T2))), (aQ, .inl (eQ, 72, .inl (pd_wd b)))] := hD
  have hT2 : T2.length = n := (pm_mod_len h2).trans hT1
  refine lv_aload_n hx hb dX2_cornerTwo_26 rfl (lv_at hl 0 rfl) ?_
  refine lv_aload_n hx hb dX2_cornerTwo_27 rfl (lv_at hl 0 rfl) ?_
  refine va_get (D := (dC, dI)) (ci := 3) (v := .int S) (C := RX2) (T := TX2) (N := 4) hx hb hts in_X2 hown hK hP 0 rfl rfl 1 (by decide) (hts _ q232) (fun _ h9 => h9) rfl dX2_cornerTwo_28 ?_
  refine lv_iconst (v := 1) hx hb dX2_cornerTwo_31 (by decide) ?_
  refine lv_isub hx hb dX2_cornerTwo_32 ?_
  refine lv_iconst (v := 0) hx hb dX2_cornerTwo_33 (by decide) ?_
  refine lv_iload_n hx hb dX2_cornerTwo_34 rfl (lv_at hl 1 rfl) ?_
  refine lv_iconst (v := 3) hx hb dX2_cornerTwo_35 (by decide) ?_
  refine pd_goV (ws := [(aM, .inr (3, [.ref aW, .int S, .ref aT, .ref aQ])), (aT, .inl (eT, n, .inl (pmd b T2))), (aQ, .inl (eQ, 72, .inl (pd_wd b)))]) (wc := [(aM, .inr (3, [.ref aW, .int S, .ref aT, .ref aQ])), (aT, .inl (eT, n, .inl (pmd b T2))), (aQ, .inl (eQ, 72, .inl (pd_wd b)))]) (wr := []) (w1 := [(aM, .inr (3, [.ref aW, .int S, .ref aT, .ref aQ])), (aT, .inl (eT, n, .inl (pmd b T3))), (aQ, .inl (eQ, 72, .inl (pd_wd b)))]) [0, 1, 2] [] hP hD hS hA rfl rfl (by decide) (by decide) (va_runV (As := [.int (S - 1), .int 0, .int pos, .int 3]) (rest := []) ⟨hx, hb, hml, hown, hts⟩ (metX2_module l dC dI _ aM aW aT aQ eT eQ S n b T2 T3 (S - 1) 0 pos 3 hT2 h3) (cwV 4 hts (lw_V q258 q260 qs9 q22 q261) rfl rfl rfl (by decide +kernel) ⟨Nat.le_of_ble_eq_true rfl, Nat.le_of_ble_eq_true rfl⟩) ⟨pd_Pc.blind, va_recv hK hP (ci := 3) (q0 := 0) rfl rfl, pd_pre [0, 1, 2] [0, 1] hP hK hD hE hS hA rfl (by decide) rfl⟩ rfl rfl hl.1 rfl (lv_room (Nat.le_of_ble_eq_true rfl)) dX2_cornerTwo_36 ⟨Nat.le_of_ble_eq_true rfl, Nat.le_of_ble_eq_true rfl⟩) (fun H locs hP hD hS => ?_)
  have hP : va_P (dC, dI) vwCl [(aM, .inr (3, [.ref aW, .int S, .ref aT, .ref aQ])), (aT, .inl (eT, n, .inl (pmd b T3))), (aQ, .inl (eQ, 72, .inl (pd_wd b)))] H := hP
  have hD : va_D A [(aM, .inr (3, [.ref aW, .int S, .ref aT, .ref aQ])), (aT, .inl (eT, n, .inl (pmd b T3))), (aQ, .inl (eQ, 72, .inl (pd_wd b)))] := hD
  have hT3 : T3.length = n := (pm_mod_len h3).trans hT2
  refine lv_aload_n hx hb dX2_cornerTwo_39 rfl (lv_at hl 0 rfl) ?_
  refine lv_iconst (v := 0) hx hb dX2_cornerTwo_40 (by decide) ?_
  refine lv_aload_n hx hb dX2_cornerTwo_41 rfl (lv_at hl 0 rfl) ?_
  refine va_get (D := (dC, dI)) (ci := 3) (v := .int S) (C := RX2) (T := TX2) (N := 4) hx hb hts in_X2 hown hK hP 0 rfl rfl 1 (by decide) (hts _ q232) (fun _ h9 => h9) rfl dX2_cornerTwo_42 ?_
  refine lv_iconst (v := 4) hx hb dX2_cornerTwo_45 (by decide) ?_
  refine lv_isub hx hb dX2_cornerTwo_46 ?_
  refine lv_iload_n hx hb dX2_cornerTwo_47 rfl (lv_at hl 1 rfl) ?_
  refine lv_iconst (v := 4) hx hb dX2_cornerTwo_48 (by decide) ?_
  refine pd_goV (ws := [(aM, .inr (3, [.ref aW, .int S, .ref aT, .ref aQ])), (aT, .inl (eT, n, .inl (pmd b T3))), (aQ, .inl (eQ, 72, .inl (pd_wd b)))]) (wc := [(aM, .inr (3, [.ref aW, .int S, .ref aT, .ref aQ])), (aT, .inl (eT, n, .inl (pmd b T3))), (aQ, .inl (eQ, 72, .inl (pd_wd b)))]) (wr := []) (w1 := [(aM, .inr (3, [.ref aW, .int S, .ref aT, .ref aQ])), (aT, .inl (eT, n, .inl (pmd b T4))), (aQ, .inl (eQ, 72, .inl (pd_wd b)))]) [0, 1, 2] [] hP hD hS hA rfl rfl (by decide) (by decide) (va_runV (As := [.int 0, .int (S - 4), .int pos, .int 4]) (rest := []) ⟨hx, hb, hml, hown, hts⟩ (metX2_module l dC dI _ aM aW aT aQ eT eQ S n b T3 T4 0 (S - 4) pos 4 hT3 h4) (cwV 4 hts (lw_V q258 q260 qs9 q22 q261) rfl rfl rfl (by decide +kernel) ⟨Nat.le_of_ble_eq_true rfl, Nat.le_of_ble_eq_true rfl⟩) ⟨pd_Pc.blind, va_recv hK hP (ci := 3) (q0 := 0) rfl rfl, pd_pre [0, 1, 2] [0, 1] hP hK hD hE hS hA rfl (by decide) rfl⟩ rfl rfl hl.1 rfl (lv_room (Nat.le_of_ble_eq_true rfl)) dX2_cornerTwo_49 ⟨Nat.le_of_ble_eq_true rfl, Nat.le_of_ble_eq_true rfl⟩) (fun H locs hP hD hS => ?_)
  have hP : va_P (dC, dI) vwCl [(aM, .inr (3, [.ref aW, .int S, .ref aT, .ref aQ])), (aT, .inl (eT, n, .inl (pmd b T4))), (aQ, .inl (eQ, 72, .inl (pd_wd b)))] H := hP
  have hD : va_D A [(aM, .inr (3, [.ref aW, .int S, .ref aT, .ref aQ])), (aT, .inl (eT, n, .inl (pmd b T4))), (aQ, .inl (eQ, 72, .inl (pd_wd b)))] := hD
  have hT4 : T4.length = n := (pm_mod_len h4).trans hT3
  refine lv_aload_n hx hb dX2_cornerTwo_52 rfl (lv_at hl 0 rfl) ?_
  refine lv_iconst (v := 0) hx hb dX2_cornerTwo_53 (by decide) ?_
  refine lv_aload_n hx hb dX2_cornerTwo_54 rfl (lv_at hl 0 rfl) ?_
  refine va_get (D := (dC, dI)) (ci := 3) (v := .int S) (C := RX2) (T := TX2) (N := 4) hx hb hts in_X2 hown hK hP 0 rfl rfl 1 (by decide) (hts _ q232) (fun _ h9 => h9) rfl dX2_cornerTwo_55 ?_
  refine lv_iconst (v := 3) hx hb dX2_cornerTwo_58 (by decide) ?_
  refine lv_isub hx hb dX2_cornerTwo_59 ?_
  refine lv_iload_n hx hb dX2_cornerTwo_60 rfl (lv_at hl 1 rfl) ?_
  refine lv_iconst (v := 5) hx hb dX2_cornerTwo_61 (by decide) ?_
  refine pd_goV (ws := [(aM, .inr (3, [.ref aW, .int S, .ref aT, .ref aQ])), (aT, .inl (eT, n, .inl (pmd b T4))), (aQ, .inl (eQ, 72, .inl (pd_wd b)))]) (wc := [(aM, .inr (3, [.ref aW, .int S, .ref aT, .ref aQ])), (aT, .inl (eT, n, .inl (pmd b T4))), (aQ, .inl (eQ, 72, .inl (pd_wd b)))]) (wr := []) (w1 := [(aM, .inr (3, [.ref aW, .int S, .ref aT, .ref aQ])), (aT, .inl (eT, n, .inl (pmd b T5))), (aQ, .inl (eQ, 72, .inl (pd_wd b)))]) [0, 1, 2] [] hP hD hS hA rfl rfl (by decide) (by decide) (va_runV (As := [.int 0, .int (S - 3), .int pos, .int 5]) (rest := []) ⟨hx, hb, hml, hown, hts⟩ (metX2_module l dC dI _ aM aW aT aQ eT eQ S n b T4 T5 0 (S - 3) pos 5 hT4 h5) (cwV 4 hts (lw_V q258 q260 qs9 q22 q261) rfl rfl rfl (by decide +kernel) ⟨Nat.le_of_ble_eq_true rfl, Nat.le_of_ble_eq_true rfl⟩) ⟨pd_Pc.blind, va_recv hK hP (ci := 3) (q0 := 0) rfl rfl, pd_pre [0, 1, 2] [0, 1] hP hK hD hE hS hA rfl (by decide) rfl⟩ rfl rfl hl.1 rfl (lv_room (Nat.le_of_ble_eq_true rfl)) dX2_cornerTwo_62 ⟨Nat.le_of_ble_eq_true rfl, Nat.le_of_ble_eq_true rfl⟩) (fun H locs hP hD hS => ?_)
  have hP : va_P (dC, dI) vwCl [(aM, .inr (3, [.ref aW, .int S, .ref aT, .ref aQ])), (aT, .inl (eT, n, .inl (pmd b T5))), (aQ, .inl (eQ, 72, .inl (pd_wd b)))] H := hP
  have hD : va_D A [(aM, .inr (3, [.ref aW, .int S, .ref aT, .ref aQ])), (aT, .inl (eT, n, .inl (pmd b T5))), (aQ, .inl (eQ, 72, .inl (pd_wd b)))] := hD
  have hT5 : T5.length = n := (pm_mod_len h5).trans hT4
  refine lv_aload_n hx hb dX2_cornerTwo_65 rfl (lv_at hl 0 rfl) ?_
  refine lv_iconst (v := 0) hx hb dX2_cornerTwo_66 (by decide) ?_
  refine lv_aload_n hx hb dX2_cornerTwo_67 rfl (lv_at hl 0 rfl) ?_
  refine va_get (D := (dC, dI)) (ci := 3) (v := .int S) (C := RX2) (T := TX2) (N := 4) hx hb hts in_X2 hown hK hP 0 rfl rfl 1 (by decide) (hts _ q232) (fun _ h9 => h9) rfl dX2_cornerTwo_68 ?_
  refine lv_iconst (v := 2) hx hb dX2_cornerTwo_71 (by decide) ?_
  refine lv_isub hx hb dX2_cornerTwo_72 ?_
  refine lv_iload_n hx hb dX2_cornerTwo_73 rfl (lv_at hl 1 rfl) ?_
  refine lv_bipush (v := 6) hx hb dX2_cornerTwo_74 (by decide) ?_
  refine pd_goV (ws := [(aM, .inr (3, [.ref aW, .int S, .ref aT, .ref aQ])), (aT, .inl (eT, n, .inl (pmd b T5))), (aQ, .inl (eQ, 72, .inl (pd_wd b)))]) (wc := [(aM, .inr (3, [.ref aW, .int S, .ref aT, .ref aQ])), (aT, .inl (eT, n, .inl (pmd b T5))), (aQ, .inl (eQ, 72, .inl (pd_wd b)))]) (wr := []) (w1 := [(aM, .inr (3, [.ref aW, .int S, .ref aT, .ref aQ])), (aT, .inl (eT, n, .inl (pmd b T6))), (aQ, .inl (eQ, 72, .inl (pd_wd b)))]) [0, 1, 2] [] hP hD hS hA rfl rfl (by decide) (by decide) (va_runV (As := [.int 0, .int (S - 2), .int pos, .int 6]) (rest := []) ⟨hx, hb, hml, hown, hts⟩ (metX2_module l dC dI _ aM aW aT aQ eT eQ S n b T5 T6 0 (S - 2) pos 6 hT5 h6) (cwV 4 hts (lw_V q258 q260 qs9 q22 q261) rfl rfl rfl (by decide +kernel) ⟨Nat.le_of_ble_eq_true rfl, Nat.le_of_ble_eq_true rfl⟩) ⟨pd_Pc.blind, va_recv hK hP (ci := 3) (q0 := 0) rfl rfl, pd_pre [0, 1, 2] [0, 1] hP hK hD hE hS hA rfl (by decide) rfl⟩ rfl rfl hl.1 rfl (lv_room (Nat.le_of_ble_eq_true rfl)) dX2_cornerTwo_76 ⟨Nat.le_of_ble_eq_true rfl, Nat.le_of_ble_eq_true rfl⟩) (fun H locs hP hD hS => ?_)
  have hP : va_P (dC, dI) vwCl [(aM, .inr (3, [.ref aW, .int S, .ref aT, .ref aQ])), (aT, .inl (eT, n, .inl (pmd b T6))), (aQ, .inl (eQ, 72, .inl (pd_wd b)))] H := hP
  have hD : va_D A [(aM, .inr (3, [.ref aW, .int S, .ref aT, .ref aQ])), (aT, .inl (eT, n, .inl (pmd b T6))), (aQ, .inl (eQ, 72, .inl (pd_wd b)))] := hD
  have hT6 : T6.length = n := (pm_mod_len h6).trans hT5
  refine lv_aload_n hx hb dX2_cornerTwo_79 rfl (lv_at hl 0 rfl) ?_
  refine lv_iconst (v := 0) hx hb dX2_cornerTwo_80 (by decide) ?_
  refine lv_aload_n hx hb dX2_cornerTwo_81 rfl (lv_at hl 0 rfl) ?_
  refine va_get (D := (dC, dI)) (ci := 3) (v := .int S) (C := RX2) (T := TX2) (N := 4) hx hb hts in_X2 hown hK hP 0 rfl rfl 1 (by decide) (hts _ q232) (fun _ h9 => h9) rfl dX2_cornerTwo_82 ?_
  refine lv_iconst (v := 1) hx hb dX2_cornerTwo_85 (by decide) ?_
  refine lv_isub hx hb dX2_cornerTwo_86 ?_
  refine lv_iload_n hx hb dX2_cornerTwo_87 rfl (lv_at hl 1 rfl) ?_
  refine lv_bipush (v := 7) hx hb dX2_cornerTwo_88 (by decide) ?_
  refine pd_goV (ws := [(aM, .inr (3, [.ref aW, .int S, .ref aT, .ref aQ])), (aT, .inl (eT, n, .inl (pmd b T6))), (aQ, .inl (eQ, 72, .inl (pd_wd b)))]) (wc := [(aM, .inr (3, [.ref aW, .int S, .ref aT, .ref aQ])), (aT, .inl (eT, n, .inl (pmd b T6))), (aQ, .inl (eQ, 72, .inl (pd_wd b)))]) (wr := []) (w1 := [(aM, .inr (3, [.ref aW, .int S, .ref aT, .ref aQ])), (aT, .inl (eT, n, .inl (pmd b T7))), (aQ, .inl (eQ, 72, .inl (pd_wd b)))]) [0, 1, 2] [] hP hD hS hA rfl rfl (by decide) (by decide) (va_runV (As := [.int 0, .int (S - 1), .int pos, .int 7]) (rest := []) ⟨hx, hb, hml, hown, hts⟩ (metX2_module l dC dI _ aM aW aT aQ eT eQ S n b T6 T7 0 (S - 1) pos 7 hT6 h7) (cwV 4 hts (lw_V q258 q260 qs9 q22 q261) rfl rfl rfl (by decide +kernel) ⟨Nat.le_of_ble_eq_true rfl, Nat.le_of_ble_eq_true rfl⟩) ⟨pd_Pc.blind, va_recv hK hP (ci := 3) (q0 := 0) rfl rfl, pd_pre [0, 1, 2] [0, 1] hP hK hD hE hS hA rfl (by decide) rfl⟩ rfl rfl hl.1 rfl (lv_room (Nat.le_of_ble_eq_true rfl)) dX2_cornerTwo_90 ⟨Nat.le_of_ble_eq_true rfl, Nat.le_of_ble_eq_true rfl⟩) (fun H locs hP hD hS => ?_)
  have hP : va_P (dC, dI) vwCl [(aM, .inr (3, [.ref aW, .int S, .ref aT, .ref aQ])), (aT, .inl (eT, n, .inl (pmd b T7))), (aQ, .inl (eQ, 72, .inl (pd_wd b)))] H := hP
  have hD : va_D A [(aM, .inr (3, [.ref aW, .int S, .ref aT, .ref aQ])), (aT, .inl (eT, n, .inl (pmd b T7))), (aQ, .inl (eQ, 72, .inl (pd_wd b)))] := hD
  have hT7 : T7.length = n := (pm_mod_len h7).trans hT6
  refine lv_aload_n hx hb dX2_cornerTwo_93 rfl (lv_at hl 0 rfl) ?_
  refine lv_iconst (v := 1) hx hb dX2_cornerTwo_94 (by decide) ?_
  refine lv_aload_n hx hb dX2_cornerTwo_95 rfl (lv_at hl 0 rfl) ?_
  refine va_get (D := (dC, dI)) (ci := 3) (v := .int S) (C := RX2) (T := TX2) (N := 4) hx hb hts in_X2 hown hK hP 0 rfl rfl 1 (by decide) (hts _ q232) (fun _ h9 => h9) rfl dX2_cornerTwo_96 ?_
  refine lv_iconst (v := 1) hx hb dX2_cornerTwo_99 (by decide) ?_
  refine lv_isub hx hb dX2_cornerTwo_100 ?_
  refine lv_iload_n hx hb dX2_cornerTwo_101 rfl (lv_at hl 1 rfl) ?_
  refine lv_bipush (v := 8) hx hb dX2_cornerTwo_102 (by decide) ?_
  refine pd_goV (ws := [(aM, .inr (3, [.ref aW, .int S, .ref aT, .ref aQ])), (aT, .inl (eT, n, .inl (pmd b T7))), (aQ, .inl (eQ, 72, .inl (pd_wd b)))]) (wc := [(aM, .inr (3, [.ref aW, .int S, .ref aT, .ref aQ])), (aT, .inl (eT, n, .inl (pmd b T7))), (aQ, .inl (eQ, 72, .inl (pd_wd b)))]) (wr := []) (w1 := [(aM, .inr (3, [.ref aW, .int S, .ref aT, .ref aQ])), (aT, .inl (eT, n, .inl (pmd b T8))), (aQ, .inl (eQ, 72, .inl (pd_wd b)))]) [0, 1, 2] [] hP hD hS hA rfl rfl (by decide) (by decide) (va_runV (As := [.int 1, .int (S - 1), .int pos, .int 8]) (rest := []) ⟨hx, hb, hml, hown, hts⟩ (metX2_module l dC dI _ aM aW aT aQ eT eQ S n b T7 T8 1 (S - 1) pos 8 hT7 h8) (cwV 4 hts (lw_V q258 q260 qs9 q22 q261) rfl rfl rfl (by decide +kernel) ⟨Nat.le_of_ble_eq_true rfl, Nat.le_of_ble_eq_true rfl⟩) ⟨pd_Pc.blind, va_recv hK hP (ci := 3) (q0 := 0) rfl rfl, pd_pre [0, 1, 2] [0, 1] hP hK hD hE hS hA rfl (by decide) rfl⟩ rfl rfl hl.1 rfl (lv_room (Nat.le_of_ble_eq_true rfl)) dX2_cornerTwo_104 ⟨Nat.le_of_ble_eq_true rfl, Nat.le_of_ble_eq_true rfl⟩) (fun H locs hP hD hS => ?_)
  have hP : va_P (dC, dI) vwCl [(aM, .inr (3, [.ref aW, .int S, .ref aT, .ref aQ])), (aT, .inl (eT, n, .inl (pmd b T8))), (aQ, .inl (eQ, 72, .inl (pd_wd b)))] H := hP
  have hD : va_D A [(aM, .inr (3, [.ref aW, .int S, .ref aT, .ref aQ])), (aT, .inl (eT, n, .inl (pmd b T8))), (aQ, .inl (eQ, 72, .inl (pd_wd b)))] := hD
  exact W.vret hx hb hr (fun t ht hW => ⟨⟨(), rfl, trivial, by rw [ht]; exact hP, hD⟩, hS.F ht⟩) hS.2.2 dX2_cornerTwo_107
end
section
/-! PlacementDeskModel.place -/
set_option maxHeartbeats 4000000 in
set_option maxRecDepth 100000 in
theorem x2p_upB {l : Launch} {dC : Nat → ClassId} {dI : Nat → Nat → Nat} {p : Program} {e : Env} {s : State} {m : MethodId} {below : List Frame} {meth : Method} {c : Code} {A : Nat → Prop} {aM aW aT aQ : Nat} {eW eT eQ : ClassId} {S kind : Int32} {n : Nat} {b : Nat → Nat} {Q : State → Prop} (hx : p.tables.exec = Jvm.exec) (hb : c.code = cX2_place) (hml : c.maxLocals = 6) (hown : s.vm.findClass RX2 = some m.cls) (hts : ∀ w ∈ lw_all, w.before ([.ref aM, .int kind] : List Value).toArray s = true) (hK : va_K (dC, dI) vwCl [(eW, .int), (eT, .int), (eQ, .int)] s) (hE : pd_E A s s.heap) (hA : ∀ q : Nat, s.heap.size ≤ q → A q) : ∀ (row col pos : Int32) (T : List pC) (q : Int32 × List pC), T.length = n → (if row < S ∧ ¬ col < 0 then pm_try S row col pos T else some (pos, T)) = some q → (∀ (H : Heap) (locs : List Loc) (ls : Array Slot), va_P (dC, dI) vwCl [(aM, .inr (3, [.ref aW, .int S, .ref aT, .ref aQ])), (aW, .inl (eW, 72, .inl (pd_wd b))), (aT, .inl (eT, n, .inl (pmd b q.2))), (aQ, .inl (eQ, 72, .inl (pd_wd b)))] H → va_D A [(aM, .inr (3, [.ref aW, .int S, .ref aT, .ref aQ])), (aW, .inl (eW, 72, .inl (pd_wd b))), (aT, .inl (eT, n, .inl (pmd b q.2))), (aQ, .inl (eQ, 72, .inl (pd_wd b)))] → va_S A s.heap H locs → lv_has ls 6 [(0, .ref aM), (2, .int q.1), (3, .int row), (4, .int col)] → W p l e (headSpec (ws_ yX2_place cX2_place 6 none) ({ frames := 2, cells := 1, slots := 196, locals := 49 })).room s m ([.ref aM, .int kind] : List Value).toArray below meth c H locs 1 196 Q (F0 m 240 ls [])) → (∀ (H : Heap) (locs : List Loc) (ls : Array Slot), va_P (dC, dI) vwCl [(aM, .inr (3, [.ref aW, .int S, .ref aT, .ref aQ])), (aW, .inl (eW, 72, .inl (pd_wd b))), (aT, .inl (eT, n, .inl (pmd b T))), (aQ, .inl (eQ, 72, .inl (pd_wd b)))] H → va_D A [(aM, .inr (3, [.ref aW, .int S, .ref aT, .ref aQ])), (aW, .inl (eW, 72, .inl (pd_wd b))), (aT, .inl (eT, n, .inl (pmd b T))), (aQ, .inl (eQ, 72, .inl (pd_wd b)))] → va_S A s.heap H locs → lv_has ls 6 [(0, .ref aM), (2, .int pos), (3, .int row), (4, .int col)] → W p l e (headSpec (ws_ yX2_place cX2_place 6 none) ({ frames := 2, cells := 1, slots := 196, locals := 49 })).room s m ([.ref aM, .int kind] : List Value).toArray below meth c H locs 1 196 Q (F0 m 206 ls [])) := by
  intro row col pos T q hT h k
  intro H locs ls hP hD hS hl
  refine lv_iload_n hx hb dX2_place_206 rfl (lv_at hl 2 rfl) ?_
  refine lv_aload_n hx hb dX2_place_207 rfl (lv_at hl 0 rfl) ?_
  refine va_get (D := (dC, dI)) (ci := 3) (v := .int S) (C := RX2) (T := TX2) (N := 4) hx hb hts in_X2 hown hK hP 0 rfl rfl 1 (by decide) (hts _ q232) (fun _ h9 => h9) rfl dX2_place_208 ?_
  refine lv_icmp_ge (tgt := 240) hx hb dX2_place_211 (by decide) (fun c1 => ?_) (fun c1 => ?_)
  · rw [if_neg (fun z => absurd z.1 (Int32.not_lt.mpr c1))] at h
    cases h
    exact k _ _ ls hP hD hS (lv_sub hl [0, 1, 2, 3] rfl)
  · refine lv_iload hx hb dX2_place_214 (lv_at hl 3 rfl) ?_
    refine lv_if_lt (tgt := 240) hx hb dX2_place_216 (by decide) (fun c2 => ?_) (fun c2 => ?_)
    · rw [if_neg (fun z => z.2 c2)] at h
      cases h
      exact k _ _ ls hP hD hS (lv_sub hl [0, 1, 2, 3] rfl)
    · rw [if_pos ⟨Int32.not_le.mp c1, c2⟩] at h
      obtain ⟨hin, hq⟩ := pm_try_spec h
      rw [hT] at hin
      refine lv_aload_n hx hb dX2_place_219 rfl (lv_at hl 0 rfl) ?_
      refine lv_iload_n hx hb dX2_place_220 rfl (lv_at hl 2 rfl) ?_
      refine lv_iload hx hb dX2_place_221 (lv_at hl 3 rfl) ?_
      refine pd_read (v := (if pmd b T (row * S + col).toNatClampNeg = 0 then 1 else 0)) (W.runV (As := [.int row, .int col]) (rest := []) ⟨hx, hb, hml, hown, hts⟩ (metX2_isFree l dC dI aM aW aT aQ eT S n (pmd b T) row col hin) (cwV 2 hts (lw_V q274 q276 qs13 q22 q277) rfl rfl rfl (by decide +kernel) ⟨Nat.le_of_ble_eq_true rfl, Nat.le_of_ble_eq_true rfl⟩) ⟨pd_Pr.blind, va_recv hK hP (ci := 3) (q0 := 0) rfl rfl, pd_prer [0, 2] [1] hP hK hE hS rfl rfl⟩ rfl rfl hl.1 rfl (lv_room (Nat.le_of_ble_eq_true rfl)) dX2_place_223 ⟨Nat.le_of_ble_eq_true rfl, Nat.le_of_ble_eq_true rfl⟩) ?_
      rcases hq with ⟨d, T1, hu, rfl⟩ | ⟨d, rfl⟩
      · rw [if_pos (show pmd b T (row * S + col).toNatClampNeg = 0 from pm_mv_free.mpr d)]
        refine lv_if_eq (tgt := 240) hx hb dX2_place_226 (by decide) (fun c4 => ?_) (fun c4 => ?_)
        · exact absurd c4 (by decide)
        · refine lv_aload_n hx hb dX2_place_229 rfl (lv_at hl 0 rfl) ?_
          refine lv_iload_n hx hb dX2_place_230 rfl (lv_at hl 2 rfl) ?_
          refine lv_iload hx hb dX2_place_231 (lv_at hl 3 rfl) ?_
          refine lv_iload_n hx hb dX2_place_233 rfl (lv_at hl 1 rfl) ?_
          refine pd_goV (ws := [(aM, .inr (3, [.ref aW, .int S, .ref aT, .ref aQ])), (aW, .inl (eW, 72, .inl (pd_wd b))), (aT, .inl (eT, n, .inl (pmd b T))), (aQ, .inl (eQ, 72, .inl (pd_wd b)))]) (wc := [(aM, .inr (3, [.ref aW, .int S, .ref aT, .ref aQ])), (aT, .inl (eT, n, .inl (pmd b T))), (aQ, .inl (eQ, 72, .inl (pd_wd b)))]) (wr := [(aW, .inl (eW, 72, .inl (pd_wd b)))]) (w1 := [(aM, .inr (3, [.ref aW, .int S, .ref aT, .ref aQ])), (aT, .inl (eT, n, .inl (pmd b T1))), (aQ, .inl (eQ, 72, .inl (pd_wd b)))]) [0, 2, 3] [1] hP hD hS hA rfl rfl (by decide) (by decide) (va_runV (As := [.int row, .int col, .int pos]) (rest := []) ⟨hx, hb, hml, hown, hts⟩ (metX2_utah l dC dI _ aM aW aT aQ eT eQ S n b T T1 row col pos hT hu) (cwV 3 hts (lw_V q278 q280 qs14 q22 q281) rfl rfl rfl (by decide +kernel) ⟨Nat.le_of_ble_eq_true rfl, Nat.le_of_ble_eq_true rfl⟩) ⟨pd_Pc.blind, va_recv hK hP (ci := 3) (q0 := 0) rfl rfl, pd_pre [0, 2, 3] [1, 2] hP hK hD hE hS hA rfl (by decide) rfl⟩ rfl rfl hl.1 rfl (lv_room (Nat.le_of_ble_eq_true rfl)) dX2_place_234 ⟨Nat.le_of_ble_eq_true rfl, Nat.le_of_ble_eq_true rfl⟩) (fun H locs hP hD hS => ?_)
          have hP : va_P (dC, dI) vwCl [(aW, .inl (eW, 72, .inl (pd_wd b))), (aM, .inr (3, [.ref aW, .int S, .ref aT, .ref aQ])), (aT, .inl (eT, n, .inl (pmd b T1))), (aQ, .inl (eQ, 72, .inl (pd_wd b)))] H := hP
          have hD : va_D A [(aW, .inl (eW, 72, .inl (pd_wd b))), (aM, .inr (3, [.ref aW, .int S, .ref aT, .ref aQ])), (aT, .inl (eT, n, .inl (pmd b T1))), (aQ, .inl (eQ, 72, .inl (pd_wd b)))] := hD
          have hP := hP.sub (ws' := [(aM, .inr (3, [.ref aW, .int S, .ref aT, .ref aQ])), (aW, .inl (eW, 72, .inl (pd_wd b))), (aT, .inl (eT, n, .inl (pmd b T1))), (aQ, .inl (eQ, 72, .inl (pd_wd b)))]) [1, 0, 2, 3] rfl
          have hD := hD.sub (ws' := [(aM, .inr (3, [.ref aW, .int S, .ref aT, .ref aQ])), (aW, .inl (eW, 72, .inl (pd_wd b))), (aT, .inl (eT, n, .inl (pmd b T1))), (aQ, .inl (eQ, 72, .inl (pd_wd b)))]) [1, 0, 2, 3] (by decide) rfl
          refine lv_iinc (v := pos + 1) (lv' := [(2, .int (pos + 1)), (0, .ref aM), (3, .int row), (4, .int col)]) hx hb dX2_place_237 hl (k := 1) rfl rfl (by decide) rfl (fun ls hl => ?_)
          exact k _ _ ls hP hD hS (lv_sub hl [1, 0, 2, 3] rfl)
      · rw [if_neg (show ¬ pmd b T (row * S + col).toNatClampNeg = 0 from fun z => d (pm_mv_free.mp z))]
        refine lv_if_eq (tgt := 240) hx hb dX2_place_226 (by decide) (fun c5 => ?_) (fun c5 => ?_)
        · exact k _ _ ls hP hD hS (lv_sub hl [0, 1, 2, 3] rfl)
        · exact absurd rfl c5
set_option maxHeartbeats 4000000 in
set_option maxRecDepth 100000 in
theorem x2p_dnB {l : Launch} {dC : Nat → ClassId} {dI : Nat → Nat → Nat} {p : Program} {e : Env} {s : State} {m : MethodId} {below : List Frame} {meth : Method} {c : Code} {A : Nat → Prop} {aM aW aT aQ : Nat} {eW eT eQ : ClassId} {S kind : Int32} {n : Nat} {b : Nat → Nat} {Q : State → Prop} (hx : p.tables.exec = Jvm.exec) (hb : c.code = cX2_place) (hml : c.maxLocals = 6) (hown : s.vm.findClass RX2 = some m.cls) (hts : ∀ w ∈ lw_all, w.before ([.ref aM, .int kind] : List Value).toArray s = true) (hK : va_K (dC, dI) vwCl [(eW, .int), (eT, .int), (eQ, .int)] s) (hE : pd_E A s s.heap) (hA : ∀ q : Nat, s.heap.size ≤ q → A q) : ∀ (row col pos : Int32) (T : List pC) (q : Int32 × List pC), T.length = n → (if ¬ row < 0 ∧ col < S then pm_try S row col pos T else some (pos, T)) = some q → (∀ (H : Heap) (locs : List Loc) (ls : Array Slot), va_P (dC, dI) vwCl [(aM, .inr (3, [.ref aW, .int S, .ref aT, .ref aQ])), (aW, .inl (eW, 72, .inl (pd_wd b))), (aT, .inl (eT, n, .inl (pmd b q.2))), (aQ, .inl (eQ, 72, .inl (pd_wd b)))] H → va_D A [(aM, .inr (3, [.ref aW, .int S, .ref aT, .ref aQ])), (aW, .inl (eW, 72, .inl (pd_wd b))), (aT, .inl (eT, n, .inl (pmd b q.2))), (aQ, .inl (eQ, 72, .inl (pd_wd b)))] → va_S A s.heap H locs → lv_has ls 6 [(0, .ref aM), (2, .int q.1), (3, .int row), (4, .int col)] → W p l e (headSpec (ws_ yX2_place cX2_place 6 none) ({ frames := 2, cells := 1, slots := 196, locals := 49 })).room s m ([.ref aM, .int kind] : List Value).toArray below meth c H locs 1 196 Q (F0 m 317 ls [])) → (∀ (H : Heap) (locs : List Loc) (ls : Array Slot), va_P (dC, dI) vwCl [(aM, .inr (3, [.ref aW, .int S, .ref aT, .ref aQ])), (aW, .inl (eW, 72, .inl (pd_wd b))), (aT, .inl (eT, n, .inl (pmd b T))), (aQ, .inl (eQ, 72, .inl (pd_wd b)))] H → va_D A [(aM, .inr (3, [.ref aW, .int S, .ref aT, .ref aQ])), (aW, .inl (eW, 72, .inl (pd_wd b))), (aT, .inl (eT, n, .inl (pmd b T))), (aQ, .inl (eQ, 72, .inl (pd_wd b)))] → va_S A s.heap H locs → lv_has ls 6 [(0, .ref aM), (2, .int pos), (3, .int row), (4, .int col)] → W p l e (headSpec (ws_ yX2_place cX2_place 6 none) ({ frames := 2, cells := 1, slots := 196, locals := 49 })).room s m ([.ref aM, .int kind] : List Value).toArray below meth c H locs 1 196 Q (F0 m 283 ls [])) := by
  intro row col pos T q hT h k
  intro H locs ls hP hD hS hl
  refine lv_iload_n hx hb dX2_place_283 rfl (lv_at hl 2 rfl) ?_
  refine lv_if_lt (tgt := 317) hx hb dX2_place_284 (by decide) (fun c1 => ?_) (fun c1 => ?_)
  · rw [if_neg (fun z => z.1 c1)] at h
    cases h
    exact k _ _ ls hP hD hS (lv_sub hl [0, 1, 2, 3] rfl)
  · refine lv_iload hx hb dX2_place_287 (lv_at hl 3 rfl) ?_
    refine lv_aload_n hx hb dX2_place_289 rfl (lv_at hl 0 rfl) ?_
    refine va_get (D := (dC, dI)) (ci := 3) (v := .int S) (C := RX2) (T := TX2) (N := 4) hx hb hts in_X2 hown hK hP 0 rfl rfl 1 (by decide) (hts _ q232) (fun _ h9 => h9) rfl dX2_place_290 ?_
    refine lv_icmp_ge (tgt := 317) hx hb dX2_place_293 (by decide) (fun c2 => ?_) (fun c2 => ?_)
    · rw [if_neg (fun z => absurd z.2 (Int32.not_lt.mpr c2))] at h
      cases h
      exact k _ _ ls hP hD hS (lv_sub hl [0, 1, 2, 3] rfl)
    · rw [if_pos ⟨c1, Int32.not_le.mp c2⟩] at h
      obtain ⟨hin, hq⟩ := pm_try_spec h
      rw [hT] at hin
      refine lv_aload_n hx hb dX2_place_296 rfl (lv_at hl 0 rfl) ?_
      refine lv_iload_n hx hb dX2_place_297 rfl (lv_at hl 2 rfl) ?_
      refine lv_iload hx hb dX2_place_298 (lv_at hl 3 rfl) ?_
      refine pd_read (v := (if pmd b T (row * S + col).toNatClampNeg = 0 then 1 else 0)) (W.runV (As := [.int row, .int col]) (rest := []) ⟨hx, hb, hml, hown, hts⟩ (metX2_isFree l dC dI aM aW aT aQ eT S n (pmd b T) row col hin) (cwV 2 hts (lw_V q274 q276 qs13 q22 q277) rfl rfl rfl (by decide +kernel) ⟨Nat.le_of_ble_eq_true rfl, Nat.le_of_ble_eq_true rfl⟩) ⟨pd_Pr.blind, va_recv hK hP (ci := 3) (q0 := 0) rfl rfl, pd_prer [0, 2] [1] hP hK hE hS rfl rfl⟩ rfl rfl hl.1 rfl (lv_room (Nat.le_of_ble_eq_true rfl)) dX2_place_300 ⟨Nat.le_of_ble_eq_true rfl, Nat.le_of_ble_eq_true rfl⟩) ?_
      rcases hq with ⟨d, T1, hu, rfl⟩ | ⟨d, rfl⟩
      · rw [if_pos (show pmd b T (row * S + col).toNatClampNeg = 0 from pm_mv_free.mpr d)]
        refine lv_if_eq (tgt := 317) hx hb dX2_place_303 (by decide) (fun c4 => ?_) (fun c4 => ?_)
        · exact absurd c4 (by decide)
        · refine lv_aload_n hx hb dX2_place_306 rfl (lv_at hl 0 rfl) ?_
          refine lv_iload_n hx hb dX2_place_307 rfl (lv_at hl 2 rfl) ?_
          refine lv_iload hx hb dX2_place_308 (lv_at hl 3 rfl) ?_
          refine lv_iload_n hx hb dX2_place_310 rfl (lv_at hl 1 rfl) ?_
          refine pd_goV (ws := [(aM, .inr (3, [.ref aW, .int S, .ref aT, .ref aQ])), (aW, .inl (eW, 72, .inl (pd_wd b))), (aT, .inl (eT, n, .inl (pmd b T))), (aQ, .inl (eQ, 72, .inl (pd_wd b)))]) (wc := [(aM, .inr (3, [.ref aW, .int S, .ref aT, .ref aQ])), (aT, .inl (eT, n, .inl (pmd b T))), (aQ, .inl (eQ, 72, .inl (pd_wd b)))]) (wr := [(aW, .inl (eW, 72, .inl (pd_wd b)))]) (w1 := [(aM, .inr (3, [.ref aW, .int S, .ref aT, .ref aQ])), (aT, .inl (eT, n, .inl (pmd b T1))), (aQ, .inl (eQ, 72, .inl (pd_wd b)))]) [0, 2, 3] [1] hP hD hS hA rfl rfl (by decide) (by decide) (va_runV (As := [.int row, .int col, .int pos]) (rest := []) ⟨hx, hb, hml, hown, hts⟩ (metX2_utah l dC dI _ aM aW aT aQ eT eQ S n b T T1 row col pos hT hu) (cwV 3 hts (lw_V q278 q280 qs14 q22 q281) rfl rfl rfl (by decide +kernel) ⟨Nat.le_of_ble_eq_true rfl, Nat.le_of_ble_eq_true rfl⟩) ⟨pd_Pc.blind, va_recv hK hP (ci := 3) (q0 := 0) rfl rfl, pd_pre [0, 2, 3] [1, 2] hP hK hD hE hS hA rfl (by decide) rfl⟩ rfl rfl hl.1 rfl (lv_room (Nat.le_of_ble_eq_true rfl)) dX2_place_311 ⟨Nat.le_of_ble_eq_true rfl, Nat.le_of_ble_eq_true rfl⟩) (fun H locs hP hD hS => ?_)
          have hP : va_P (dC, dI) vwCl [(aW, .inl (eW, 72, .inl (pd_wd b))), (aM, .inr (3, [.ref aW, .int S, .ref aT, .ref aQ])), (aT, .inl (eT, n, .inl (pmd b T1))), (aQ, .inl (eQ, 72, .inl (pd_wd b)))] H := hP
          have hD : va_D A [(aW, .inl (eW, 72, .inl (pd_wd b))), (aM, .inr (3, [.ref aW, .int S, .ref aT, .ref aQ])), (aT, .inl (eT, n, .inl (pmd b T1))), (aQ, .inl (eQ, 72, .inl (pd_wd b)))] := hD
          have hP := hP.sub (ws' := [(aM, .inr (3, [.ref aW, .int S, .ref aT, .ref aQ])), (aW, .inl (eW, 72, .inl (pd_wd b))), (aT, .inl (eT, n, .inl (pmd b T1))), (aQ, .inl (eQ, 72, .inl (pd_wd b)))]) [1, 0, 2, 3] rfl
          have hD := hD.sub (ws' := [(aM, .inr (3, [.ref aW, .int S, .ref aT, .ref aQ])), (aW, .inl (eW, 72, .inl (pd_wd b))), (aT, .inl (eT, n, .inl (pmd b T1))), (aQ, .inl (eQ, 72, .inl (pd_wd b)))]) [1, 0, 2, 3] (by decide) rfl
          refine lv_iinc (v := pos + 1) (lv' := [(2, .int (pos + 1)), (0, .ref aM), (3, .int row), (4, .int col)]) hx hb dX2_place_314 hl (k := 1) rfl rfl (by decide) rfl (fun ls hl => ?_)
          exact k _ _ ls hP hD hS (lv_sub hl [1, 0, 2, 3] rfl)
      · rw [if_neg (show ¬ pmd b T (row * S + col).toNatClampNeg = 0 from fun z => d (pm_mv_free.mp z))]
        refine lv_if_eq (tgt := 317) hx hb dX2_place_303 (by decide) (fun c5 => ?_) (fun c5 => ?_)
        · exact k _ _ ls hP hD hS (lv_sub hl [0, 1, 2, 3] rfl)
        · exact absurd rfl c5
set_option maxHeartbeats 4000000 in
set_option maxRecDepth 100000 in
theorem x2p_up {l : Launch} {dC : Nat → ClassId} {dI : Nat → Nat → Nat} {p : Program} {e : Env} {s : State} {m : MethodId} {below : List Frame} {meth : Method} {c : Code} {A : Nat → Prop} {aM aW aT aQ : Nat} {eW eT eQ : ClassId} {S kind : Int32} {n : Nat} {b : Nat → Nat} {Q : State → Prop} (hx : p.tables.exec = Jvm.exec) (hb : c.code = cX2_place) (hml : c.maxLocals = 6) (hown : s.vm.findClass RX2 = some m.cls) (hts : ∀ w ∈ lw_all, w.before ([.ref aM, .int kind] : List Value).toArray s = true) (hK : va_K (dC, dI) vwCl [(eW, .int), (eT, .int), (eQ, .int)] s) (hE : pd_E A s s.heap) (hA : ∀ q : Nat, s.heap.size ≤ q → A q) : ∀ (k : Nat) (row col pos : Int32) (T : List pC) (u : Int32 × Int32 × Int32 × List pC), T.length = n → pm_up S k row col pos T = some u → (∀ (H : Heap) (locs : List Loc) (ls : Array Slot), va_P (dC, dI) vwCl [(aM, .inr (3, [.ref aW, .int S, .ref aT, .ref aQ])), (aW, .inl (eW, 72, .inl (pd_wd b))), (aT, .inl (eT, n, .inl (pmd b u.2.2.2))), (aQ, .inl (eQ, 72, .inl (pd_wd b)))] H → va_D A [(aM, .inr (3, [.ref aW, .int S, .ref aT, .ref aQ])), (aW, .inl (eW, 72, .inl (pd_wd b))), (aT, .inl (eT, n, .inl (pmd b u.2.2.2))), (aQ, .inl (eQ, 72, .inl (pd_wd b)))] → va_S A s.heap H locs → lv_has ls 6 [(0, .ref aM), (2, .int u.2.2.1), (3, .int u.1), (4, .int u.2.1)] → W p l e (headSpec (ws_ yX2_place cX2_place 6 none) ({ frames := 2, cells := 1, slots := 196, locals := 49 })).room s m ([.ref aM, .int kind] : List Value).toArray below meth c H locs 1 196 Q (F0 m 269 ls [])) → (∀ (H : Heap) (locs : List Loc) (ls : Array Slot), va_P (dC, dI) vwCl [(aM, .inr (3, [.ref aW, .int S, .ref aT, .ref aQ])), (aW, .inl (eW, 72, .inl (pd_wd b))), (aT, .inl (eT, n, .inl (pmd b T))), (aQ, .inl (eQ, 72, .inl (pd_wd b)))] H → va_D A [(aM, .inr (3, [.ref aW, .int S, .ref aT, .ref aQ])), (aW, .inl (eW, 72, .inl (pd_wd b))), (aT, .inl (eT, n, .inl (pmd b T))), (aQ, .inl (eQ, 72, .inl (pd_wd b)))] → va_S A s.heap H locs → lv_has ls 6 [(0, .ref aM), (2, .int pos), (3, .int row), (4, .int col)] → W p l e (headSpec (ws_ yX2_place cX2_place 6 none) ({ frames := 2, cells := 1, slots := 196, locals := 49 })).room s m ([.ref aM, .int kind] : List Value).toArray below meth c H locs 1 196 Q (F0 m 206 ls [])) := by
  intro k
  induction k with
  | zero =>
    intro row col pos T u hT h
    rw [pm_up_0] at h
    cases h
  | succ k ih =>
    intro row col pos T u hT h hk
    rw [pm_up_s] at h
    obtain ⟨q, hq, h⟩ := ob_s h
    have hTq : q.2.length = n := (pm_if_len hq).trans hT
    refine x2p_upB hx hb hml hown hts hK hE hA row col pos T q hT hq ?_
    intro H locs ls hP hD hS hl
    refine lv_iinc (v := row - 2) (lv' := [(3, .int (row - 2)), (0, .ref aM), (2, .int q.1), (4, .int col)]) hx hb dX2_place_240 hl (k := 2) rfl (pd_iincm2 row) (by decide) rfl (fun ls hl => ?_)
    refine lv_iinc (v := col + 2) (lv' := [(4, .int (col + 2)), (3, .int (row - 2)), (0, .ref aM), (2, .int q.1)]) hx hb dX2_place_243 hl (k := 3) rfl rfl (by decide) rfl (fun ls hl => ?_)
    refine lv_iload_n hx hb dX2_place_246 rfl (lv_at hl 1 rfl) ?_
    refine lv_if_lt (tgt := 263) hx hb dX2_place_247 (by decide) (fun c1 => ?_) (fun c1 => ?_)
    · rw [if_neg (fun z => z.1 c1)] at h
      cases h
      refine lv_iconst (v := 0) hx hb dX2_place_263 (by decide) ?_
      refine lv_istore (lv' := [(5, .int 0), (4, .int (col + 2)), (3, .int (row - 2)), (0, .ref aM), (2, .int q.1)]) hx hb dX2_place_264 hl (by decide) rfl (fun ls hl => ?_)
      refine lv_goto (tgt := 201) hx hb dX2_place_266 (by decide) ?_
      refine lv_iload hx hb dX2_place_201 (lv_at hl 0 rfl) ?_
      refine lv_if_eq (tgt := 269) hx hb dX2_place_203 (by decide) (fun c2 => ?_) (fun c2 => ?_)
      · exact hk _ _ ls hP hD hS (lv_sub hl [3, 4, 2, 1] rfl)
      · exact absurd rfl c2
    · refine lv_iload hx hb dX2_place_250 (lv_at hl 0 rfl) ?_
      refine lv_aload_n hx hb dX2_place_252 rfl (lv_at hl 2 rfl) ?_
      refine va_get (D := (dC, dI)) (ci := 3) (v := .int S) (C := RX2) (T := TX2) (N := 4) hx hb hts in_X2 hown hK hP 0 rfl rfl 1 (by decide) (hts _ q232) (fun _ h9 => h9) rfl dX2_place_253 ?_
      refine lv_icmp_ge (tgt := 263) hx hb dX2_place_256 (by decide) (fun c3 => ?_) (fun c3 => ?_)
      · rw [if_neg (fun z => absurd z.2 (Int32.not_lt.mpr c3))] at h
        cases h
        refine lv_iconst (v := 0) hx hb dX2_place_263 (by decide) ?_
        refine lv_istore (lv' := [(5, .int 0), (4, .int (col + 2)), (3, .int (row - 2)), (0, .ref aM), (2, .int q.1)]) hx hb dX2_place_264 hl (by decide) rfl (fun ls hl => ?_)
        refine lv_goto (tgt := 201) hx hb dX2_place_266 (by decide) ?_
        refine lv_iload hx hb dX2_place_201 (lv_at hl 0 rfl) ?_
        refine lv_if_eq (tgt := 269) hx hb dX2_place_203 (by decide) (fun c4 => ?_) (fun c4 => ?_)
        · exact hk _ _ ls hP hD hS (lv_sub hl [3, 4, 2, 1] rfl)
        · exact absurd rfl c4
      · rw [if_pos ⟨c1, Int32.not_le.mp c3⟩] at h
        refine lv_iconst (v := 1) hx hb dX2_place_259 (by decide) ?_
        refine lv_goto (tgt := 264) hx hb dX2_place_260 (by decide) ?_
        refine lv_istore (lv' := [(5, .int 1), (4, .int (col + 2)), (3, .int (row - 2)), (0, .ref aM), (2, .int q.1)]) hx hb dX2_place_264 hl (by decide) rfl (fun ls hl => ?_)
        refine lv_goto (tgt := 201) hx hb dX2_place_266 (by decide) ?_
        refine lv_iload hx hb dX2_place_201 (lv_at hl 0 rfl) ?_
        refine lv_if_eq (tgt := 269) hx hb dX2_place_203 (by decide) (fun c5 => ?_) (fun c5 => ?_)
        · exact absurd c5 (by decide)
        · exact ih _ _ _ _ u hTq h hk _ _ ls hP hD hS (lv_sub hl [3, 4, 2, 1] rfl)
set_option maxHeartbeats 4000000 in
set_option maxRecDepth 100000 in
theorem x2p_dn {l : Launch} {dC : Nat → ClassId} {dI : Nat → Nat → Nat} {p : Program} {e : Env} {s : State} {m : MethodId} {below : List Frame} {meth : Method} {c : Code} {A : Nat → Prop} {aM aW aT aQ : Nat} {eW eT eQ : ClassId} {S kind : Int32} {n : Nat} {b : Nat → Nat} {Q : State → Prop} (hx : p.tables.exec = Jvm.exec) (hb : c.code = cX2_place) (hml : c.maxLocals = 6) (hown : s.vm.findClass RX2 = some m.cls) (hts : ∀ w ∈ lw_all, w.before ([.ref aM, .int kind] : List Value).toArray s = true) (hK : va_K (dC, dI) vwCl [(eW, .int), (eT, .int), (eQ, .int)] s) (hE : pd_E A s s.heap) (hA : ∀ q : Nat, s.heap.size ≤ q → A q) : ∀ (k : Nat) (row col pos : Int32) (T : List pC) (u : Int32 × Int32 × Int32 × List pC), T.length = n → pm_dn S k row col pos T = some u → (∀ (H : Heap) (locs : List Loc) (ls : Array Slot), va_P (dC, dI) vwCl [(aM, .inr (3, [.ref aW, .int S, .ref aT, .ref aQ])), (aW, .inl (eW, 72, .inl (pd_wd b))), (aT, .inl (eT, n, .inl (pmd b u.2.2.2))), (aQ, .inl (eQ, 72, .inl (pd_wd b)))] H → va_D A [(aM, .inr (3, [.ref aW, .int S, .ref aT, .ref aQ])), (aW, .inl (eW, 72, .inl (pd_wd b))), (aT, .inl (eT, n, .inl (pmd b u.2.2.2))), (aQ, .inl (eQ, 72, .inl (pd_wd b)))] → va_S A s.heap H locs → lv_has ls 6 [(0, .ref aM), (2, .int u.2.2.1), (3, .int u.1), (4, .int u.2.1)] → W p l e (headSpec (ws_ yX2_place cX2_place 6 none) ({ frames := 2, cells := 1, slots := 196, locals := 49 })).room s m ([.ref aM, .int kind] : List Value).toArray below meth c H locs 1 196 Q (F0 m 346 ls [])) → (∀ (H : Heap) (locs : List Loc) (ls : Array Slot), va_P (dC, dI) vwCl [(aM, .inr (3, [.ref aW, .int S, .ref aT, .ref aQ])), (aW, .inl (eW, 72, .inl (pd_wd b))), (aT, .inl (eT, n, .inl (pmd b T))), (aQ, .inl (eQ, 72, .inl (pd_wd b)))] H → va_D A [(aM, .inr (3, [.ref aW, .int S, .ref aT, .ref aQ])), (aW, .inl (eW, 72, .inl (pd_wd b))), (aT, .inl (eT, n, .inl (pmd b T))), (aQ, .inl (eQ, 72, .inl (pd_wd b)))] → va_S A s.heap H locs → lv_has ls 6 [(0, .ref aM), (2, .int pos), (3, .int row), (4, .int col)] → W p l e (headSpec (ws_ yX2_place cX2_place 6 none) ({ frames := 2, cells := 1, slots := 196, locals := 49 })).room s m ([.ref aM, .int kind] : List Value).toArray below meth c H locs 1 196 Q (F0 m 283 ls [])) := by
  intro k
  induction k with
  | zero =>
    intro row col pos T u hT h
    rw [pm_dn_0] at h
    cases h
  | succ k ih =>
    intro row col pos T u hT h hk
    rw [pm_dn_s] at h
    obtain ⟨q, hq, h⟩ := ob_s h
    have hTq : q.2.length = n := (pm_if_len hq).trans hT
    refine x2p_dnB hx hb hml hown hts hK hE hA row col pos T q hT hq ?_
    intro H locs ls hP hD hS hl
    refine lv_iinc (v := row + 2) (lv' := [(3, .int (row + 2)), (0, .ref aM), (2, .int q.1), (4, .int col)]) hx hb dX2_place_317 hl (k := 2) rfl rfl (by decide) rfl (fun ls hl => ?_)
    refine lv_iinc (v := col - 2) (lv' := [(4, .int (col - 2)), (3, .int (row + 2)), (0, .ref aM), (2, .int q.1)]) hx hb dX2_place_320 hl (k := 3) rfl (pd_iincm2 col) (by decide) rfl (fun ls hl => ?_)
    refine lv_iload_n hx hb dX2_place_323 rfl (lv_at hl 1 rfl) ?_
    refine lv_aload_n hx hb dX2_place_324 rfl (lv_at hl 2 rfl) ?_
    refine va_get (D := (dC, dI)) (ci := 3) (v := .int S) (C := RX2) (T := TX2) (N := 4) hx hb hts in_X2 hown hK hP 0 rfl rfl 1 (by decide) (hts _ q232) (fun _ h9 => h9) rfl dX2_place_325 ?_
    refine lv_icmp_ge (tgt := 340) hx hb dX2_place_328 (by decide) (fun c1 => ?_) (fun c1 => ?_)
    · rw [if_neg (fun z => absurd z.1 (Int32.not_lt.mpr c1))] at h
      cases h
      refine lv_iconst (v := 0) hx hb dX2_place_340 (by decide) ?_
      refine lv_istore (lv' := [(5, .int 0), (4, .int (col - 2)), (3, .int (row + 2)), (0, .ref aM), (2, .int q.1)]) hx hb dX2_place_341 hl (by decide) rfl (fun ls hl => ?_)
      refine lv_goto (tgt := 278) hx hb dX2_place_343 (by decide) ?_
      refine lv_iload hx hb dX2_place_278 (lv_at hl 0 rfl) ?_
      refine lv_if_eq (tgt := 346) hx hb dX2_place_280 (by decide) (fun c2 => ?_) (fun c2 => ?_)
      · exact hk _ _ ls hP hD hS (lv_sub hl [3, 4, 2, 1] rfl)
      · exact absurd rfl c2
    · refine lv_iload hx hb dX2_place_331 (lv_at hl 0 rfl) ?_
      refine lv_if_lt (tgt := 340) hx hb dX2_place_333 (by decide) (fun c3 => ?_) (fun c3 => ?_)
      · rw [if_neg (fun z => z.2 c3)] at h
        cases h
        refine lv_iconst (v := 0) hx hb dX2_place_340 (by decide) ?_
        refine lv_istore (lv' := [(5, .int 0), (4, .int (col - 2)), (3, .int (row + 2)), (0, .ref aM), (2, .int q.1)]) hx hb dX2_place_341 hl (by decide) rfl (fun ls hl => ?_)
        refine lv_goto (tgt := 278) hx hb dX2_place_343 (by decide) ?_
        refine lv_iload hx hb dX2_place_278 (lv_at hl 0 rfl) ?_
        refine lv_if_eq (tgt := 346) hx hb dX2_place_280 (by decide) (fun c4 => ?_) (fun c4 => ?_)
        · exact hk _ _ ls hP hD hS (lv_sub hl [3, 4, 2, 1] rfl)
        · exact absurd rfl c4
      · rw [if_pos ⟨Int32.not_le.mp c1, c3⟩] at h
        refine lv_iconst (v := 1) hx hb dX2_place_336 (by decide) ?_
        refine lv_goto (tgt := 341) hx hb dX2_place_337 (by decide) ?_
        refine lv_istore (lv' := [(5, .int 1), (4, .int (col - 2)), (3, .int (row + 2)), (0, .ref aM), (2, .int q.1)]) hx hb dX2_place_341 hl (by decide) rfl (fun ls hl => ?_)
        refine lv_goto (tgt := 278) hx hb dX2_place_343 (by decide) ?_
        refine lv_iload hx hb dX2_place_278 (lv_at hl 0 rfl) ?_
        refine lv_if_eq (tgt := 346) hx hb dX2_place_280 (by decide) (fun c5 => ?_) (fun c5 => ?_)
        · exact absurd c5 (by decide)
        · exact ih _ _ _ _ u hTq h hk _ _ ls hP hD hS (lv_sub hl [3, 4, 2, 1] rfl)
set_option maxHeartbeats 4000000 in
set_option maxRecDepth 100000 in
theorem x2p_k1B {l : Launch} {dC : Nat → ClassId} {dI : Nat → Nat → Nat} {p : Program} {e : Env} {s : State} {m : MethodId} {below : List Frame} {meth : Method} {c : Code} {A : Nat → Prop} {aM aW aT aQ : Nat} {eW eT eQ : ClassId} {S kind : Int32} {n : Nat} {b : Nat → Nat} {Q : State → Prop} (hx : p.tables.exec = Jvm.exec) (hb : c.code = cX2_place) (hml : c.maxLocals = 6) (hown : s.vm.findClass RX2 = some m.cls) (hts : ∀ w ∈ lw_all, w.before ([.ref aM, .int kind] : List Value).toArray s = true) (hK : va_K (dC, dI) vwCl [(eW, .int), (eT, .int), (eQ, .int)] s) (hE : pd_E A s s.heap) (hA : ∀ q : Nat, s.heap.size ≤ q → A q) : ∀ (row col pos : Int32) (T : List pC) (q : Int32 × List pC), T.length = n → pm_k1 S row col pos T = some q → (∀ (H : Heap) (locs : List Loc) (ls : Array Slot), va_P (dC, dI) vwCl [(aM, .inr (3, [.ref aW, .int S, .ref aT, .ref aQ])), (aW, .inl (eW, 72, .inl (pd_wd b))), (aT, .inl (eT, n, .inl (pmd b q.2))), (aQ, .inl (eQ, 72, .inl (pd_wd b)))] H → va_D A [(aM, .inr (3, [.ref aW, .int S, .ref aT, .ref aQ])), (aW, .inl (eW, 72, .inl (pd_wd b))), (aT, .inl (eT, n, .inl (pmd b q.2))), (aQ, .inl (eQ, 72, .inl (pd_wd b)))] → va_S A s.heap H locs → lv_has ls 6 [(0, .ref aM), (2, .int q.1), (3, .int row), (4, .int col)] → W p l e (headSpec (ws_ yX2_place cX2_place 6 none) ({ frames := 2, cells := 1, slots := 196, locals := 49 })).room s m ([.ref aM, .int kind] : List Value).toArray below meth c H locs 1 196 Q (F0 m 98 ls [])) → (∀ (H : Heap) (locs : List Loc) (ls : Array Slot), va_P (dC, dI) vwCl [(aM, .inr (3, [.ref aW, .int S, .ref aT, .ref aQ])), (aW, .inl (eW, 72, .inl (pd_wd b))), (aT, .inl (eT, n, .inl (pmd b T))), (aQ, .inl (eQ, 72, .inl (pd_wd b)))] H → va_D A [(aM, .inr (3, [.ref aW, .int S, .ref aT, .ref aQ])), (aW, .inl (eW, 72, .inl (pd_wd b))), (aT, .inl (eT, n, .inl (pmd b T))), (aQ, .inl (eQ, 72, .inl (pd_wd b)))] → va_S A s.heap H locs → lv_has ls 6 [(0, .ref aM), (2, .int pos), (3, .int row), (4, .int col)] → W p l e (headSpec (ws_ yX2_place cX2_place 6 none) ({ frames := 2, cells := 1, slots := 196, locals := 49 })).room s m ([.ref aM, .int kind] : List Value).toArray below meth c H locs 1 196 Q (F0 m 77 ls [])) := by
  intro row col pos T q hT h k
  unfold pm_k1 at h
  intro H locs ls hP hD hS hl
  refine lv_iload_n hx hb dX2_place_77 rfl (lv_at hl 2 rfl) ?_
  refine lv_aload_n hx hb dX2_place_78 rfl (lv_at hl 0 rfl) ?_
  refine va_get (D := (dC, dI)) (ci := 3) (v := .int S) (C := RX2) (T := TX2) (N := 4) hx hb hts in_X2 hown hK hP 0 rfl rfl 1 (by decide) (hts _ q232) (fun _ h9 => h9) rfl dX2_place_79 ?_
  refine lv_icmp_ne (tgt := 98) hx hb dX2_place_82 (by decide) (fun c1 => ?_) (fun c1 => ?_)
  · rw [if_neg (fun z => c1 z.1)] at h
    cases h
    exact k _ _ ls hP hD hS (lv_sub hl [0, 1, 2, 3] rfl)
  · refine lv_iload hx hb dX2_place_85 (lv_at hl 3 rfl) ?_
    refine lv_if_ne (tgt := 98) hx hb dX2_place_87 (by decide) (fun c2 => ?_) (fun c2 => ?_)
    · rw [if_neg (fun z => c2 z.2)] at h
      cases h
      exact k _ _ ls hP hD hS (lv_sub hl [0, 1, 2, 3] rfl)
    · rw [if_pos ⟨c1, c2⟩] at h
      obtain ⟨T1, hu, rfl⟩ := ob_m h
      refine lv_aload_n hx hb dX2_place_90 rfl (lv_at hl 0 rfl) ?_
      refine lv_iload_n hx hb dX2_place_91 rfl (lv_at hl 1 rfl) ?_
      refine pd_goV (ws := [(aM, .inr (3, [.ref aW, .int S, .ref aT, .ref aQ])), (aW, .inl (eW, 72, .inl (pd_wd b))), (aT, .inl (eT, n, .inl (pmd b T))), (aQ, .inl (eQ, 72, .inl (pd_wd b)))]) (wc := [(aM, .inr (3, [.ref aW, .int S, .ref aT, .ref aQ])), (aT, .inl (eT, n, .inl (pmd b T))), (aQ, .inl (eQ, 72, .inl (pd_wd b)))]) (wr := [(aW, .inl (eW, 72, .inl (pd_wd b)))]) (w1 := [(aM, .inr (3, [.ref aW, .int S, .ref aT, .ref aQ])), (aT, .inl (eT, n, .inl (pmd b T1))), (aQ, .inl (eQ, 72, .inl (pd_wd b)))]) [0, 2, 3] [1] hP hD hS hA rfl rfl (by decide) (by decide) (va_runV (As := [.int pos]) (rest := []) ⟨hx, hb, hml, hown, hts⟩ (metX2_cornerOne l dC dI _ aM aW aT aQ eT eQ S n b T T1 pos hT hu) (cwV 1 hts (lw_V q254 q256 qs8 q22 q257) rfl rfl rfl (by decide +kernel) ⟨Nat.le_of_ble_eq_true rfl, Nat.le_of_ble_eq_true rfl⟩) ⟨pd_Pc.blind, va_recv hK hP (ci := 3) (q0 := 0) rfl rfl, pd_pre [0, 2, 3] [1, 2] hP hK hD hE hS hA rfl (by decide) rfl⟩ rfl rfl hl.1 rfl (lv_room (Nat.le_of_ble_eq_true rfl)) dX2_place_92 ⟨Nat.le_of_ble_eq_true rfl, Nat.le_of_ble_eq_true rfl⟩) (fun H locs hP hD hS => ?_)
      have hP : va_P (dC, dI) vwCl [(aW, .inl (eW, 72, .inl (pd_wd b))), (aM, .inr (3, [.ref aW, .int S, .ref aT, .ref aQ])), (aT, .inl (eT, n, .inl (pmd b T1))), (aQ, .inl (eQ, 72, .inl (pd_wd b)))] H := hP
      have hD : va_D A [(aW, .inl (eW, 72, .inl (pd_wd b))), (aM, .inr (3, [.ref aW, .int S, .ref aT, .ref aQ])), (aT, .inl (eT, n, .inl (pmd b T1))), (aQ, .inl (eQ, 72, .inl (pd_wd b)))] := hD
      have hP := hP.sub (ws' := [(aM, .inr (3, [.ref aW, .int S, .ref aT, .ref aQ])), (aW, .inl (eW, 72, .inl (pd_wd b))), (aT, .inl (eT, n, .inl (pmd b T1))), (aQ, .inl (eQ, 72, .inl (pd_wd b)))]) [1, 0, 2, 3] rfl
      have hD := hD.sub (ws' := [(aM, .inr (3, [.ref aW, .int S, .ref aT, .ref aQ])), (aW, .inl (eW, 72, .inl (pd_wd b))), (aT, .inl (eT, n, .inl (pmd b T1))), (aQ, .inl (eQ, 72, .inl (pd_wd b)))]) [1, 0, 2, 3] (by decide) rfl
      refine lv_iinc (v := pos + 1) (lv' := [(2, .int (pos + 1)), (0, .ref aM), (3, .int row), (4, .int col)]) hx hb dX2_place_95 hl (k := 1) rfl rfl (by decide) rfl (fun ls hl => ?_)
      exact k _ _ ls hP hD hS (lv_sub hl [1, 0, 2, 3] rfl)
set_option maxHeartbeats 4000000 in
set_option maxRecDepth 100000 in
theorem x2p_k2B {l : Launch} {dC : Nat → ClassId} {dI : Nat → Nat → Nat} {p : Program} {e : Env} {s : State} {m : MethodId} {below : List Frame} {meth : Method} {c : Code} {A : Nat → Prop} {aM aW aT aQ : Nat} {eW eT eQ : ClassId} {S kind : Int32} {n : Nat} {b : Nat → Nat} {Q : State → Prop} (hx : p.tables.exec = Jvm.exec) (hb : c.code = cX2_place) (hml : c.maxLocals = 6) (hown : s.vm.findClass RX2 = some m.cls) (hts : ∀ w ∈ lw_all, w.before ([.ref aM, .int kind] : List Value).toArray s = true) (hK : va_K (dC, dI) vwCl [(eW, .int), (eT, .int), (eQ, .int)] s) (hE : pd_E A s s.heap) (hA : ∀ q : Nat, s.heap.size ≤ q → A q) : ∀ (row col pos : Int32) (T : List pC) (q : Int32 × List pC), T.length = n → pm_k2 S row col pos T = some q → (∀ (H : Heap) (locs : List Loc) (ls : Array Slot), va_P (dC, dI) vwCl [(aM, .inr (3, [.ref aW, .int S, .ref aT, .ref aQ])), (aW, .inl (eW, 72, .inl (pd_wd b))), (aT, .inl (eT, n, .inl (pmd b q.2))), (aQ, .inl (eQ, 72, .inl (pd_wd b)))] H → va_D A [(aM, .inr (3, [.ref aW, .int S, .ref aT, .ref aQ])), (aW, .inl (eW, 72, .inl (pd_wd b))), (aT, .inl (eT, n, .inl (pmd b q.2))), (aQ, .inl (eQ, 72, .inl (pd_wd b)))] → va_S A s.heap H locs → lv_has ls 6 [(0, .ref aM), (2, .int q.1), (3, .int row), (4, .int col)] → W p l e (headSpec (ws_ yX2_place cX2_place 6 none) ({ frames := 2, cells := 1, slots := 196, locals := 49 })).room s m ([.ref aM, .int kind] : List Value).toArray below meth c H locs 1 196 Q (F0 m 130 ls [])) → (∀ (H : Heap) (locs : List Loc) (ls : Array Slot), va_P (dC, dI) vwCl [(aM, .inr (3, [.ref aW, .int S, .ref aT, .ref aQ])), (aW, .inl (eW, 72, .inl (pd_wd b))), (aT, .inl (eT, n, .inl (pmd b T))), (aQ, .inl (eQ, 72, .inl (pd_wd b)))] H → va_D A [(aM, .inr (3, [.ref aW, .int S, .ref aT, .ref aQ])), (aW, .inl (eW, 72, .inl (pd_wd b))), (aT, .inl (eT, n, .inl (pmd b T))), (aQ, .inl (eQ, 72, .inl (pd_wd b)))] → va_S A s.heap H locs → lv_has ls 6 [(0, .ref aM), (2, .int pos), (3, .int row), (4, .int col)] → W p l e (headSpec (ws_ yX2_place cX2_place 6 none) ({ frames := 2, cells := 1, slots := 196, locals := 49 })).room s m ([.ref aM, .int kind] : List Value).toArray below meth c H locs 1 196 Q (F0 m 98 ls [])) := by
  intro row col pos T q hT h k
  unfold pm_k2 at h
  intro H locs ls hP hD hS hl
  refine lv_iload_n hx hb dX2_place_98 rfl (lv_at hl 2 rfl) ?_
  refine lv_aload_n hx hb dX2_place_99 rfl (lv_at hl 0 rfl) ?_
  refine va_get (D := (dC, dI)) (ci := 3) (v := .int S) (C := RX2) (T := TX2) (N := 4) hx hb hts in_X2 hown hK hP 0 rfl rfl 1 (by decide) (hts _ q232) (fun _ h9 => h9) rfl dX2_place_100 ?_
  refine lv_iconst (v := 2) hx hb dX2_place_103 (by decide) ?_
  refine lv_isub hx hb dX2_place_104 ?_
  refine lv_icmp_ne (tgt := 130) hx hb dX2_place_105 (by decide) (fun c1 => ?_) (fun c1 => ?_)
  · rw [if_neg (fun z => c1 z.1)] at h
    cases h
    exact k _ _ ls hP hD hS (lv_sub hl [0, 1, 2, 3] rfl)
  · refine lv_iload hx hb dX2_place_108 (lv_at hl 3 rfl) ?_
    refine lv_if_ne (tgt := 130) hx hb dX2_place_110 (by decide) (fun c2 => ?_) (fun c2 => ?_)
    · rw [if_neg (fun z => c2 z.2.1)] at h
      cases h
      exact k _ _ ls hP hD hS (lv_sub hl [0, 1, 2, 3] rfl)
    · refine lv_aload_n hx hb dX2_place_113 rfl (lv_at hl 0 rfl) ?_
      refine va_get (D := (dC, dI)) (ci := 3) (v := .int S) (C := RX2) (T := TX2) (N := 4) hx hb hts in_X2 hown hK hP 0 rfl rfl 1 (by decide) (hts _ q232) (fun _ h9 => h9) rfl dX2_place_114 ?_
      refine lv_iconst (v := 4) hx hb dX2_place_117 (by decide) ?_
      refine lv_irem hx hb dX2_place_118 (by decide) ?_
      refine lv_if_eq (tgt := 130) hx hb dX2_place_119 (by decide) (fun c3 => ?_) (fun c3 => ?_)
      · rw [if_neg (fun z => z.2.2 c3)] at h
        cases h
        exact k _ _ ls hP hD hS (lv_sub hl [0, 1, 2, 3] rfl)
      · rw [if_pos ⟨c1, c2, c3⟩] at h
        obtain ⟨T1, hu, rfl⟩ := ob_m h
        refine lv_aload_n hx hb dX2_place_122 rfl (lv_at hl 0 rfl) ?_
        refine lv_iload_n hx hb dX2_place_123 rfl (lv_at hl 1 rfl) ?_
        refine pd_goV (ws := [(aM, .inr (3, [.ref aW, .int S, .ref aT, .ref aQ])), (aW, .inl (eW, 72, .inl (pd_wd b))), (aT, .inl (eT, n, .inl (pmd b T))), (aQ, .inl (eQ, 72, .inl (pd_wd b)))]) (wc := [(aM, .inr (3, [.ref aW, .int S, .ref aT, .ref aQ])), (aT, .inl (eT, n, .inl (pmd b T))), (aQ, .inl (eQ, 72, .inl (pd_wd b)))]) (wr := [(aW, .inl (eW, 72, .inl (pd_wd b)))]) (w1 := [(aM, .inr (3, [.ref aW, .int S, .ref aT, .ref aQ])), (aT, .inl (eT, n, .inl (pmd b T1))), (aQ, .inl (eQ, 72, .inl (pd_wd b)))]) [0, 2, 3] [1] hP hD hS hA rfl rfl (by decide) (by decide) (va_runV (As := [.int pos]) (rest := []) ⟨hx, hb, hml, hown, hts⟩ (metX2_cornerTwo l dC dI _ aM aW aT aQ eT eQ S n b T T1 pos hT hu) (cwV 1 hts (lw_V q262 q264 qs10 q22 q265) rfl rfl rfl (by decide +kernel) ⟨Nat.le_of_ble_eq_true rfl, Nat.le_of_ble_eq_true rfl⟩) ⟨pd_Pc.blind, va_recv hK hP (ci := 3) (q0 := 0) rfl rfl, pd_pre [0, 2, 3] [1, 2] hP hK hD hE hS hA rfl (by decide) rfl⟩ rfl rfl hl.1 rfl (lv_room (Nat.le_of_ble_eq_true rfl)) dX2_place_124 ⟨Nat.le_of_ble_eq_true rfl, Nat.le_of_ble_eq_true rfl⟩) (fun H locs hP hD hS => ?_)
        have hP : va_P (dC, dI) vwCl [(aW, .inl (eW, 72, .inl (pd_wd b))), (aM, .inr (3, [.ref aW, .int S, .ref aT, .ref aQ])), (aT, .inl (eT, n, .inl (pmd b T1))), (aQ, .inl (eQ, 72, .inl (pd_wd b)))] H := hP
        have hD : va_D A [(aW, .inl (eW, 72, .inl (pd_wd b))), (aM, .inr (3, [.ref aW, .int S, .ref aT, .ref aQ])), (aT, .inl (eT, n, .inl (pmd b T1))), (aQ, .inl (eQ, 72, .inl (pd_wd b)))] := hD
        have hP := hP.sub (ws' := [(aM, .inr (3, [.ref aW, .int S, .ref aT, .ref aQ])), (aW, .inl (eW, 72, .inl (pd_wd b))), (aT, .inl (eT, n, .inl (pmd b T1))), (aQ, .inl (eQ, 72, .inl (pd_wd b)))]) [1, 0, 2, 3] rfl
        have hD := hD.sub (ws' := [(aM, .inr (3, [.ref aW, .int S, .ref aT, .ref aQ])), (aW, .inl (eW, 72, .inl (pd_wd b))), (aT, .inl (eT, n, .inl (pmd b T1))), (aQ, .inl (eQ, 72, .inl (pd_wd b)))]) [1, 0, 2, 3] (by decide) rfl
        refine lv_iinc (v := pos + 1) (lv' := [(2, .int (pos + 1)), (0, .ref aM), (3, .int row), (4, .int col)]) hx hb dX2_place_127 hl (k := 1) rfl rfl (by decide) rfl (fun ls hl => ?_)
        exact k _ _ ls hP hD hS (lv_sub hl [1, 0, 2, 3] rfl)
set_option maxHeartbeats 4000000 in
set_option maxRecDepth 100000 in
theorem x2p_k3B {l : Launch} {dC : Nat → ClassId} {dI : Nat → Nat → Nat} {p : Program} {e : Env} {s : State} {m : MethodId} {below : List Frame} {meth : Method} {c : Code} {A : Nat → Prop} {aM aW aT aQ : Nat} {eW eT eQ : ClassId} {S kind : Int32} {n : Nat} {b : Nat → Nat} {Q : State → Prop} (hx : p.tables.exec = Jvm.exec) (hb : c.code = cX2_place) (hml : c.maxLocals = 6) (hown : s.vm.findClass RX2 = some m.cls) (hts : ∀ w ∈ lw_all, w.before ([.ref aM, .int kind] : List Value).toArray s = true) (hK : va_K (dC, dI) vwCl [(eW, .int), (eT, .int), (eQ, .int)] s) (hE : pd_E A s s.heap) (hA : ∀ q : Nat, s.heap.size ≤ q → A q) : ∀ (row col pos : Int32) (T : List pC), ¬ (row = S - 2 ∧ col = 0 ∧ S - S / 8 * 8 = 4) → (∀ (H : Heap) (locs : List Loc) (ls : Array Slot), va_P (dC, dI) vwCl [(aM, .inr (3, [.ref aW, .int S, .ref aT, .ref aQ])), (aW, .inl (eW, 72, .inl (pd_wd b))), (aT, .inl (eT, n, .inl (pmd b T))), (aQ, .inl (eQ, 72, .inl (pd_wd b)))] H → va_D A [(aM, .inr (3, [.ref aW, .int S, .ref aT, .ref aQ])), (aW, .inl (eW, 72, .inl (pd_wd b))), (aT, .inl (eT, n, .inl (pmd b T))), (aQ, .inl (eQ, 72, .inl (pd_wd b)))] → va_S A s.heap H locs → lv_has ls 6 [(0, .ref aM), (2, .int pos), (3, .int row), (4, .int col)] → W p l e (headSpec (ws_ yX2_place cX2_place 6 none) ({ frames := 2, cells := 1, slots := 196, locals := 49 })).room s m ([.ref aM, .int kind] : List Value).toArray below meth c H locs 1 196 Q (F0 m 164 ls [])) → (∀ (H : Heap) (locs : List Loc) (ls : Array Slot), va_P (dC, dI) vwCl [(aM, .inr (3, [.ref aW, .int S, .ref aT, .ref aQ])), (aW, .inl (eW, 72, .inl (pd_wd b))), (aT, .inl (eT, n, .inl (pmd b T))), (aQ, .inl (eQ, 72, .inl (pd_wd b)))] H → va_D A [(aM, .inr (3, [.ref aW, .int S, .ref aT, .ref aQ])), (aW, .inl (eW, 72, .inl (pd_wd b))), (aT, .inl (eT, n, .inl (pmd b T))), (aQ, .inl (eQ, 72, .inl (pd_wd b)))] → va_S A s.heap H locs → lv_has ls 6 [(0, .ref aM), (2, .int pos), (3, .int row), (4, .int col)] → W p l e (headSpec (ws_ yX2_place cX2_place 6 none) ({ frames := 2, cells := 1, slots := 196, locals := 49 })).room s m ([.ref aM, .int kind] : List Value).toArray below meth c H locs 1 196 Q (F0 m 130 ls [])) := by
  intro row col pos T h k
  intro H locs ls hP hD hS hl
  refine lv_iload_n hx hb dX2_place_130 rfl (lv_at hl 2 rfl) ?_
  refine lv_aload_n hx hb dX2_place_131 rfl (lv_at hl 0 rfl) ?_
  refine va_get (D := (dC, dI)) (ci := 3) (v := .int S) (C := RX2) (T := TX2) (N := 4) hx hb hts in_X2 hown hK hP 0 rfl rfl 1 (by decide) (hts _ q232) (fun _ h9 => h9) rfl dX2_place_132 ?_
  refine lv_iconst (v := 2) hx hb dX2_place_135 (by decide) ?_
  refine lv_isub hx hb dX2_place_136 ?_
  refine lv_icmp_ne (tgt := 164) hx hb dX2_place_137 (by decide) (fun c1 => ?_) (fun c1 => ?_)
  · exact k _ _ ls hP hD hS (lv_sub hl [0, 1, 2, 3] rfl)
  · refine lv_iload hx hb dX2_place_140 (lv_at hl 3 rfl) ?_
    refine lv_if_ne (tgt := 164) hx hb dX2_place_142 (by decide) (fun c2 => ?_) (fun c2 => ?_)
    · exact k _ _ ls hP hD hS (lv_sub hl [0, 1, 2, 3] rfl)
    · refine lv_aload_n hx hb dX2_place_145 rfl (lv_at hl 0 rfl) ?_
      refine va_get (D := (dC, dI)) (ci := 3) (v := .int S) (C := RX2) (T := TX2) (N := 4) hx hb hts in_X2 hown hK hP 0 rfl rfl 1 (by decide) (hts _ q232) (fun _ h9 => h9) rfl dX2_place_146 ?_
      refine lv_bipush (v := 8) hx hb dX2_place_149 (by decide) ?_
      refine lv_irem hx hb dX2_place_151 (by decide) ?_
      refine lv_iconst (v := 4) hx hb dX2_place_152 (by decide) ?_
      refine lv_icmp_ne (tgt := 164) hx hb dX2_place_153 (by decide) (fun c3 => ?_) (fun c3 => ?_)
      · exact k _ _ ls hP hD hS (lv_sub hl [0, 1, 2, 3] rfl)
      · exact absurd ⟨c1, c2, c3⟩ h
set_option maxHeartbeats 4000000 in
set_option maxRecDepth 100000 in
theorem x2p_k4B {l : Launch} {dC : Nat → ClassId} {dI : Nat → Nat → Nat} {p : Program} {e : Env} {s : State} {m : MethodId} {below : List Frame} {meth : Method} {c : Code} {A : Nat → Prop} {aM aW aT aQ : Nat} {eW eT eQ : ClassId} {S kind : Int32} {n : Nat} {b : Nat → Nat} {Q : State → Prop} (hx : p.tables.exec = Jvm.exec) (hb : c.code = cX2_place) (hml : c.maxLocals = 6) (hown : s.vm.findClass RX2 = some m.cls) (hts : ∀ w ∈ lw_all, w.before ([.ref aM, .int kind] : List Value).toArray s = true) (hK : va_K (dC, dI) vwCl [(eW, .int), (eT, .int), (eQ, .int)] s) (hE : pd_E A s s.heap) (hA : ∀ q : Nat, s.heap.size ≤ q → A q) : ∀ (row col pos : Int32) (T : List pC), ¬ (row = S + 4 ∧ col = 2 ∧ S - S / 8 * 8 = 0) → (∀ (H : Heap) (locs : List Loc) (ls : Array Slot), va_P (dC, dI) vwCl [(aM, .inr (3, [.ref aW, .int S, .ref aT, .ref aQ])), (aW, .inl (eW, 72, .inl (pd_wd b))), (aT, .inl (eT, n, .inl (pmd b T))), (aQ, .inl (eQ, 72, .inl (pd_wd b)))] H → va_D A [(aM, .inr (3, [.ref aW, .int S, .ref aT, .ref aQ])), (aW, .inl (eW, 72, .inl (pd_wd b))), (aT, .inl (eT, n, .inl (pmd b T))), (aQ, .inl (eQ, 72, .inl (pd_wd b)))] → va_S A s.heap H locs → lv_has ls 6 [(0, .ref aM), (2, .int pos), (3, .int row), (4, .int col)] → W p l e (headSpec (ws_ yX2_place cX2_place 6 none) ({ frames := 2, cells := 1, slots := 196, locals := 49 })).room s m ([.ref aM, .int kind] : List Value).toArray below meth c H locs 1 196 Q (F0 m 198 ls [])) → (∀ (H : Heap) (locs : List Loc) (ls : Array Slot), va_P (dC, dI) vwCl [(aM, .inr (3, [.ref aW, .int S, .ref aT, .ref aQ])), (aW, .inl (eW, 72, .inl (pd_wd b))), (aT, .inl (eT, n, .inl (pmd b T))), (aQ, .inl (eQ, 72, .inl (pd_wd b)))] H → va_D A [(aM, .inr (3, [.ref aW, .int S, .ref aT, .ref aQ])), (aW, .inl (eW, 72, .inl (pd_wd b))), (aT, .inl (eT, n, .inl (pmd b T))), (aQ, .inl (eQ, 72, .inl (pd_wd b)))] → va_S A s.heap H locs → lv_has ls 6 [(0, .ref aM), (2, .int pos), (3, .int row), (4, .int col)] → W p l e (headSpec (ws_ yX2_place cX2_place 6 none) ({ frames := 2, cells := 1, slots := 196, locals := 49 })).room s m ([.ref aM, .int kind] : List Value).toArray below meth c H locs 1 196 Q (F0 m 164 ls [])) := by
  intro row col pos T h k
  intro H locs ls hP hD hS hl
  refine lv_iload_n hx hb dX2_place_164 rfl (lv_at hl 2 rfl) ?_
  refine lv_aload_n hx hb dX2_place_165 rfl (lv_at hl 0 rfl) ?_
  refine va_get (D := (dC, dI)) (ci := 3) (v := .int S) (C := RX2) (T := TX2) (N := 4) hx hb hts in_X2 hown hK hP 0 rfl rfl 1 (by decide) (hts _ q232) (fun _ h9 => h9) rfl dX2_place_166 ?_
  refine lv_iconst (v := 4) hx hb dX2_place_169 (by decide) ?_
  refine lv_iadd hx hb dX2_place_170 ?_
  refine lv_icmp_ne (tgt := 198) hx hb dX2_place_171 (by decide) (fun c1 => ?_) (fun c1 => ?_)
  · exact k _ _ ls hP hD hS (lv_sub hl [0, 1, 2, 3] rfl)
  · refine lv_iload hx hb dX2_place_174 (lv_at hl 3 rfl) ?_
    refine lv_iconst (v := 2) hx hb dX2_place_176 (by decide) ?_
    refine lv_icmp_ne (tgt := 198) hx hb dX2_place_177 (by decide) (fun c2 => ?_) (fun c2 => ?_)
    · exact k _ _ ls hP hD hS (lv_sub hl [0, 1, 2, 3] rfl)
    · refine lv_aload_n hx hb dX2_place_180 rfl (lv_at hl 0 rfl) ?_
      refine va_get (D := (dC, dI)) (ci := 3) (v := .int S) (C := RX2) (T := TX2) (N := 4) hx hb hts in_X2 hown hK hP 0 rfl rfl 1 (by decide) (hts _ q232) (fun _ h9 => h9) rfl dX2_place_181 ?_
      refine lv_bipush (v := 8) hx hb dX2_place_184 (by decide) ?_
      refine lv_irem hx hb dX2_place_186 (by decide) ?_
      refine lv_if_ne (tgt := 198) hx hb dX2_place_187 (by decide) (fun c3 => ?_) (fun c3 => ?_)
      · exact k _ _ ls hP hD hS (lv_sub hl [0, 1, 2, 3] rfl)
      · exact absurd ⟨c1, c2, c3⟩ h
set_option maxHeartbeats 4000000 in
set_option maxRecDepth 100000 in
theorem x2p_fix {l : Launch} {dC : Nat → ClassId} {dI : Nat → Nat → Nat} {p : Program} {e : Env} {s : State} {m : MethodId} {below : List Frame} {meth : Method} {c : Code} {A : Nat → Prop} {aM aW aT aQ : Nat} {eW eT eQ : ClassId} {S kind : Int32} {b : Nat → Nat} (hx : p.tables.exec = Jvm.exec) (hb : c.code = cX2_place) (hml : c.maxLocals = 6) (hown : s.vm.findClass RX2 = some m.cls) (hts : ∀ w ∈ lw_all, w.before ([.ref aM, .int kind] : List Value).toArray s = true) (hK : va_K (dC, dI) vwCl [(eW, .int), (eT, .int), (eQ, .int)] s) (hE : pd_E A s s.heap) (hA : ∀ q : Nat, s.heap.size ≤ q → A q) (hr : meth.sig.returnType = none) (hlocks : meth.locks = false) (hSS : pm_S S) : ∀ (row col pos : Int32) (T : List pC), T.length = (S * S).toNatClampNeg → pm_fix S T = some (pm_T S) → (∀ (H : Heap) (locs : List Loc) (ls : Array Slot), va_P (dC, dI) vwCl [(aM, .inr (3, [.ref aW, .int S, .ref aT, .ref aQ])), (aW, .inl (eW, 72, .inl (pd_wd b))), (aT, .inl (eT, (S * S).toNatClampNeg, .inl (pmd b T))), (aQ, .inl (eQ, 72, .inl (pd_wd b)))] H → va_D A [(aM, .inr (3, [.ref aW, .int S, .ref aT, .ref aQ])), (aW, .inl (eW, 72, .inl (pd_wd b))), (aT, .inl (eT, (S * S).toNatClampNeg, .inl (pmd b T))), (aQ, .inl (eQ, 72, .inl (pd_wd b)))] → va_S A s.heap H locs → lv_has ls 6 [(0, .ref aM), (2, .int pos), (3, .int row), (4, .int col)] → W p l e (headSpec (ws_ yX2_place cX2_place 6 none) ({ frames := 2, cells := 1, slots := 196, locals := 49 })).room s m ([.ref aM, .int kind] : List Value).toArray below meth c H locs 1 196 (MQ below (pd_QA (dC, dI) (fun _ : Nat × ClassId => True) (fun u => [(aM, .inr (3, [.ref aW, .int S, .ref u.1, .ref aQ])), (aW, .inl (eW, 72, .inl (pd_wd b))), (u.1, .inl (u.2, (S * S).toNatClampNeg, .inl (pmd b (pm_T S)))), (aQ, .inl (eQ, 72, .inl (pd_wd b)))]) (fun u => [(u.2, .int)]) A) ([.ref aM, .int kind] : List Value).toArray s 1 196 A) (F0 m 355 ls [])) := by
  intro row col pos T hT h
  intro H locs ls hP hD hS hl
  obtain ⟨hin, hq⟩ := pm_fix_spec h
  rw [hT] at hin
  refine lv_aload_n hx hb dX2_place_355 rfl (lv_at hl 0 rfl) ?_
  refine lv_aload_n hx hb dX2_place_356 rfl (lv_at hl 0 rfl) ?_
  refine va_get (D := (dC, dI)) (ci := 3) (v := .int S) (C := RX2) (T := TX2) (N := 4) hx hb hts in_X2 hown hK hP 0 rfl rfl 1 (by decide) (hts _ q232) (fun _ h9 => h9) rfl dX2_place_357 ?_
  refine lv_iconst (v := 1) hx hb dX2_place_360 (by decide) ?_
  refine lv_isub hx hb dX2_place_361 ?_
  refine lv_aload_n hx hb dX2_place_362 rfl (lv_at hl 0 rfl) ?_
  refine va_get (D := (dC, dI)) (ci := 3) (v := .int S) (C := RX2) (T := TX2) (N := 4) hx hb hts in_X2 hown hK hP 0 rfl rfl 1 (by decide) (hts _ q232) (fun _ h9 => h9) rfl dX2_place_363 ?_
  refine lv_iconst (v := 1) hx hb dX2_place_366 (by decide) ?_
  refine lv_isub hx hb dX2_place_367 ?_
  refine pd_read (v := (if pmd b T ((S - 1) * S + (S - 1)).toNatClampNeg = 0 then 1 else 0)) (W.runV (As := [.int (S - 1), .int (S - 1)]) (rest := []) ⟨hx, hb, hml, hown, hts⟩ (metX2_isFree l dC dI aM aW aT aQ eT S _ (pmd b T) (S - 1) (S - 1) hin) (cwV 2 hts (lw_V q274 q276 qs13 q22 q277) rfl rfl rfl (by decide +kernel) ⟨Nat.le_of_ble_eq_true rfl, Nat.le_of_ble_eq_true rfl⟩) ⟨pd_Pr.blind, va_recv hK hP (ci := 3) (q0 := 0) rfl rfl, pd_prer [0, 2] [1] hP hK hE hS rfl rfl⟩ rfl rfl hl.1 rfl (lv_room (Nat.le_of_ble_eq_true rfl)) dX2_place_368 ⟨Nat.le_of_ble_eq_true rfl, Nat.le_of_ble_eq_true rfl⟩) ?_
  have i1 : S * S - 1 = (S - 1) * S + (S - 1) := by rcases hSS with rfl | rfl | rfl | rfl <;> decide +kernel
  have i2 : S * S - S - 2 = (S - 2) * S + (S - 2) := by rcases hSS with rfl | rfl | rfl | rfl <;> decide +kernel
  rcases hq with ⟨d, hin2, e1⟩ | ⟨d, e1⟩
  · rw [if_pos (show pmd b T ((S - 1) * S + (S - 1)).toNatClampNeg = 0 from pm_mv_free.mpr d)]
    refine lv_if_eq (tgt := 413) hx hb dX2_place_371 (by decide) (fun c2 => ?_) (fun c2 => ?_)
    · exact absurd c2 (by decide)
    · rw [hT] at hin2
      refine lv_aload_n hx hb dX2_place_374 rfl (lv_at hl 0 rfl) ?_
      refine va_get (D := (dC, dI)) (ci := 3) (v := .ref aT) (C := RX2) (T := TX2) (N := 4) hx hb hts in_X2 hown hK hP 0 rfl rfl 2 (by decide) (hts _ q233) (fun _ h9 => h9) rfl dX2_place_375 ?_
      refine lv_aload_n hx hb dX2_place_378 rfl (lv_at hl 0 rfl) ?_
      refine va_get (D := (dC, dI)) (ci := 3) (v := .int S) (C := RX2) (T := TX2) (N := 4) hx hb hts in_X2 hown hK hP 0 rfl rfl 1 (by decide) (hts _ q232) (fun _ h9 => h9) rfl dX2_place_379 ?_
      refine lv_aload_n hx hb dX2_place_382 rfl (lv_at hl 0 rfl) ?_
      refine va_get (D := (dC, dI)) (ci := 3) (v := .int S) (C := RX2) (T := TX2) (N := 4) hx hb hts in_X2 hown hK hP 0 rfl rfl 1 (by decide) (hts _ q232) (fun _ h9 => h9) rfl dX2_place_383 ?_
      refine lv_imul hx hb dX2_place_386 ?_
      refine lv_iconst (v := 1) hx hb dX2_place_387 (by decide) ?_
      refine lv_isub hx hb dX2_place_388 ?_
      refine lv_iconst (v := 2) hx hb dX2_place_389 (by decide) ?_
      refine va_iast hx hb hK hP hD hS 2 1 rfl rfl (by rw [i1]; exact hin) dX2_place_390 (fun H locs hP hD hS => ?_)
      have hP : va_P (dC, dI) vwCl [(aM, .inr (3, [.ref aW, .int S, .ref aT, .ref aQ])), (aW, .inl (eW, 72, .inl (pd_wd b))), (aT, .inl (eT, (S * S).toNatClampNeg, .inl (upd (pmd b T) (((S * S) - 1)).toNatClampNeg (2)))), (aQ, .inl (eQ, 72, .inl (pd_wd b)))] H := hP
      have hD : va_D A [(aM, .inr (3, [.ref aW, .int S, .ref aT, .ref aQ])), (aW, .inl (eW, 72, .inl (pd_wd b))), (aT, .inl (eT, (S * S).toNatClampNeg, .inl (upd (pmd b T) (((S * S) - 1)).toNatClampNeg (2)))), (aQ, .inl (eQ, 72, .inl (pd_wd b)))] := hD
      rw [i1, pmd_set (T := T) (c := pcF) (by rw [hT]; exact vp_lt hin) (pm_mvF b).symm] at hP hD
      have hP : va_P (dC, dI) vwCl [(aM, .inr (3, [.ref aW, .int S, .ref aT, .ref aQ])), (aW, .inl (eW, 72, .inl (pd_wd b))), (aT, .inl (eT, (S * S).toNatClampNeg, .inl (pmd b (T.set ((S - 1) * S + (S - 1)).toNatClampNeg pcF)))), (aQ, .inl (eQ, 72, .inl (pd_wd b)))] H := hP
      have hD : va_D A [(aM, .inr (3, [.ref aW, .int S, .ref aT, .ref aQ])), (aW, .inl (eW, 72, .inl (pd_wd b))), (aT, .inl (eT, (S * S).toNatClampNeg, .inl (pmd b (T.set ((S - 1) * S + (S - 1)).toNatClampNeg pcF)))), (aQ, .inl (eQ, 72, .inl (pd_wd b)))] := hD
      refine lv_aload_n hx hb dX2_place_391 rfl (lv_at hl 0 rfl) ?_
      refine va_get (D := (dC, dI)) (ci := 3) (v := .ref aT) (C := RX2) (T := TX2) (N := 4) hx hb hts in_X2 hown hK hP 0 rfl rfl 2 (by decide) (hts _ q233) (fun _ h9 => h9) rfl dX2_place_392 ?_
      refine lv_aload_n hx hb dX2_place_395 rfl (lv_at hl 0 rfl) ?_
      refine va_get (D := (dC, dI)) (ci := 3) (v := .int S) (C := RX2) (T := TX2) (N := 4) hx hb hts in_X2 hown hK hP 0 rfl rfl 1 (by decide) (hts _ q232) (fun _ h9 => h9) rfl dX2_place_396 ?_
      refine lv_aload_n hx hb dX2_place_399 rfl (lv_at hl 0 rfl) ?_
      refine va_get (D := (dC, dI)) (ci := 3) (v := .int S) (C := RX2) (T := TX2) (N := 4) hx hb hts in_X2 hown hK hP 0 rfl rfl 1 (by decide) (hts _ q232) (fun _ h9 => h9) rfl dX2_place_400 ?_
      refine lv_imul hx hb dX2_place_403 ?_
      refine lv_aload_n hx hb dX2_place_404 rfl (lv_at hl 0 rfl) ?_
      refine va_get (D := (dC, dI)) (ci := 3) (v := .int S) (C := RX2) (T := TX2) (N := 4) hx hb hts in_X2 hown hK hP 0 rfl rfl 1 (by decide) (hts _ q232) (fun _ h9 => h9) rfl dX2_place_405 ?_
      refine lv_isub hx hb dX2_place_408 ?_
      refine lv_iconst (v := 2) hx hb dX2_place_409 (by decide) ?_
      refine lv_isub hx hb dX2_place_410 ?_
      refine lv_iconst (v := 2) hx hb dX2_place_411 (by decide) ?_
      refine va_iast hx hb hK hP hD hS 2 1 rfl rfl (by rw [i2]; exact hin2) dX2_place_412 (fun H locs hP hD hS => ?_)
      have hP : va_P (dC, dI) vwCl [(aM, .inr (3, [.ref aW, .int S, .ref aT, .ref aQ])), (aW, .inl (eW, 72, .inl (pd_wd b))), (aT, .inl (eT, (S * S).toNatClampNeg, .inl (upd (pmd b (T.set ((S - 1) * S + (S - 1)).toNatClampNeg pcF)) ((((S * S) - S) - 2)).toNatClampNeg (2)))), (aQ, .inl (eQ, 72, .inl (pd_wd b)))] H := hP
      have hD : va_D A [(aM, .inr (3, [.ref aW, .int S, .ref aT, .ref aQ])), (aW, .inl (eW, 72, .inl (pd_wd b))), (aT, .inl (eT, (S * S).toNatClampNeg, .inl (upd (pmd b (T.set ((S - 1) * S + (S - 1)).toNatClampNeg pcF)) ((((S * S) - S) - 2)).toNatClampNeg (2)))), (aQ, .inl (eQ, 72, .inl (pd_wd b)))] := hD
      rw [i2, pmd_set (T := (T.set ((S - 1) * S + (S - 1)).toNatClampNeg pcF)) (c := pcF) (by rw [List.length_set]; rw [hT]; exact vp_lt hin2) (pm_mvF b).symm] at hP hD
      have hP : va_P (dC, dI) vwCl [(aM, .inr (3, [.ref aW, .int S, .ref aT, .ref aQ])), (aW, .inl (eW, 72, .inl (pd_wd b))), (aT, .inl (eT, (S * S).toNatClampNeg, .inl (pmd b ((T.set ((S - 1) * S + (S - 1)).toNatClampNeg pcF).set ((S - 2) * S + (S - 2)).toNatClampNeg pcF)))), (aQ, .inl (eQ, 72, .inl (pd_wd b)))] H := hP
      have hD : va_D A [(aM, .inr (3, [.ref aW, .int S, .ref aT, .ref aQ])), (aW, .inl (eW, 72, .inl (pd_wd b))), (aT, .inl (eT, (S * S).toNatClampNeg, .inl (pmd b ((T.set ((S - 1) * S + (S - 1)).toNatClampNeg pcF).set ((S - 2) * S + (S - 2)).toNatClampNeg pcF)))), (aQ, .inl (eQ, 72, .inl (pd_wd b)))] := hD
      rw [← e1] at hP hD
      have hP : va_P (dC, dI) vwCl [(aM, .inr (3, [.ref aW, .int S, .ref aT, .ref aQ])), (aW, .inl (eW, 72, .inl (pd_wd b))), (aT, .inl (eT, (S * S).toNatClampNeg, .inl (pmd b (pm_T S)))), (aQ, .inl (eQ, 72, .inl (pd_wd b)))] H := hP
      have hD : va_D A [(aM, .inr (3, [.ref aW, .int S, .ref aT, .ref aQ])), (aW, .inl (eW, 72, .inl (pd_wd b))), (aT, .inl (eT, (S * S).toNatClampNeg, .inl (pmd b (pm_T S)))), (aQ, .inl (eQ, 72, .inl (pd_wd b)))] := hD
      exact W.vret hx hb hr (fun t ht hW => ⟨⟨(aT, eT), rfl, trivial, by rw [ht]; exact hP, va_K.moved hW.alike (hK.sub (tys' := [(eT, .int)]) [1] rfl), hD⟩, hS.F ht⟩) hS.2.2 dX2_place_413
  · rw [if_neg (show ¬ pmd b T ((S - 1) * S + (S - 1)).toNatClampNeg = 0 from fun z => d (pm_mv_free.mp z))]
    refine lv_if_eq (tgt := 413) hx hb dX2_place_371 (by decide) (fun c3 => ?_) (fun c3 => ?_)
    · rw [← e1] at hP hD
      have hP : va_P (dC, dI) vwCl [(aM, .inr (3, [.ref aW, .int S, .ref aT, .ref aQ])), (aW, .inl (eW, 72, .inl (pd_wd b))), (aT, .inl (eT, (S * S).toNatClampNeg, .inl (pmd b (pm_T S)))), (aQ, .inl (eQ, 72, .inl (pd_wd b)))] H := hP
      have hD : va_D A [(aM, .inr (3, [.ref aW, .int S, .ref aT, .ref aQ])), (aW, .inl (eW, 72, .inl (pd_wd b))), (aT, .inl (eT, (S * S).toNatClampNeg, .inl (pmd b (pm_T S)))), (aQ, .inl (eQ, 72, .inl (pd_wd b)))] := hD
      exact W.vret hx hb hr (fun t ht hW => ⟨⟨(aT, eT), rfl, trivial, by rw [ht]; exact hP, va_K.moved hW.alike (hK.sub (tys' := [(eT, .int)]) [1] rfl), hD⟩, hS.F ht⟩) hS.2.2 dX2_place_413
    · exact absurd rfl c3
set_option maxHeartbeats 4000000 in
set_option maxRecDepth 100000 in
theorem x2p_main {l : Launch} {dC : Nat → ClassId} {dI : Nat → Nat → Nat} {p : Program} {e : Env} {s : State} {m : MethodId} {below : List Frame} {meth : Method} {c : Code} {A : Nat → Prop} {aM aW aT aQ : Nat} {eW eT eQ : ClassId} {S kind : Int32} {b : Nat → Nat} (hx : p.tables.exec = Jvm.exec) (hb : c.code = cX2_place) (hml : c.maxLocals = 6) (hown : s.vm.findClass RX2 = some m.cls) (hts : ∀ w ∈ lw_all, w.before ([.ref aM, .int kind] : List Value).toArray s = true) (hK : va_K (dC, dI) vwCl [(eW, .int), (eT, .int), (eQ, .int)] s) (hE : pd_E A s s.heap) (hA : ∀ q : Nat, s.heap.size ≤ q → A q) (hr : meth.sig.returnType = none) (hlocks : meth.locks = false) (hSS : pm_S S) : ∀ (k : Nat) (row col pos : Int32) (T : List pC), T.length = (S * S).toNatClampNeg → pm_main S k row col pos T = some (pm_T S) → (∀ (H : Heap) (locs : List Loc) (ls : Array Slot), va_P (dC, dI) vwCl [(aM, .inr (3, [.ref aW, .int S, .ref aT, .ref aQ])), (aW, .inl (eW, 72, .inl (pd_wd b))), (aT, .inl (eT, (S * S).toNatClampNeg, .inl (pmd b T))), (aQ, .inl (eQ, 72, .inl (pd_wd b)))] H → va_D A [(aM, .inr (3, [.ref aW, .int S, .ref aT, .ref aQ])), (aW, .inl (eW, 72, .inl (pd_wd b))), (aT, .inl (eT, (S * S).toNatClampNeg, .inl (pmd b T))), (aQ, .inl (eQ, 72, .inl (pd_wd b)))] → va_S A s.heap H locs → lv_has ls 6 [(0, .ref aM), (2, .int pos), (3, .int row), (4, .int col)] → W p l e (headSpec (ws_ yX2_place cX2_place 6 none) ({ frames := 2, cells := 1, slots := 196, locals := 49 })).room s m ([.ref aM, .int kind] : List Value).toArray below meth c H locs 1 196 (MQ below (pd_QA (dC, dI) (fun _ : Nat × ClassId => True) (fun u => [(aM, .inr (3, [.ref aW, .int S, .ref u.1, .ref aQ])), (aW, .inl (eW, 72, .inl (pd_wd b))), (u.1, .inl (u.2, (S * S).toNatClampNeg, .inl (pmd b (pm_T S)))), (aQ, .inl (eQ, 72, .inl (pd_wd b)))]) (fun u => [(u.2, .int)]) A) ([.ref aM, .int kind] : List Value).toArray s 1 196 A) (F0 m 77 ls [])) := by
  intro k
  induction k with
  | zero =>
    intro row col pos T hT h
    rw [pm_main_0] at h
    cases h
  | succ k ih =>
    intro row col pos T hT h
    obtain ⟨a, d, u, v, h1, h2, h3, h4, h5, h6, h⟩ := pm_main_s h
    have ha := (pm_k1_len h1).trans hT
    have hd := (pm_k2_len h2).trans ha
    have hu := (pm_up_len 12 h5).trans hd
    have hv := (pm_dn_len 12 h6).trans hu
    refine x2p_k1B hx hb hml hown hts hK hE hA row col pos T a hT h1 (x2p_k2B hx hb hml hown hts hK hE hA row col a.1 a.2 d ha h2 (x2p_k3B hx hb hml hown hts hK hE hA row col d.1 d.2 h3 (x2p_k4B hx hb hml hown hts hK hE hA row col d.1 d.2 h4 ?_)))
    intro H locs ls hP hD hS hl
    refine lv_iconst (v := 1) hx hb dX2_place_198 (by decide) ?_
    refine lv_istore (lv' := [(5, .int 1), (0, .ref aM), (2, .int d.1), (3, .int row), (4, .int col)]) hx hb dX2_place_199 hl (by decide) rfl (fun ls hl => ?_)
    refine lv_iload hx hb dX2_place_201 (lv_at hl 0 rfl) ?_
    refine lv_if_eq (tgt := 269) hx hb dX2_place_203 (by decide) (fun c1 => ?_) (fun c1 => ?_)
    · exact absurd c1 (by decide)
    · refine x2p_up hx hb hml hown hts hK hE hA 12 row col d.1 d.2 u hd h5 ?_ _ _ ls hP hD hS (lv_sub hl [1, 2, 3, 4] rfl)
      intro H locs ls hP hD hS hl
      refine lv_iinc (v := u.1 + 1) (lv' := [(3, .int (u.1 + 1)), (0, .ref aM), (2, .int u.2.2.1), (4, .int u.2.1)]) hx hb dX2_place_269 hl (k := 2) rfl rfl (by decide) rfl (fun ls hl => ?_)
      refine lv_iinc (v := u.2.1 + 3) (lv' := [(4, .int (u.2.1 + 3)), (3, .int (u.1 + 1)), (0, .ref aM), (2, .int u.2.2.1)]) hx hb dX2_place_272 hl (k := 3) rfl rfl (by decide) rfl (fun ls hl => ?_)
      refine lv_iconst (v := 1) hx hb dX2_place_275 (by decide) ?_
      refine lv_istore (lv' := [(5, .int 1), (4, .int (u.2.1 + 3)), (3, .int (u.1 + 1)), (0, .ref aM), (2, .int u.2.2.1)]) hx hb dX2_place_276 hl (by decide) rfl (fun ls hl => ?_)
      refine lv_iload hx hb dX2_place_278 (lv_at hl 0 rfl) ?_
      refine lv_if_eq (tgt := 346) hx hb dX2_place_280 (by decide) (fun c2 => ?_) (fun c2 => ?_)
      · exact absurd c2 (by decide)
      · refine x2p_dn hx hb hml hown hts hK hE hA 12 (u.1 + 1) (u.2.1 + 3) u.2.2.1 u.2.2.2 v hu h6 ?_ _ _ ls hP hD hS (lv_sub hl [3, 4, 2, 1] rfl)
        intro H locs ls hP hD hS hl
        refine lv_iinc (v := v.1 + 3) (lv' := [(3, .int (v.1 + 3)), (0, .ref aM), (2, .int v.2.2.1), (4, .int v.2.1)]) hx hb dX2_place_346 hl (k := 2) rfl rfl (by decide) rfl (fun ls hl => ?_)
        refine lv_iinc (v := v.2.1 + 1) (lv' := [(4, .int (v.2.1 + 1)), (3, .int (v.1 + 3)), (0, .ref aM), (2, .int v.2.2.1)]) hx hb dX2_place_349 hl (k := 3) rfl rfl (by decide) rfl (fun ls hl => ?_)
        refine lv_goto (tgt := 60) hx hb dX2_place_352 (by decide) ?_
        refine lv_iload_n hx hb dX2_place_60 rfl (lv_at hl 1 rfl) ?_
        refine lv_aload_n hx hb dX2_place_61 rfl (lv_at hl 2 rfl) ?_
        refine va_get (D := (dC, dI)) (ci := 3) (v := .int S) (C := RX2) (T := TX2) (N := 4) hx hb hts in_X2 hown hK hP 0 rfl rfl 1 (by decide) (hts _ q232) (fun _ h9 => h9) rfl dX2_place_62 ?_
        refine lv_icmp_lt (tgt := 77) hx hb dX2_place_65 (by decide) (fun c3 => ?_) (fun c3 => ?_)
        · rw [if_pos (Or.inl c3)] at h
          exact ih _ _ _ _ hv h _ _ ls hP hD hS (lv_sub hl [2, 3, 1, 0] rfl)
        · refine lv_iload hx hb dX2_place_68 (lv_at hl 0 rfl) ?_
          refine lv_aload_n hx hb dX2_place_70 rfl (lv_at hl 2 rfl) ?_
          refine va_get (D := (dC, dI)) (ci := 3) (v := .int S) (C := RX2) (T := TX2) (N := 4) hx hb hts in_X2 hown hK hP 0 rfl rfl 1 (by decide) (hts _ q232) (fun _ h9 => h9) rfl dX2_place_71 ?_
          refine lv_icmp_ge (tgt := 355) hx hb dX2_place_74 (by decide) (fun c4 => ?_) (fun c4 => ?_)
          · rw [if_neg (fun z => z.elim c3 (fun y => absurd y (Int32.not_lt.mpr c4)))] at h
            exact x2p_fix hx hb hml hown hts hK hE hA hr hlocks hSS _ _ _ _ hv h _ _ ls hP hD hS (lv_sub hl [2, 3, 1, 0] rfl)
          · rw [if_pos (Or.inr (Int32.not_le.mp c4))] at h
            exact ih _ _ _ _ hv h _ _ ls hP hD hS (lv_sub hl [2, 3, 1, 0] rfl)
set_option maxHeartbeats 4000000 in
set_option maxRecDepth 100000 in
theorem x2p_copy {l : Launch} {dC : Nat → ClassId} {dI : Nat → Nat → Nat} {p : Program} {e : Env} {s : State} {m : MethodId} {below : List Frame} {meth : Method} {c : Code} {A : Nat → Prop} {aM aW aT aQ : Nat} {eW eT eQ : ClassId} {S kind : Int32} {b : Nat → Nat} (hx : p.tables.exec = Jvm.exec) (hb : c.code = cX2_place) (hml : c.maxLocals = 6) (hown : s.vm.findClass RX2 = some m.cls) (hts : ∀ w ∈ lw_all, w.before ([.ref aM, .int kind] : List Value).toArray s = true) (hK : va_K (dC, dI) vwCl [(eW, .int), (eT, .int), (eQ, .int)] s) (hE : pd_E A s s.heap) (hA : ∀ q : Nat, s.heap.size ≤ q → A q) (hr : meth.sig.returnType = none) (hlocks : meth.locks = false) (hSS : pm_S S) : ∀ (k i : Nat) (g1 : Nat → Int32), i + k = 72 → (∀ j, j < i → g1 j = pd_wd b j) → (∀ (H : Heap) (locs : List Loc) (ls : Array Slot), va_P (dC, dI) vwCl [(aM, .inr (3, [.ref aW, .int S, .ref aT, .ref aQ])), (aW, .inl (eW, 72, .inl (pd_wd b))), (aT, .inl (eT, (S * S).toNatClampNeg, .inl (pmd b (pm_nil S)))), (aQ, .inl (eQ, 72, .inl g1))] H → va_D A [(aM, .inr (3, [.ref aW, .int S, .ref aT, .ref aQ])), (aW, .inl (eW, 72, .inl (pd_wd b))), (aT, .inl (eT, (S * S).toNatClampNeg, .inl (pmd b (pm_nil S)))), (aQ, .inl (eQ, 72, .inl g1))] → va_S A s.heap H locs → lv_has ls 6 [(2, .int (nI i)), (0, .ref aM)] → W p l e (headSpec (ws_ yX2_place cX2_place 6 none) ({ frames := 2, cells := 1, slots := 196, locals := 49 })).room s m ([.ref aM, .int kind] : List Value).toArray below meth c H locs 1 196 (MQ below (pd_QA (dC, dI) (fun _ : Nat × ClassId => True) (fun u => [(aM, .inr (3, [.ref aW, .int S, .ref u.1, .ref aQ])), (aW, .inl (eW, 72, .inl (pd_wd b))), (u.1, .inl (u.2, (S * S).toNatClampNeg, .inl (pmd b (pm_T S)))), (aQ, .inl (eQ, 72, .inl (pd_wd b)))]) (fun u => [(u.2, .int)]) A) ([.ref aM, .int kind] : List Value).toArray s 1 196 A) (F0 m 29 ls [])) := by
  obtain ⟨hrun, hlen, hok⟩ := pm_good_spec (pm_S_good hSS)
  intro k
  induction k with
  | zero =>
    intro i g1 hi hf
    intro H locs ls hP hD hS hl
    refine lv_iload_n hx hb dX2_place_29 rfl (lv_at hl 0 rfl) ?_
    refine lv_bipush (v := 72) hx hb dX2_place_30 (by decide) ?_
    refine lv_icmp_ge (tgt := 53) hx hb dX2_place_32 (by decide) (fun c1 => ?_) (fun c1 => ?_)
    · obtain ⟨hP, hD⟩ := pd_arrP (g := pd_wd b) 3 hP hD rfl (fun j hj => hf j (by omega))
      have hP : va_P (dC, dI) vwCl [(aM, .inr (3, [.ref aW, .int S, .ref aT, .ref aQ])), (aW, .inl (eW, 72, .inl (pd_wd b))), (aT, .inl (eT, (S * S).toNatClampNeg, .inl (pmd b (pm_nil S)))), (aQ, .inl (eQ, 72, .inl (pd_wd b)))] H := hP
      have hD : va_D A [(aM, .inr (3, [.ref aW, .int S, .ref aT, .ref aQ])), (aW, .inl (eW, 72, .inl (pd_wd b))), (aT, .inl (eT, (S * S).toNatClampNeg, .inl (pmd b (pm_nil S)))), (aQ, .inl (eQ, 72, .inl (pd_wd b)))] := hD
      refine lv_iconst (v := 0) hx hb dX2_place_53 (by decide) ?_
      refine lv_istore_n (lv' := [(2, .int 0), (0, .ref aM)]) hx hb dX2_place_54 rfl hl (by decide) rfl (fun ls hl => ?_)
      refine lv_iconst (v := 4) hx hb dX2_place_55 (by decide) ?_
      refine lv_istore_n (lv' := [(3, .int 4), (2, .int 0), (0, .ref aM)]) hx hb dX2_place_56 rfl hl (by decide) rfl (fun ls hl => ?_)
      refine lv_iconst (v := 0) hx hb dX2_place_57 (by decide) ?_
      refine lv_istore (lv' := [(4, .int 0), (3, .int 4), (2, .int 0), (0, .ref aM)]) hx hb dX2_place_58 hl (by decide) rfl (fun ls hl => ?_)
      refine lv_iload_n hx hb dX2_place_60 rfl (lv_at hl 1 rfl) ?_
      refine lv_aload_n hx hb dX2_place_61 rfl (lv_at hl 3 rfl) ?_
      refine va_get (D := (dC, dI)) (ci := 3) (v := .int S) (C := RX2) (T := TX2) (N := 4) hx hb hts in_X2 hown hK hP 0 rfl rfl 1 (by decide) (hts _ q232) (fun _ h9 => h9) rfl dX2_place_62 ?_
      have hlt : (4 : Int32) < S := by rcases hSS with rfl | rfl | rfl | rfl <;> decide +kernel
      refine lv_icmp_lt (tgt := 77) hx hb dX2_place_65 (by decide) (fun c2 => ?_) (fun c2 => ?_)
      · exact x2p_main hx hb hml hown hts hK hE hA hr hlocks hSS 8 4 0 0 (pm_nil S) (pm_nil_len S) hrun _ _ ls hP hD hS (lv_sub hl [3, 2, 1, 0] rfl)
      · exact absurd hlt c2
    · exact absurd (nI_le (a := 72) (b := i) (by omega) (by omega)) c1
  | succ k ih =>
    intro i g1 hi hf
    intro H locs ls hP hD hS hl
    refine lv_iload_n hx hb dX2_place_29 rfl (lv_at hl 0 rfl) ?_
    refine lv_bipush (v := 72) hx hb dX2_place_30 (by decide) ?_
    refine lv_icmp_ge (tgt := 53) hx hb dX2_place_32 (by decide) (fun c3 => ?_) (fun c3 => ?_)
    · exact absurd c3 (nI_ge (a := i) (b := 72) (by omega) (by decide))
    · have hiN : (nI i).toNatClampNeg = i := nI_clamp (by omega)
      refine lv_aload_n hx hb dX2_place_35 rfl (lv_at hl 1 rfl) ?_
      refine va_get (D := (dC, dI)) (ci := 3) (v := .ref aQ) (C := RX2) (T := TX2) (N := 4) hx hb hts in_X2 hown hK hP 0 rfl rfl 3 (by decide) (hts _ q234) (fun _ h9 => h9) rfl dX2_place_36 ?_
      refine lv_iload_n hx hb dX2_place_39 rfl (lv_at hl 0 rfl) ?_
      refine lv_aload_n hx hb dX2_place_40 rfl (lv_at hl 1 rfl) ?_
      refine va_get (D := (dC, dI)) (ci := 3) (v := .ref aW) (C := RX2) (T := TX2) (N := 4) hx hb hts in_X2 hown hK hP 0 rfl rfl 0 (by decide) (hts _ q231) (fun _ h9 => h9) rfl dX2_place_41 ?_
      refine lv_iload_n hx hb dX2_place_44 rfl (lv_at hl 0 rfl) ?_
      refine va_iald hx hb hK hP 1 0 rfl rfl (vp_in_nI (by omega) (by decide)) dX2_place_45 ?_
      refine va_iast hx hb hK hP hD hS 3 2 rfl rfl (vp_in_nI (by omega) (by decide)) dX2_place_46 (fun H locs hP hD hS => ?_)
      have hP : va_P (dC, dI) vwCl [(aM, .inr (3, [.ref aW, .int S, .ref aT, .ref aQ])), (aW, .inl (eW, 72, .inl (pd_wd b))), (aT, .inl (eT, (S * S).toNatClampNeg, .inl (pmd b (pm_nil S)))), (aQ, .inl (eQ, 72, .inl (upd g1 ((nI i)).toNatClampNeg (((pd_wd b) ((nI i)).toNatClampNeg)))))] H := hP
      have hD : va_D A [(aM, .inr (3, [.ref aW, .int S, .ref aT, .ref aQ])), (aW, .inl (eW, 72, .inl (pd_wd b))), (aT, .inl (eT, (S * S).toNatClampNeg, .inl (pmd b (pm_nil S)))), (aQ, .inl (eQ, 72, .inl (upd g1 ((nI i)).toNatClampNeg (((pd_wd b) ((nI i)).toNatClampNeg)))))] := hD
      refine lv_iinc (v := nI (i + 1)) (lv' := [(2, .int (nI (i + 1))), (0, .ref aM)]) hx hb dX2_place_47 hl (k := 0) rfl (nI_1 i) (by decide) rfl (fun ls hl => ?_)
      refine lv_goto (tgt := 29) hx hb dX2_place_50 (by decide) ?_
      exact ih (i + 1) _ (by omega) (pd_upto (n := 72) (by omega) (by decide) hf (by rw [hiN])) _ _ ls hP hD hS hl
set_option maxHeartbeats 4000000 in
set_option maxRecDepth 100000 in
/-- the codewords placed on a new sheet -/
theorem metX2_place (l : Launch) (dC : Nat → ClassId) (dI : Nat → Nat → Nat) (sz : Nat) (aM aW a0 aQ : Nat) (eW eQ : ClassId) (S0 S kind : Int32) (b : Nat → Nat) (g : Nat → Int32) (hSd : S = pd_sd kind) : Met l yX2_place (ws_ yX2_place cX2_place 6 none) ({ frames := 2, cells := 1, slots := 196, locals := 49 }) (pd_Pc [.ref aM, .int kind] (dC, dI) [(aM, .inr (3, [.ref aW, .int S0, .ref a0, .ref aQ])), (aW, .inl (eW, 72, .inl (pd_wd b))), (aQ, .inl (eQ, 72, .inl g))] [(eW, .int), (eQ, .int)] sz) (pd_QA (dC, dI) (fun _ : Nat × ClassId => True) (fun u => [(aM, .inr (3, [.ref aW, .int S, .ref u.1, .ref aQ])), (aW, .inl (eW, 72, .inl (pd_wd b))), (u.1, .inl (u.2, (S * S).toNatClampNeg, .inl (pmd b (pm_T S)))), (aQ, .inl (eQ, 72, .inl (pd_wd b)))]) (fun u => [(u.2, .int)]) (va_A [(aM, .inr (3, [.ref aW, .int S0, .ref a0, .ref aQ])), (aW, .inl (eW, 72, .inl (pd_wd b))), (aQ, .inl (eQ, 72, .inl g))] sz)) 1 196 (va_A [(aM, .inr (3, [.ref aW, .int S0, .ref a0, .ref aQ])), (aW, .inl (eW, 72, .inl (pd_wd b))), (aQ, .inl (eQ, 72, .inl g))] sz) := by
  refine Met.ofW (cc := cX2_place) (maxL := 6) (ret := none) (by decide) rfl ?_
  intro p e s m args below meth c s₁ B hml hv
  obtain ⟨rfl, hsz, hP, hK, hD0, hE⟩ := hv
  have hx := B.exec
  have hb := B.bytes
  have hr := B.returns
  have hts := atoms_spec (ws := ws_ yX2_place cX2_place 6 none) B.pre
  have hts : ∀ w ∈ lw_all, w.before _ s = true := fun w h => hts w (List.mem_cons_of_mem _ h)
  have hown : s.vm.findClass RX2 = some m.cls := findClass_of_methodNamed B.named
  have hlocks := B.notSynchronized
  subst hsz
  have hD := hD0.self (sz := s.heap.size)
  generalize hAe : va_A [(aM, .inr (3, [.ref aW, .int S0, .ref a0, .ref aQ])), (aW, .inl (eW, 72, .inl (pd_wd b))), (aQ, .inl (eQ, 72, .inl g))] s.heap.size = A at hD hE ⊢
  have hA : ∀ q : Nat, s.heap.size ≤ q → A q := fun q h => by rw [← hAe]; exact Or.inr h
  have hS : va_S A s.heap s.heap [] := va_S.rf
  have hP : va_P (dC, dI) vwCl [(aM, .inr (3, [.ref aW, .int S0, .ref a0, .ref aQ])), (aW, .inl (eW, 72, .inl (pd_wd b))), (aQ, .inl (eQ, 72, .inl g))] s.heap := hP
  have hl := lv_entry ([.ref aM, .int kind]) (n := 6) (Nat.le_of_ble_eq_true rfl)
  rw [lg_entry_eq]
  generalize (lg_sl ([.ref aM, .int kind]) ++ List.replicate (6 - (lg_sl ([.ref aM, .int kind])).length) Slot.unset).toArray = ls at hl ⊢
  have hl : lv_has ls 6 [(0, .ref aM), (1, .int kind)] := hl
  have hSS : pm_S S := by rw [hSd]; exact pd_sd_S kind
  obtain ⟨hsq0, hsq1⟩ := pm_S_sq hSS
  refine lv_aload_n hx hb dX2_place_0 rfl (lv_at hl 0 rfl) ?_
  refine lv_bipush (v := 8) hx hb dX2_place_1 (by decide) ?_
  refine lv_iconst (v := 2) hx hb dX2_place_3 (by decide) ?_
  refine lv_iload_n hx hb dX2_place_4 rfl (lv_at hl 1 rfl) ?_
  refine lv_iconst (v := 3) hx hb dX2_place_5 (by decide) ?_
  refine lv_iand hx hb dX2_place_6 ?_
  refine lv_imul hx hb dX2_place_7 ?_
  refine lv_iadd hx hb dX2_place_8 ?_
  rw [show (8 + 2 * (kind &&& 3) : Int32) = S from hSd.symm]
  refine va_put (D := (dC, dI)) (ci := 3) (v := .int S) (ty := .int) (C := RX2) (T := TX2) (N := 4) hx hb hts in_X2 tyX2 tyX2_ok nmX2 hown hK hP hD hS 0 rfl rfl 1 (by decide) (hts _ q232) (fun _ h9 => h9) rfl (by decide +kernel) rfl rfl (Nat.le_of_ble_eq_true rfl) dX2_place_9 (fun H locs hP hD hS => ?_)
  have hP : va_P (dC, dI) vwCl [(aM, .inr (3, [.ref aW, .int S, .ref a0, .ref aQ])), (aW, .inl (eW, 72, .inl (pd_wd b))), (aQ, .inl (eQ, 72, .inl g))] H := hP
  have hD : va_D A [(aM, .inr (3, [.ref aW, .int S, .ref a0, .ref aQ])), (aW, .inl (eW, 72, .inl (pd_wd b))), (aQ, .inl (eQ, 72, .inl g))] := hD
  refine lv_aload_n hx hb dX2_place_12 rfl (lv_at hl 0 rfl) ?_
  refine lv_aload_n hx hb dX2_place_13 rfl (lv_at hl 0 rfl) ?_
  refine va_get (D := (dC, dI)) (ci := 3) (v := .int S) (C := RX2) (T := TX2) (N := 4) hx hb hts in_X2 hown hK hP 0 rfl rfl 1 (by decide) (hts _ q232) (fun _ h9 => h9) rfl dX2_place_14 ?_
  refine lv_aload_n hx hb dX2_place_17 rfl (lv_at hl 0 rfl) ?_
  refine va_get (D := (dC, dI)) (ci := 3) (v := .int S) (C := RX2) (T := TX2) (N := 4) hx hb hts in_X2 hown hK hP 0 rfl rfl 1 (by decide) (hts _ q232) (fun _ h9 => h9) rfl dX2_place_18 ?_
  refine lv_imul hx hb dX2_place_21 ?_
  refine va_newa (atype := .int) (ty := .int) (n := (S * S)) (N' := (S * S).toNatClampNeg) (a0 := ((S * S).toNatClampNeg, .inl (fun _ => 0))) hx hb (hts _ q244) rfl hK hP hD hS hA (fun _ => rfl) hsq0 rfl (Nat.le_trans (Nat.mul_le_mul_right _ hsq1) (Nat.le_of_ble_eq_true rfl)) (Nat.le_of_ble_eq_true rfl) (Nat.le_trans (Nat.le_of_eq (Nat.zero_add _)) hsq1) dX2_place_22 (fun aT eT H hK hP hD hS => ?_)
  have hP : va_P (dC, dI) vwCl [(aM, .inr (3, [.ref aW, .int S, .ref a0, .ref aQ])), (aW, .inl (eW, 72, .inl (pd_wd b))), (aQ, .inl (eQ, 72, .inl g)), (aT, .inl (eT, (S * S).toNatClampNeg, .inl (fun _ => 0)))] H := hP
  have hD : va_D A [(aM, .inr (3, [.ref aW, .int S, .ref a0, .ref aQ])), (aW, .inl (eW, 72, .inl (pd_wd b))), (aQ, .inl (eQ, 72, .inl g)), (aT, .inl (eT, (S * S).toNatClampNeg, .inl (fun _ => 0)))] := hD
  have hK : va_K (dC, dI) vwCl [(eW, .int), (eQ, .int), (eT, .int)] s := hK
  refine W.widen (k := 1) (n := 196) (Nat.le_of_ble_eq_true rfl) (Nat.le_trans (Nat.le_of_eq (Nat.zero_add _)) hsq1) ?_
  rw [← pmd_nil b S] at hP hD
  have hP : va_P (dC, dI) vwCl [(aM, .inr (3, [.ref aW, .int S, .ref a0, .ref aQ])), (aW, .inl (eW, 72, .inl (pd_wd b))), (aQ, .inl (eQ, 72, .inl g)), (aT, .inl (eT, (S * S).toNatClampNeg, .inl (pmd b (pm_nil S))))] H := hP
  have hD : va_D A [(aM, .inr (3, [.ref aW, .int S, .ref a0, .ref aQ])), (aW, .inl (eW, 72, .inl (pd_wd b))), (aQ, .inl (eQ, 72, .inl g)), (aT, .inl (eT, (S * S).toNatClampNeg, .inl (pmd b (pm_nil S))))] := hD
  refine va_put (D := (dC, dI)) (ci := 3) (v := .ref aT) (ty := .array .int) (C := RX2) (T := TX2) (N := 4) hx hb hts in_X2 tyX2 tyX2_ok nmX2 hown hK hP hD hS 0 rfl rfl 2 (by decide) (hts _ q233) (fun _ h9 => h9) rfl (by decide +kernel) rfl rfl (Nat.le_of_ble_eq_true rfl) dX2_place_24 (fun H locs hP hD hS => ?_)
  have hP : va_P (dC, dI) vwCl [(aM, .inr (3, [.ref aW, .int S, .ref aT, .ref aQ])), (aW, .inl (eW, 72, .inl (pd_wd b))), (aQ, .inl (eQ, 72, .inl g)), (aT, .inl (eT, (S * S).toNatClampNeg, .inl (pmd b (pm_nil S))))] H := hP
  have hD : va_D A [(aM, .inr (3, [.ref aW, .int S, .ref aT, .ref aQ])), (aW, .inl (eW, 72, .inl (pd_wd b))), (aQ, .inl (eQ, 72, .inl g)), (aT, .inl (eT, (S * S).toNatClampNeg, .inl (pmd b (pm_nil S))))] := hD
  refine lv_iconst (v := 0) hx hb dX2_place_27 (by decide) ?_
  refine lv_istore_n (lv' := [(2, .int 0), (0, .ref aM), (1, .int kind)]) hx hb dX2_place_28 rfl hl (by decide) rfl (fun ls hl => ?_)
  have hP := hP.sub (ws' := [(aM, .inr (3, [.ref aW, .int S, .ref aT, .ref aQ])), (aW, .inl (eW, 72, .inl (pd_wd b))), (aT, .inl (eT, (S * S).toNatClampNeg, .inl (pmd b (pm_nil S)))), (aQ, .inl (eQ, 72, .inl g))]) [0, 1, 3, 2] rfl
  have hD := hD.sub (ws' := [(aM, .inr (3, [.ref aW, .int S, .ref aT, .ref aQ])), (aW, .inl (eW, 72, .inl (pd_wd b))), (aT, .inl (eT, (S * S).toNatClampNeg, .inl (pmd b (pm_nil S)))), (aQ, .inl (eQ, 72, .inl g))]) [0, 1, 3, 2] (by decide) rfl
  have hK := hK.sub (tys' := [(eW, .int), (eT, .int), (eQ, .int)]) [0, 2, 1] rfl
  exact x2p_copy hx hb hml hown hts hK hE hA hr hlocks hSS 72 0 g (by omega) (fun j hj => absurd hj (Nat.not_lt_zero j)) _ _ ls hP hD hS (lv_sub hl [0, 1] rfl)
end
section
/-! THE CLAIM OUT OF ONE WALK OF THE LAW'S BODY. Your part is whole_start (and what it stands on); all else here is the same for every law, but numbers. -/
def R_law : String := "PlacementDeskLaw"
def lw_P (b : Addr) (xs : List Int32) (args : Array Value) (s : State) : Prop := args = #[.ref b] ∧ s.IntsAt b xs ∧ xs.length ≤ 288 ∧ (Jvm.Cond.and given_1 narrow_1).before args s = true
def lw_Q (_ : Array Value) (s : State) (o : Outcome) (t : State) : Prop := o = .returned (some (.int 1)) ∧ Framed s o t [] 1200000 5502250
def lw_Z (below : List Frame) (a : Array Value) (s : State) : State → Prop := fun t => ∃ o, t.status = .running ∧ Ended t below o ∧ lw_Q a s o t
/-- the law's own end, with 1 on the stack, nothing written that was there before, its room as the claim has it -/
theorem lw_ret {p : Program} {l : Launch} {e : Env} {s : State} {m : MethodId} {below : List Frame} {meth : Method} {c : Code} {b : Nat} (hx : p.tables.exec = Jvm.exec) (hb : c.code = code) (hr : meth.sig.returnType = ret) (hlocks : meth.locks = false) {pc : Nat} {H : Heap} {ls : Array Slot} (hdg : decode code pc = .ok (.ireturn, 1)) : W p l e room_1 s m #[Value.ref b] below meth c H [] 1200000 5502250 (lw_Z below #[Value.ref b] s) (F0 m pc ls [.int 1]) := by
  intro T hT X
  obtain ⟨fs, hret, hrun, hended, hW, hframe⟩ := X.leave (v := some (.int 1)) (hlocks := hlocks) (fun h => by rw [hr] at h; cases h)
  have hmeth' : T.vm.method? m = some meth := X.method'
  refine ⟨T.setFrames fs, ?_, .returned (some (.int 1)), hrun, hended, rfl, ⟨_, rfl⟩, hW, hframe⟩
  jvm_step X.here [X.here.top, hx, hb, hdg, hmeth', hr, ret, narrow_b1]
  (try refine ⟨rfl, ?_⟩); (try refine ⟨rfl, ?_⟩)
  first | (intro acts; rw [hret _ acts rfl rfl rfl]) | rw [hret _ _ rfl rfl rfl]
  exact Steps.refl _
/-- what holds at the law's entry: the machine, the code, the tables' words (any of lw_tbl by 'hts w (by decide +kernel)'), the script of L ints xs at the cell b, what the Statement gives of the start (any of its parts by flat_of_before) -/
def lw_At (p : Program) (s : State) (m : MethodId) (meth : Method) (c : Code) (b L : Nat) (xs : Nat → Int32) : Prop :=
  p.tables.exec = Jvm.exec ∧ c.code = code ∧ meth.sig.returnType = ret ∧ c.maxLocals = 4 ∧ s.vm.findClass R_law = some m.cls ∧ (∀ w ∈ lw_tbl, w.before #[Value.ref b] s = true) ∧ va_X b L xs s s.heap ∧ b < s.heap.size ∧ meth.locks = false ∧ (Jvm.Cond.and given_1 narrow_1).before #[Value.ref b] s = true
end
section
/-! THE LAW: its loop -/
theorem law_inc (k : Nat) : nI (6 * k) + Int32.ofInt 6 = nI (6 * (k + 1)) := by
  rw [show Int32.ofInt 6 = nI 6 by decide +kernel]
  exact nI_add (6 * k) 6
theorem law_if {x y z t : Int32} (h : x = y ↔ z = t) : (if x = y then 1 else 0 : Int32) = (if z = t then 1 else 0) := by
  by_cases q : x = y
  · rw [if_pos q, if_pos (h.mp q)]
  · rw [if_neg q, if_neg (fun g => q (h.mpr g))]
theorem law_more {L j : Nat} (hL : L ≤ 288) (hj : j ≤ 288) (h : ¬ Int32.ofNat L - 6 < nI j) : j + 6 ≤ L := by
  have h1 : ¬ (nI L - nI 6) < nI j := h
  rw [Int32.lt_iff_toInt_lt, pk_sub_toInt (by omega) (by omega), nI_toInt (by omega)] at h1
  omega
theorem law_in0 {L j : Nat} (hL : L ≤ 288) (h : j + 6 ≤ L) : vp_in (nI j) L := vp_in_nI (by omega) (by omega)
theorem law_in1 {L j : Nat} (hL : L ≤ 288) (h : j + 6 ≤ L) : vp_in (nI j + 1) L := by
  rw [nI_1]
  exact vp_in_nI (by omega) (by omega)
theorem law_in2 {L j : Nat} (hL : L ≤ 288) (h : j + 6 ≤ L) : vp_in (nI j + 2) L := by
  rw [show nI j + 2 = nI (j + 2) from nI_add j 2]
  exact vp_in_nI (by omega) (by omega)
set_option maxHeartbeats 4000000 in
set_option maxRecDepth 100000 in
/-- the loop at its head, k calls behind: both hold the same codewords, the same side, and sheets of the same table -/
theorem law_loop {p : Program} {l : Launch} {e : Env} {s : State} {m : MethodId} {below : List Frame} {meth : Method} {c : Code} {dC : Nat → ClassId} {dI : Nat → Nat → Nat} {b L : Nat} {xs : Nat → Int32} (hL : L ≤ 288) (C0 : lw_At p s m meth c b L xs) (hE : pd_E (fun q : Nat => s.heap.size ≤ q) s s.heap) : ∀ (n k : Nat), 6 * k ≤ L → L < 6 * (k + n) → ∀ (w w0 : Nat → Nat) (S : Int32) (T : List pC) (vf qf : Nat → Int32), (∀ j, w j < 256) → (∀ j, w0 j < 256) → pm_S S → T.length = (S * S).toNatClampNeg → (∀ z ∈ T, pm_ok z = true) → ∀ (aX aC aD aB aS aV aM aW aT aQ : Nat) (kC kB kV eW eT eQ : ClassId) (H : Heap) (locs : List Loc), va_K (dC, dI) vwCl [(kC, .char), (kB, .byte), (kV, .byte), (eW, .int), (eT, .int), (eQ, .int)] s → va_P (dC, dI) vwCl [(aX, .inr (0, [.ref aC, .ref aD, .int S])), (aC, .inl (kC, 72, .inl (pd_wd w))), (aD, .inr (1, [.ref aS, .int S, .int S, .ref aB])), (aB, .inl (kB, (S * S).toNatClampNeg, .inl (pcl w0 T))), (aS, .inr (2, [.ref aV, .int 0, .int 0, .int 0])), (aV, .inl (kV, 72, .inl vf)), (aM, .inr (3, [.ref aW, .int S, .ref aT, .ref aQ])), (aW, .inl (eW, 72, .inl (pd_wd w))), (aT, .inl (eT, (S * S).toNatClampNeg, .inl (pmd w0 T))), (aQ, .inl (eQ, 72, .inl qf))] H → va_D (fun q : Nat => s.heap.size ≤ q) [(aX, .inr (0, [.ref aC, .ref aD, .int S])), (aC, .inl (kC, 72, .inl (pd_wd w))), (aD, .inr (1, [.ref aS, .int S, .int S, .ref aB])), (aB, .inl (kB, (S * S).toNatClampNeg, .inl (pcl w0 T))), (aS, .inr (2, [.ref aV, .int 0, .int 0, .int 0])), (aV, .inl (kV, 72, .inl vf)), (aM, .inr (3, [.ref aW, .int S, .ref aT, .ref aQ])), (aW, .inl (eW, 72, .inl (pd_wd w))), (aT, .inl (eT, (S * S).toNatClampNeg, .inl (pmd w0 T))), (aQ, .inl (eQ, 72, .inl qf))] → va_S (fun q : Nat => s.heap.size ≤ q) s.heap H locs → ∀ (ls : Array Slot), lv_has ls 4 [(0, .ref b), (1, .ref aX), (2, .ref aM), (3, .int (nI (6 * k)))] → W p l e room_1 s m #[Value.ref b] below meth c H locs (11 + 5 * k) (635 + 472 * k) (lw_Z below #[Value.ref b] s) (F0 m 18 ls []) := by
  obtain ⟨hx, hb, hr, hml, hown, hts0, hX, hbl, hlocks, hgv⟩ := C0
  have hts : ∀ w ∈ lw_all, w.before #[Value.ref b] s = true := fun w h => hts0 w (lw_all_tbl h)
  have hA : ∀ q : Nat, s.heap.size ≤ q → (fun q : Nat => s.heap.size ≤ q) q := fun _ h => h
  have hbA : ¬ (fun q : Nat => s.heap.size ≤ q) b := Nat.not_le.mpr hbl
  intro n
  induction n with
  | zero =>
    intro k h1 h2
    exact absurd h2 (by omega)
  | succ n ih =>
    intro k hk hkn w w0 S T vf qf hwb hw0 hSS hT hok aX aC aD aB aS aV aM aW aT aQ kC kB kV eW eT eQ H locs hK hP hD hS ls hl
    have hc : 11 + 5 * k + 5 ≤ 1200000 := by omega
    have hs : 635 + 472 * k + 472 ≤ 5502250 := by omega
    refine lv_iload_n hx hb dL_law_18 rfl (lv_at hl 3 rfl) ?_
    refine lv_aload_n hx hb dL_law_19 rfl (lv_at hl 0 rfl) ?_
    refine va_slen hx hb hX hbl hbA hS dL_law_20 ?_
    refine lv_bipush (v := 6) hx hb dL_law_21 (by decide) ?_
    refine lv_isub hx hb dL_law_23 ?_
    refine lv_icmp_gt (tgt := 168) hx hb dL_law_24 (by decide) (fun c1 => ?_) (fun c1 => ?_)
    · refine lv_iconst (v := 1) hx hb dL_law_168 (by decide) ?_
      refine W.widen (k := 1200000) (n := 5502250) (by omega) (by omega) ?_
      refine va_forget hS.2.2 ?_
      exact lw_ret hx hb hr hlocks dL_law_169
    · have h6 := law_more hL (by omega) c1
      have hin0 := law_in0 (j := 6 * k) hL h6
      have hin1 := law_in1 (j := 6 * k) hL h6
      have hin2 := law_in2 (j := 6 * k) hL h6
      refine lv_aload_n hx hb dL_law_27 rfl (lv_at hl 0 rfl) ?_
      refine lv_iload_n hx hb dL_law_28 rfl (lv_at hl 3 rfl) ?_
      refine va_sld hx hb hX hbl hbA hS hin0 dL_law_29 ?_
      refine lv_iconst (v := 3) hx hb dL_law_30 (by decide) ?_
      refine lv_iand hx hb dL_law_31 ?_
      obtain ⟨jj, hjj, ejj⟩ := pk_andE (xs (nI (6 * k)).toNatClampNeg) (m := 3) 2 (by decide +kernel)
      rw [ejj]
      rcases (show jj = 0 ∨ jj = 1 ∨ jj = 2 ∨ jj = 3 by omega) with rfl | rfl | rfl | rfl
      · refine lv_tableIn (off := 32) (tgt := 64) hx hb dL_law_32 (by decide +kernel) (by decide +kernel) (by decide +kernel) (by decide) ?_
        refine lv_aload_n hx hb dL_law_64 rfl (lv_at hl 1 rfl) ?_
        refine lv_aload_n hx hb dL_law_65 rfl (lv_at hl 0 rfl) ?_
        refine lv_iload_n hx hb dL_law_66 rfl (lv_at hl 3 rfl) ?_
        refine lv_iconst (v := 1) hx hb dL_law_67 (by decide) ?_
        refine lv_iadd hx hb dL_law_68 ?_
        refine va_sld hx hb hX hbl hbA hS hin1 dL_law_69 ?_
        refine lv_aload_n hx hb dL_law_70 rfl (lv_at hl 0 rfl) ?_
        refine lv_iload_n hx hb dL_law_71 rfl (lv_at hl 3 rfl) ?_
        refine lv_iconst (v := 2) hx hb dL_law_72 (by decide) ?_
        refine lv_iadd hx hb dL_law_73 ?_
        refine va_sld hx hb hX hbl hbA hS hin2 dL_law_74 ?_
        refine pd_goV (ws := [(aX, .inr (0, [.ref aC, .ref aD, .int S])), (aC, .inl (kC, 72, .inl (pd_wd w))), (aD, .inr (1, [.ref aS, .int S, .int S, .ref aB])), (aB, .inl (kB, (S * S).toNatClampNeg, .inl (pcl w0 T))), (aS, .inr (2, [.ref aV, .int 0, .int 0, .int 0])), (aV, .inl (kV, 72, .inl vf)), (aM, .inr (3, [.ref aW, .int S, .ref aT, .ref aQ])), (aW, .inl (eW, 72, .inl (pd_wd w))), (aT, .inl (eT, (S * S).toNatClampNeg, .inl (pmd w0 T))), (aQ, .inl (eQ, 72, .inl qf))]) (wc := [(aX, .inr (0, [.ref aC, .ref aD, .int S])), (aC, .inl (kC, 72, .inl (pd_wd w)))]) (wr := [(aD, .inr (1, [.ref aS, .int S, .int S, .ref aB])), (aB, .inl (kB, (S * S).toNatClampNeg, .inl (pcl w0 T))), (aS, .inr (2, [.ref aV, .int 0, .int 0, .int 0])), (aV, .inl (kV, 72, .inl vf)), (aM, .inr (3, [.ref aW, .int S, .ref aT, .ref aQ])), (aW, .inl (eW, 72, .inl (pd_wd w))), (aT, .inl (eT, (S * S).toNatClampNeg, .inl (pmd w0 T))), (aQ, .inl (eQ, 72, .inl qf))]) (w1 := [(aX, .inr (0, [.ref aC, .ref aD, .int S])), (aC, .inl (kC, 72, .inl (pd_wd (pd_pu w (pd_at (xs (nI (6 * k) + 1).toNatClampNeg)) (pd_v (xs (nI (6 * k) + 2).toNatClampNeg))))))]) [0, 1] [2, 3, 4, 5, 6, 7, 8, 9] hP hD hS hA rfl rfl (by decide) (by decide) (va_runV (As := [.int (xs (((nI (6 * k)) + 1)).toNatClampNeg), .int (xs (((nI (6 * k)) + 2)).toNatClampNeg)]) (rest := []) ⟨hx, hb, hml, hown, hts⟩ (metX0_put l dC dI _ aX aC aD kC S w (xs (nI (6 * k) + 1).toNatClampNeg) (xs (nI (6 * k) + 2).toNatClampNeg)) (cwV 2 hts (lw_V q138 q139 q140 q16 q141) rfl rfl rfl (by decide +kernel) ⟨Nat.le_of_ble_eq_true rfl, Nat.le_of_ble_eq_true rfl⟩) ⟨pd_Pc.blind, va_recv hK hP (ci := 0) (q0 := 0) rfl rfl, pd_pre [0, 1] [0] hP hK hD hE hS hA rfl (by decide) rfl⟩ rfl rfl hl.1 rfl (lv_room (Nat.le_of_ble_eq_true rfl)) dL_law_75 ⟨Nat.le_trans (by omega) hc, Nat.le_trans (by omega) hs⟩) (fun H locs hP hD hS => ?_)
        have hP : va_P (dC, dI) vwCl [(aD, .inr (1, [.ref aS, .int S, .int S, .ref aB])), (aB, .inl (kB, (S * S).toNatClampNeg, .inl (pcl w0 T))), (aS, .inr (2, [.ref aV, .int 0, .int 0, .int 0])), (aV, .inl (kV, 72, .inl vf)), (aM, .inr (3, [.ref aW, .int S, .ref aT, .ref aQ])), (aW, .inl (eW, 72, .inl (pd_wd w))), (aT, .inl (eT, (S * S).toNatClampNeg, .inl (pmd w0 T))), (aQ, .inl (eQ, 72, .inl qf)), (aX, .inr (0, [.ref aC, .ref aD, .int S])), (aC, .inl (kC, 72, .inl (pd_wd (pd_pu w (pd_at (xs (nI (6 * k) + 1).toNatClampNeg)) (pd_v (xs (nI (6 * k) + 2).toNatClampNeg))))))] H := hP
        have hD : va_D (fun q : Nat => s.heap.size ≤ q) [(aD, .inr (1, [.ref aS, .int S, .int S, .ref aB])), (aB, .inl (kB, (S * S).toNatClampNeg, .inl (pcl w0 T))), (aS, .inr (2, [.ref aV, .int 0, .int 0, .int 0])), (aV, .inl (kV, 72, .inl vf)), (aM, .inr (3, [.ref aW, .int S, .ref aT, .ref aQ])), (aW, .inl (eW, 72, .inl (pd_wd w))), (aT, .inl (eT, (S * S).toNatClampNeg, .inl (pmd w0 T))), (aQ, .inl (eQ, 72, .inl qf)), (aX, .inr (0, [.ref aC, .ref aD, .int S])), (aC, .inl (kC, 72, .inl (pd_wd (pd_pu w (pd_at (xs (nI (6 * k) + 1).toNatClampNeg)) (pd_v (xs (nI (6 * k) + 2).toNatClampNeg))))))] := hD
        refine lv_aload_n hx hb dL_law_78 rfl (lv_at hl 2 rfl) ?_
        refine lv_aload_n hx hb dL_law_79 rfl (lv_at hl 0 rfl) ?_
        refine lv_iload_n hx hb dL_law_80 rfl (lv_at hl 3 rfl) ?_
        refine lv_iconst (v := 1) hx hb dL_law_81 (by decide) ?_
        refine lv_iadd hx hb dL_law_82 ?_
        refine va_sld hx hb hX hbl hbA hS hin1 dL_law_83 ?_
        refine lv_aload_n hx hb dL_law_84 rfl (lv_at hl 0 rfl) ?_
        refine lv_iload_n hx hb dL_law_85 rfl (lv_at hl 3 rfl) ?_
        refine lv_iconst (v := 2) hx hb dL_law_86 (by decide) ?_
        refine lv_iadd hx hb dL_law_87 ?_
        refine va_sld hx hb hX hbl hbA hS hin2 dL_law_88 ?_
        refine pd_goV (ws := [(aD, .inr (1, [.ref aS, .int S, .int S, .ref aB])), (aB, .inl (kB, (S * S).toNatClampNeg, .inl (pcl w0 T))), (aS, .inr (2, [.ref aV, .int 0, .int 0, .int 0])), (aV, .inl (kV, 72, .inl vf)), (aM, .inr (3, [.ref aW, .int S, .ref aT, .ref aQ])), (aW, .inl (eW, 72, .inl (pd_wd w))), (aT, .inl (eT, (S * S).toNatClampNeg, .inl (pmd w0 T))), (aQ, .inl (eQ, 72, .inl qf)), (aX, .inr (0, [.ref aC, .ref aD, .int S])), (aC, .inl (kC, 72, .inl (pd_wd (pd_pu w (pd_at (xs (nI (6 * k) + 1).toNatClampNeg)) (pd_v (xs (nI (6 * k) + 2).toNatClampNeg))))))]) (wc := [(aM, .inr (3, [.ref aW, .int S, .ref aT, .ref aQ])), (aW, .inl (eW, 72, .inl (pd_wd w)))]) (wr := [(aD, .inr (1, [.ref aS, .int S, .int S, .ref aB])), (aB, .inl (kB, (S * S).toNatClampNeg, .inl (pcl w0 T))), (aS, .inr (2, [.ref aV, .int 0, .int 0, .int 0])), (aV, .inl (kV, 72, .inl vf)), (aT, .inl (eT, (S * S).toNatClampNeg, .inl (pmd w0 T))), (aQ, .inl (eQ, 72, .inl qf)), (aX, .inr (0, [.ref aC, .ref aD, .int S])), (aC, .inl (kC, 72, .inl (pd_wd (pd_pu w (pd_at (xs (nI (6 * k) + 1).toNatClampNeg)) (pd_v (xs (nI (6 * k) + 2).toNatClampNeg))))))]) (w1 := [(aM, .inr (3, [.ref aW, .int S, .ref aT, .ref aQ])), (aW, .inl (eW, 72, .inl (pd_wd (pd_pu w (pd_at (xs (nI (6 * k) + 1).toNatClampNeg)) (pd_v (xs (nI (6 * k) + 2).toNatClampNeg))))))]) [4, 5] [0, 1, 2, 3, 6, 7, 8, 9] hP hD hS hA rfl rfl (by decide) (by decide) (va_runV (As := [.int (xs (((nI (6 * k)) + 1)).toNatClampNeg), .int (xs (((nI (6 * k)) + 2)).toNatClampNeg)]) (rest := []) ⟨hx, hb, hml, hown, hts⟩ (metX2_put l dC dI _ aM aW aT aQ eW S w (xs (nI (6 * k) + 1).toNatClampNeg) (xs (nI (6 * k) + 2).toNatClampNeg)) (cwV 2 hts (lw_V q245 q246 q247 q22 q248) rfl rfl rfl (by decide +kernel) ⟨Nat.le_of_ble_eq_true rfl, Nat.le_of_ble_eq_true rfl⟩) ⟨pd_Pc.blind, va_recv hK hP (ci := 3) (q0 := 4) rfl rfl, pd_pre [4, 5] [3] hP hK hD hE hS hA rfl (by decide) rfl⟩ rfl rfl hl.1 rfl (lv_room (Nat.le_of_ble_eq_true rfl)) dL_law_89 ⟨Nat.le_trans (by omega) hc, Nat.le_trans (by omega) hs⟩) (fun H locs hP hD hS => ?_)
        have hP : va_P (dC, dI) vwCl [(aD, .inr (1, [.ref aS, .int S, .int S, .ref aB])), (aB, .inl (kB, (S * S).toNatClampNeg, .inl (pcl w0 T))), (aS, .inr (2, [.ref aV, .int 0, .int 0, .int 0])), (aV, .inl (kV, 72, .inl vf)), (aT, .inl (eT, (S * S).toNatClampNeg, .inl (pmd w0 T))), (aQ, .inl (eQ, 72, .inl qf)), (aX, .inr (0, [.ref aC, .ref aD, .int S])), (aC, .inl (kC, 72, .inl (pd_wd (pd_pu w (pd_at (xs (nI (6 * k) + 1).toNatClampNeg)) (pd_v (xs (nI (6 * k) + 2).toNatClampNeg)))))), (aM, .inr (3, [.ref aW, .int S, .ref aT, .ref aQ])), (aW, .inl (eW, 72, .inl (pd_wd (pd_pu w (pd_at (xs (nI (6 * k) + 1).toNatClampNeg)) (pd_v (xs (nI (6 * k) + 2).toNatClampNeg))))))] H := hP
        have hD : va_D (fun q : Nat => s.heap.size ≤ q) [(aD, .inr (1, [.ref aS, .int S, .int S, .ref aB])), (aB, .inl (kB, (S * S).toNatClampNeg, .inl (pcl w0 T))), (aS, .inr (2, [.ref aV, .int 0, .int 0, .int 0])), (aV, .inl (kV, 72, .inl vf)), (aT, .inl (eT, (S * S).toNatClampNeg, .inl (pmd w0 T))), (aQ, .inl (eQ, 72, .inl qf)), (aX, .inr (0, [.ref aC, .ref aD, .int S])), (aC, .inl (kC, 72, .inl (pd_wd (pd_pu w (pd_at (xs (nI (6 * k) + 1).toNatClampNeg)) (pd_v (xs (nI (6 * k) + 2).toNatClampNeg)))))), (aM, .inr (3, [.ref aW, .int S, .ref aT, .ref aQ])), (aW, .inl (eW, 72, .inl (pd_wd (pd_pu w (pd_at (xs (nI (6 * k) + 1).toNatClampNeg)) (pd_v (xs (nI (6 * k) + 2).toNatClampNeg))))))] := hD
        refine lv_goto (tgt := 162) hx hb dL_law_92 (by decide) ?_
        refine lv_iinc (v := nI (6 * (k + 1))) (lv' := [(3, .int (nI (6 * (k + 1)))), (0, .ref b), (1, .ref aX), (2, .ref aM)]) hx hb dL_law_162 hl (k := 3) rfl (law_inc k) (by decide) rfl (fun ls hl => ?_)
        refine lv_goto (tgt := 18) hx hb dL_law_165 (by decide) ?_
        refine W.widen (k := 11 + 5 * (k + 1)) (n := 635 + 472 * (k + 1)) (by omega) (by omega) ?_
        have hP := hP.sub (ws' := [(aX, .inr (0, [.ref aC, .ref aD, .int S])), (aC, .inl (kC, 72, .inl (pd_wd (pd_pu w (pd_at (xs (nI (6 * k) + 1).toNatClampNeg)) (pd_v (xs (nI (6 * k) + 2).toNatClampNeg)))))), (aD, .inr (1, [.ref aS, .int S, .int S, .ref aB])), (aB, .inl (kB, (S * S).toNatClampNeg, .inl (pcl w0 T))), (aS, .inr (2, [.ref aV, .int 0, .int 0, .int 0])), (aV, .inl (kV, 72, .inl vf)), (aM, .inr (3, [.ref aW, .int S, .ref aT, .ref aQ])), (aW, .inl (eW, 72, .inl (pd_wd (pd_pu w (pd_at (xs (nI (6 * k) + 1).toNatClampNeg)) (pd_v (xs (nI (6 * k) + 2).toNatClampNeg)))))), (aT, .inl (eT, (S * S).toNatClampNeg, .inl (pmd w0 T))), (aQ, .inl (eQ, 72, .inl qf))]) [6, 7, 0, 1, 2, 3, 8, 9, 4, 5] rfl
        have hD := hD.sub (ws' := [(aX, .inr (0, [.ref aC, .ref aD, .int S])), (aC, .inl (kC, 72, .inl (pd_wd (pd_pu w (pd_at (xs (nI (6 * k) + 1).toNatClampNeg)) (pd_v (xs (nI (6 * k) + 2).toNatClampNeg)))))), (aD, .inr (1, [.ref aS, .int S, .int S, .ref aB])), (aB, .inl (kB, (S * S).toNatClampNeg, .inl (pcl w0 T))), (aS, .inr (2, [.ref aV, .int 0, .int 0, .int 0])), (aV, .inl (kV, 72, .inl vf)), (aM, .inr (3, [.ref aW, .int S, .ref aT, .ref aQ])), (aW, .inl (eW, 72, .inl (pd_wd (pd_pu w (pd_at (xs (nI (6 * k) + 1).toNatClampNeg)) (pd_v (xs (nI (6 * k) + 2).toNatClampNeg)))))), (aT, .inl (eT, (S * S).toNatClampNeg, .inl (pmd w0 T))), (aQ, .inl (eQ, 72, .inl qf))]) [6, 7, 0, 1, 2, 3, 8, 9, 4, 5] (by decide) rfl
        have hK := hK.sub (tys' := [(kC, .char), (kB, .byte), (kV, .byte), (eW, .int), (eT, .int), (eQ, .int)]) [0, 1, 2, 3, 4, 5] rfl
        exact ih (k + 1) (by omega) (by omega) _ _ _ _ _ _ (pd_pu_lt hwb (pd_v_lt _)) hw0 hSS hT hok _ _ _ _ _ _ _ _ _ _ _ _ _ _ _ _ _ _ hK hP hD hS ls (lv_sub hl [1, 2, 3, 0] rfl)
      · refine lv_tableIn (off := 63) (tgt := 95) hx hb dL_law_32 (by decide +kernel) (by decide +kernel) (by decide +kernel) (by decide) ?_
        refine lv_aload_n hx hb dL_law_95 rfl (lv_at hl 1 rfl) ?_
        refine lv_aload_n hx hb dL_law_96 rfl (lv_at hl 0 rfl) ?_
        refine lv_iload_n hx hb dL_law_97 rfl (lv_at hl 3 rfl) ?_
        refine lv_iconst (v := 1) hx hb dL_law_98 (by decide) ?_
        refine lv_iadd hx hb dL_law_99 ?_
        refine va_sld hx hb hX hbl hbA hS hin1 dL_law_100 ?_
        refine pd_goA (ws := [(aX, .inr (0, [.ref aC, .ref aD, .int S])), (aC, .inl (kC, 72, .inl (pd_wd w))), (aD, .inr (1, [.ref aS, .int S, .int S, .ref aB])), (aB, .inl (kB, (S * S).toNatClampNeg, .inl (pcl w0 T))), (aS, .inr (2, [.ref aV, .int 0, .int 0, .int 0])), (aV, .inl (kV, 72, .inl vf)), (aM, .inr (3, [.ref aW, .int S, .ref aT, .ref aQ])), (aW, .inl (eW, 72, .inl (pd_wd w))), (aT, .inl (eT, (S * S).toNatClampNeg, .inl (pmd w0 T))), (aQ, .inl (eQ, 72, .inl qf))]) (wc := [(aX, .inr (0, [.ref aC, .ref aD, .int S])), (aC, .inl (kC, 72, .inl (pd_wd w)))]) (wr := [(aD, .inr (1, [.ref aS, .int S, .int S, .ref aB])), (aB, .inl (kB, (S * S).toNatClampNeg, .inl (pcl w0 T))), (aS, .inr (2, [.ref aV, .int 0, .int 0, .int 0])), (aV, .inl (kV, 72, .inl vf)), (aM, .inr (3, [.ref aW, .int S, .ref aT, .ref aQ])), (aW, .inl (eW, 72, .inl (pd_wd w))), (aT, .inl (eT, (S * S).toNatClampNeg, .inl (pmd w0 T))), (aQ, .inl (eQ, 72, .inl qf))]) [0, 1] [2, 3, 4, 5, 6, 7, 8, 9] hK hP hD hS hA rfl rfl (by decide) (by decide) (va_runV (As := [.int (xs (((nI (6 * k)) + 1)).toNatClampNeg)]) (rest := []) ⟨hx, hb, hml, hown, hts⟩ (metX0_place l dC dI _ aX aC aD kC S (pd_sd (xs (nI (6 * k) + 1).toNatClampNeg)) (xs (nI (6 * k) + 1).toNatClampNeg) w hwb rfl) (cwV 1 hts (lw_V q143 q144 q145 q16 q146) rfl rfl rfl (by decide +kernel) ⟨Nat.le_of_ble_eq_true rfl, Nat.le_of_ble_eq_true rfl⟩) ⟨pd_Pc.blind, va_recv hK hP (ci := 0) (q0 := 0) rfl rfl, pd_pre [0, 1] [0] hP hK hD hE hS hA rfl (by decide) rfl⟩ rfl rfl hl.1 rfl (lv_room (Nat.le_of_ble_eq_true rfl)) dL_law_101 ⟨Nat.le_trans (by omega) hc, Nat.le_trans (by omega) hs⟩) (fun u H locs hw hK hP hD hS => ?_)
        obtain ⟨d2, b2, s2, v2, kB2, kV2⟩ := u
        have hP : va_P (dC, dI) vwCl [(aD, .inr (1, [.ref aS, .int S, .int S, .ref aB])), (aB, .inl (kB, (S * S).toNatClampNeg, .inl (pcl w0 T))), (aS, .inr (2, [.ref aV, .int 0, .int 0, .int 0])), (aV, .inl (kV, 72, .inl vf)), (aM, .inr (3, [.ref aW, .int S, .ref aT, .ref aQ])), (aW, .inl (eW, 72, .inl (pd_wd w))), (aT, .inl (eT, (S * S).toNatClampNeg, .inl (pmd w0 T))), (aQ, .inl (eQ, 72, .inl qf)), (aX, .inr (0, [.ref aC, .ref d2, .int (pd_sd (xs (nI (6 * k) + 1).toNatClampNeg))])), (aC, .inl (kC, 72, .inl (pd_wd w))), (d2, .inr (1, [.ref s2, .int (pd_sd (xs (nI (6 * k) + 1).toNatClampNeg)), .int (pd_sd (xs (nI (6 * k) + 1).toNatClampNeg)), .ref b2])), (b2, .inl (kB2, ((pd_sd (xs (nI (6 * k) + 1).toNatClampNeg)) * (pd_sd (xs (nI (6 * k) + 1).toNatClampNeg))).toNatClampNeg, .inl (pcl w (pm_T (pd_sd (xs (nI (6 * k) + 1).toNatClampNeg)))))), (s2, .inr (2, [.ref v2, .int 0, .int 0, .int 0])), (v2, .inl (kV2, 72, .inl (pd_by w)))] H := hP
        have hD : va_D (fun q : Nat => s.heap.size ≤ q) [(aD, .inr (1, [.ref aS, .int S, .int S, .ref aB])), (aB, .inl (kB, (S * S).toNatClampNeg, .inl (pcl w0 T))), (aS, .inr (2, [.ref aV, .int 0, .int 0, .int 0])), (aV, .inl (kV, 72, .inl vf)), (aM, .inr (3, [.ref aW, .int S, .ref aT, .ref aQ])), (aW, .inl (eW, 72, .inl (pd_wd w))), (aT, .inl (eT, (S * S).toNatClampNeg, .inl (pmd w0 T))), (aQ, .inl (eQ, 72, .inl qf)), (aX, .inr (0, [.ref aC, .ref d2, .int (pd_sd (xs (nI (6 * k) + 1).toNatClampNeg))])), (aC, .inl (kC, 72, .inl (pd_wd w))), (d2, .inr (1, [.ref s2, .int (pd_sd (xs (nI (6 * k) + 1).toNatClampNeg)), .int (pd_sd (xs (nI (6 * k) + 1).toNatClampNeg)), .ref b2])), (b2, .inl (kB2, ((pd_sd (xs (nI (6 * k) + 1).toNatClampNeg)) * (pd_sd (xs (nI (6 * k) + 1).toNatClampNeg))).toNatClampNeg, .inl (pcl w (pm_T (pd_sd (xs (nI (6 * k) + 1).toNatClampNeg)))))), (s2, .inr (2, [.ref v2, .int 0, .int 0, .int 0])), (v2, .inl (kV2, 72, .inl (pd_by w)))] := hD
        have hK : va_K (dC, dI) vwCl [(kC, .char), (kB, .byte), (kV, .byte), (eW, .int), (eT, .int), (eQ, .int), (kB2, .byte), (kV2, .byte)] s := hK
        refine lv_aload_n hx hb dL_law_104 rfl (lv_at hl 2 rfl) ?_
        refine lv_aload_n hx hb dL_law_105 rfl (lv_at hl 0 rfl) ?_
        refine lv_iload_n hx hb dL_law_106 rfl (lv_at hl 3 rfl) ?_
        refine lv_iconst (v := 1) hx hb dL_law_107 (by decide) ?_
        refine lv_iadd hx hb dL_law_108 ?_
        refine va_sld hx hb hX hbl hbA hS hin1 dL_law_109 ?_
        refine pd_goA (ws := [(aD, .inr (1, [.ref aS, .int S, .int S, .ref aB])), (aB, .inl (kB, (S * S).toNatClampNeg, .inl (pcl w0 T))), (aS, .inr (2, [.ref aV, .int 0, .int 0, .int 0])), (aV, .inl (kV, 72, .inl vf)), (aM, .inr (3, [.ref aW, .int S, .ref aT, .ref aQ])), (aW, .inl (eW, 72, .inl (pd_wd w))), (aT, .inl (eT, (S * S).toNatClampNeg, .inl (pmd w0 T))), (aQ, .inl (eQ, 72, .inl qf)), (aX, .inr (0, [.ref aC, .ref d2, .int (pd_sd (xs (nI (6 * k) + 1).toNatClampNeg))])), (aC, .inl (kC, 72, .inl (pd_wd w))), (d2, .inr (1, [.ref s2, .int (pd_sd (xs (nI (6 * k) + 1).toNatClampNeg)), .int (pd_sd (xs (nI (6 * k) + 1).toNatClampNeg)), .ref b2])), (b2, .inl (kB2, ((pd_sd (xs (nI (6 * k) + 1).toNatClampNeg)) * (pd_sd (xs (nI (6 * k) + 1).toNatClampNeg))).toNatClampNeg, .inl (pcl w (pm_T (pd_sd (xs (nI (6 * k) + 1).toNatClampNeg)))))), (s2, .inr (2, [.ref v2, .int 0, .int 0, .int 0])), (v2, .inl (kV2, 72, .inl (pd_by w)))]) (wc := [(aM, .inr (3, [.ref aW, .int S, .ref aT, .ref aQ])), (aW, .inl (eW, 72, .inl (pd_wd w))), (aQ, .inl (eQ, 72, .inl qf))]) (wr := [(aD, .inr (1, [.ref aS, .int S, .int S, .ref aB])), (aB, .inl (kB, (S * S).toNatClampNeg, .inl (pcl w0 T))), (aS, .inr (2, [.ref aV, .int 0, .int 0, .int 0])), (aV, .inl (kV, 72, .inl vf)), (aT, .inl (eT, (S * S).toNatClampNeg, .inl (pmd w0 T))), (aX, .inr (0, [.ref aC, .ref d2, .int (pd_sd (xs (nI (6 * k) + 1).toNatClampNeg))])), (aC, .inl (kC, 72, .inl (pd_wd w))), (d2, .inr (1, [.ref s2, .int (pd_sd (xs (nI (6 * k) + 1).toNatClampNeg)), .int (pd_sd (xs (nI (6 * k) + 1).toNatClampNeg)), .ref b2])), (b2, .inl (kB2, ((pd_sd (xs (nI (6 * k) + 1).toNatClampNeg)) * (pd_sd (xs (nI (6 * k) + 1).toNatClampNeg))).toNatClampNeg, .inl (pcl w (pm_T (pd_sd (xs (nI (6 * k) + 1).toNatClampNeg)))))), (s2, .inr (2, [.ref v2, .int 0, .int 0, .int 0])), (v2, .inl (kV2, 72, .inl (pd_by w)))]) [4, 5, 7] [0, 1, 2, 3, 6, 8, 9, 10, 11, 12, 13] hK hP hD hS hA rfl rfl (by decide) (by decide) (va_runV (As := [.int (xs (((nI (6 * k)) + 1)).toNatClampNeg)]) (rest := []) ⟨hx, hb, hml, hown, hts⟩ (metX2_place l dC dI _ aM aW aT aQ eW eQ S (pd_sd (xs (nI (6 * k) + 1).toNatClampNeg)) (xs (nI (6 * k) + 1).toNatClampNeg) w qf rfl) (cwV 1 hts (lw_V q250 q251 q252 q22 q253) rfl rfl rfl (by decide +kernel) ⟨Nat.le_of_ble_eq_true rfl, Nat.le_of_ble_eq_true rfl⟩) ⟨pd_Pc.blind, va_recv hK hP (ci := 3) (q0 := 4) rfl rfl, pd_pre [4, 5, 7] [3, 5] hP hK hD hE hS hA rfl (by decide) rfl⟩ rfl rfl hl.1 rfl (lv_room (Nat.le_of_ble_eq_true rfl)) dL_law_110 ⟨Nat.le_trans (by omega) hc, Nat.le_trans (by omega) hs⟩) (fun u H locs hw hK hP hD hS => ?_)
        obtain ⟨t2, eT2⟩ := u
        have hP : va_P (dC, dI) vwCl [(aD, .inr (1, [.ref aS, .int S, .int S, .ref aB])), (aB, .inl (kB, (S * S).toNatClampNeg, .inl (pcl w0 T))), (aS, .inr (2, [.ref aV, .int 0, .int 0, .int 0])), (aV, .inl (kV, 72, .inl vf)), (aT, .inl (eT, (S * S).toNatClampNeg, .inl (pmd w0 T))), (aX, .inr (0, [.ref aC, .ref d2, .int (pd_sd (xs (nI (6 * k) + 1).toNatClampNeg))])), (aC, .inl (kC, 72, .inl (pd_wd w))), (d2, .inr (1, [.ref s2, .int (pd_sd (xs (nI (6 * k) + 1).toNatClampNeg)), .int (pd_sd (xs (nI (6 * k) + 1).toNatClampNeg)), .ref b2])), (b2, .inl (kB2, ((pd_sd (xs (nI (6 * k) + 1).toNatClampNeg)) * (pd_sd (xs (nI (6 * k) + 1).toNatClampNeg))).toNatClampNeg, .inl (pcl w (pm_T (pd_sd (xs (nI (6 * k) + 1).toNatClampNeg)))))), (s2, .inr (2, [.ref v2, .int 0, .int 0, .int 0])), (v2, .inl (kV2, 72, .inl (pd_by w))), (aM, .inr (3, [.ref aW, .int (pd_sd (xs (nI (6 * k) + 1).toNatClampNeg)), .ref t2, .ref aQ])), (aW, .inl (eW, 72, .inl (pd_wd w))), (t2, .inl (eT2, ((pd_sd (xs (nI (6 * k) + 1).toNatClampNeg)) * (pd_sd (xs (nI (6 * k) + 1).toNatClampNeg))).toNatClampNeg, .inl (pmd w (pm_T (pd_sd (xs (nI (6 * k) + 1).toNatClampNeg)))))), (aQ, .inl (eQ, 72, .inl (pd_wd w)))] H := hP
        have hD : va_D (fun q : Nat => s.heap.size ≤ q) [(aD, .inr (1, [.ref aS, .int S, .int S, .ref aB])), (aB, .inl (kB, (S * S).toNatClampNeg, .inl (pcl w0 T))), (aS, .inr (2, [.ref aV, .int 0, .int 0, .int 0])), (aV, .inl (kV, 72, .inl vf)), (aT, .inl (eT, (S * S).toNatClampNeg, .inl (pmd w0 T))), (aX, .inr (0, [.ref aC, .ref d2, .int (pd_sd (xs (nI (6 * k) + 1).toNatClampNeg))])), (aC, .inl (kC, 72, .inl (pd_wd w))), (d2, .inr (1, [.ref s2, .int (pd_sd (xs (nI (6 * k) + 1).toNatClampNeg)), .int (pd_sd (xs (nI (6 * k) + 1).toNatClampNeg)), .ref b2])), (b2, .inl (kB2, ((pd_sd (xs (nI (6 * k) + 1).toNatClampNeg)) * (pd_sd (xs (nI (6 * k) + 1).toNatClampNeg))).toNatClampNeg, .inl (pcl w (pm_T (pd_sd (xs (nI (6 * k) + 1).toNatClampNeg)))))), (s2, .inr (2, [.ref v2, .int 0, .int 0, .int 0])), (v2, .inl (kV2, 72, .inl (pd_by w))), (aM, .inr (3, [.ref aW, .int (pd_sd (xs (nI (6 * k) + 1).toNatClampNeg)), .ref t2, .ref aQ])), (aW, .inl (eW, 72, .inl (pd_wd w))), (t2, .inl (eT2, ((pd_sd (xs (nI (6 * k) + 1).toNatClampNeg)) * (pd_sd (xs (nI (6 * k) + 1).toNatClampNeg))).toNatClampNeg, .inl (pmd w (pm_T (pd_sd (xs (nI (6 * k) + 1).toNatClampNeg)))))), (aQ, .inl (eQ, 72, .inl (pd_wd w)))] := hD
        have hK : va_K (dC, dI) vwCl [(kC, .char), (kB, .byte), (kV, .byte), (eW, .int), (eT, .int), (eQ, .int), (kB2, .byte), (kV2, .byte), (eT2, .int)] s := hK
        obtain ⟨hrun, hlen, hok2⟩ := pm_good_spec (pm_S_good (pd_sd_S (xs (nI (6 * k) + 1).toNatClampNeg)))
        refine lv_goto (tgt := 162) hx hb dL_law_113 (by decide) ?_
        refine lv_iinc (v := nI (6 * (k + 1))) (lv' := [(3, .int (nI (6 * (k + 1)))), (0, .ref b), (1, .ref aX), (2, .ref aM)]) hx hb dL_law_162 hl (k := 3) rfl (law_inc k) (by decide) rfl (fun ls hl => ?_)
        refine lv_goto (tgt := 18) hx hb dL_law_165 (by decide) ?_
        refine W.widen (k := 11 + 5 * (k + 1)) (n := 635 + 472 * (k + 1)) (by omega) (by omega) ?_
        have hP := hP.sub (ws' := [(aX, .inr (0, [.ref aC, .ref d2, .int (pd_sd (xs (nI (6 * k) + 1).toNatClampNeg))])), (aC, .inl (kC, 72, .inl (pd_wd w))), (d2, .inr (1, [.ref s2, .int (pd_sd (xs (nI (6 * k) + 1).toNatClampNeg)), .int (pd_sd (xs (nI (6 * k) + 1).toNatClampNeg)), .ref b2])), (b2, .inl (kB2, ((pd_sd (xs (nI (6 * k) + 1).toNatClampNeg)) * (pd_sd (xs (nI (6 * k) + 1).toNatClampNeg))).toNatClampNeg, .inl (pcl w (pm_T (pd_sd (xs (nI (6 * k) + 1).toNatClampNeg)))))), (s2, .inr (2, [.ref v2, .int 0, .int 0, .int 0])), (v2, .inl (kV2, 72, .inl (pd_by w))), (aM, .inr (3, [.ref aW, .int (pd_sd (xs (nI (6 * k) + 1).toNatClampNeg)), .ref t2, .ref aQ])), (aW, .inl (eW, 72, .inl (pd_wd w))), (t2, .inl (eT2, ((pd_sd (xs (nI (6 * k) + 1).toNatClampNeg)) * (pd_sd (xs (nI (6 * k) + 1).toNatClampNeg))).toNatClampNeg, .inl (pmd w (pm_T (pd_sd (xs (nI (6 * k) + 1).toNatClampNeg)))))), (aQ, .inl (eQ, 72, .inl (pd_wd w)))]) [5, 6, 7, 8, 9, 10, 11, 12, 13, 14] rfl
        have hD := hD.sub (ws' := [(aX, .inr (0, [.ref aC, .ref d2, .int (pd_sd (xs (nI (6 * k) + 1).toNatClampNeg))])), (aC, .inl (kC, 72, .inl (pd_wd w))), (d2, .inr (1, [.ref s2, .int (pd_sd (xs (nI (6 * k) + 1).toNatClampNeg)), .int (pd_sd (xs (nI (6 * k) + 1).toNatClampNeg)), .ref b2])), (b2, .inl (kB2, ((pd_sd (xs (nI (6 * k) + 1).toNatClampNeg)) * (pd_sd (xs (nI (6 * k) + 1).toNatClampNeg))).toNatClampNeg, .inl (pcl w (pm_T (pd_sd (xs (nI (6 * k) + 1).toNatClampNeg)))))), (s2, .inr (2, [.ref v2, .int 0, .int 0, .int 0])), (v2, .inl (kV2, 72, .inl (pd_by w))), (aM, .inr (3, [.ref aW, .int (pd_sd (xs (nI (6 * k) + 1).toNatClampNeg)), .ref t2, .ref aQ])), (aW, .inl (eW, 72, .inl (pd_wd w))), (t2, .inl (eT2, ((pd_sd (xs (nI (6 * k) + 1).toNatClampNeg)) * (pd_sd (xs (nI (6 * k) + 1).toNatClampNeg))).toNatClampNeg, .inl (pmd w (pm_T (pd_sd (xs (nI (6 * k) + 1).toNatClampNeg)))))), (aQ, .inl (eQ, 72, .inl (pd_wd w)))]) [5, 6, 7, 8, 9, 10, 11, 12, 13, 14] (by decide) rfl
        have hK := hK.sub (tys' := [(kC, .char), (kB2, .byte), (kV2, .byte), (eW, .int), (eT2, .int), (eQ, .int)]) [0, 6, 7, 3, 8, 5] rfl
        exact ih (k + 1) (by omega) (by omega) _ _ _ _ _ _ hwb hwb (pd_sd_S _) hlen hok2 _ _ _ _ _ _ _ _ _ _ _ _ _ _ _ _ _ _ hK hP hD hS ls (lv_sub hl [1, 2, 3, 0] rfl)
      · refine lv_tableIn (off := 84) (tgt := 116) hx hb dL_law_32 (by decide +kernel) (by decide +kernel) (by decide +kernel) (by decide) ?_
        refine lv_aload_n hx hb dL_law_116 rfl (lv_at hl 1 rfl) ?_
        refine lv_aload_n hx hb dL_law_117 rfl (lv_at hl 0 rfl) ?_
        refine lv_iload_n hx hb dL_law_118 rfl (lv_at hl 3 rfl) ?_
        refine lv_iconst (v := 1) hx hb dL_law_119 (by decide) ?_
        refine lv_iadd hx hb dL_law_120 ?_
        refine va_sld hx hb hX hbl hbA hS hin1 dL_law_121 ?_
        refine lv_aload_n hx hb dL_law_122 rfl (lv_at hl 0 rfl) ?_
        refine lv_iload_n hx hb dL_law_123 rfl (lv_at hl 3 rfl) ?_
        refine lv_iconst (v := 2) hx hb dL_law_124 (by decide) ?_
        refine lv_iadd hx hb dL_law_125 ?_
        refine va_sld hx hb hX hbl hbA hS hin2 dL_law_126 ?_
        refine pd_read (v := (if pcl w0 T ((((xs (nI (6 * k) + 2).toNatClampNeg) &&& 2147483647) - ((xs (nI (6 * k) + 2).toNatClampNeg) &&& 2147483647) / S * S) * S + (((xs (nI (6 * k) + 1).toNatClampNeg) &&& 2147483647) - ((xs (nI (6 * k) + 1).toNatClampNeg) &&& 2147483647) / S * S)).toNatClampNeg = 1 then 1 else 0)) (W.runV (As := [.int (xs (((nI (6 * k)) + 1)).toNatClampNeg), .int (xs (((nI (6 * k)) + 2)).toNatClampNeg)]) (rest := []) ⟨hx, hb, hml, hown, hts⟩ (metX0_bit l dC dI aX aC aD aB aS kB S (pcl w0 T) (xs (nI (6 * k) + 1).toNatClampNeg) (xs (nI (6 * k) + 2).toNatClampNeg) hSS) (cwV 2 hts (lw_V q213 q214 q215 q16 q216) rfl rfl rfl (by decide +kernel) ⟨Nat.le_of_ble_eq_true rfl, Nat.le_of_ble_eq_true rfl⟩) ⟨pd_Pr.blind, va_recv hK hP (ci := 0) (q0 := 0) rfl rfl, pd_prer [0, 2, 3] [1] hP hK hE hS rfl rfl⟩ rfl rfl hl.1 rfl (lv_room (Nat.le_of_ble_eq_true rfl)) dL_law_127 ⟨Nat.le_trans (by omega) hc, Nat.le_trans (by omega) hs⟩) ?_
        refine lv_aload_n hx hb dL_law_130 rfl (lv_at hl 2 rfl) ?_
        refine lv_aload_n hx hb dL_law_131 rfl (lv_at hl 0 rfl) ?_
        refine lv_iload_n hx hb dL_law_132 rfl (lv_at hl 3 rfl) ?_
        refine lv_iconst (v := 1) hx hb dL_law_133 (by decide) ?_
        refine lv_iadd hx hb dL_law_134 ?_
        refine va_sld hx hb hX hbl hbA hS hin1 dL_law_135 ?_
        refine lv_aload_n hx hb dL_law_136 rfl (lv_at hl 0 rfl) ?_
        refine lv_iload_n hx hb dL_law_137 rfl (lv_at hl 3 rfl) ?_
        refine lv_iconst (v := 2) hx hb dL_law_138 (by decide) ?_
        refine lv_iadd hx hb dL_law_139 ?_
        refine va_sld hx hb hX hbl hbA hS hin2 dL_law_140 ?_
        refine pd_read (v := (if pmd w0 T ((((xs (nI (6 * k) + 2).toNatClampNeg) &&& 2147483647) - ((xs (nI (6 * k) + 2).toNatClampNeg) &&& 2147483647) / S * S) * S + (((xs (nI (6 * k) + 1).toNatClampNeg) &&& 2147483647) - ((xs (nI (6 * k) + 1).toNatClampNeg) &&& 2147483647) / S * S)).toNatClampNeg = 2 then 1 else 0)) (W.runV (As := [.int (xs (((nI (6 * k)) + 1)).toNatClampNeg), .int (xs (((nI (6 * k)) + 2)).toNatClampNeg)]) (rest := [.int (if pcl w0 T ((((xs (nI (6 * k) + 2).toNatClampNeg) &&& 2147483647) - ((xs (nI (6 * k) + 2).toNatClampNeg) &&& 2147483647) / S * S) * S + (((xs (nI (6 * k) + 1).toNatClampNeg) &&& 2147483647) - ((xs (nI (6 * k) + 1).toNatClampNeg) &&& 2147483647) / S * S)).toNatClampNeg = 1 then 1 else 0)]) ⟨hx, hb, hml, hown, hts⟩ (metX2_bit l dC dI aM aW aT aQ eT S (pmd w0 T) (xs (nI (6 * k) + 1).toNatClampNeg) (xs (nI (6 * k) + 2).toNatClampNeg) hSS) (cwV 2 hts (lw_V q282 q283 q284 q22 q285) rfl rfl rfl (by decide +kernel) ⟨Nat.le_of_ble_eq_true rfl, Nat.le_of_ble_eq_true rfl⟩) ⟨pd_Pr.blind, va_recv hK hP (ci := 3) (q0 := 6) rfl rfl, pd_prer [6, 8] [4] hP hK hE hS rfl rfl⟩ rfl rfl hl.1 rfl (lv_room (Nat.le_of_ble_eq_true rfl)) dL_law_141 ⟨Nat.le_trans (by omega) hc, Nat.le_trans (by omega) hs⟩) ?_
        refine lv_icmp_eq (tgt := 162) hx hb dL_law_144 (by decide) (fun c4 => ?_) (fun c4 => ?_)
        · refine lv_iinc (v := nI (6 * (k + 1))) (lv' := [(3, .int (nI (6 * (k + 1)))), (0, .ref b), (1, .ref aX), (2, .ref aM)]) hx hb dL_law_162 hl (k := 3) rfl (law_inc k) (by decide) rfl (fun ls hl => ?_)
          refine lv_goto (tgt := 18) hx hb dL_law_165 (by decide) ?_
          refine W.widen (k := 11 + 5 * (k + 1)) (n := 635 + 472 * (k + 1)) (by omega) (by omega) ?_
          have hP := hP.sub (ws' := [(aX, .inr (0, [.ref aC, .ref aD, .int S])), (aC, .inl (kC, 72, .inl (pd_wd w))), (aD, .inr (1, [.ref aS, .int S, .int S, .ref aB])), (aB, .inl (kB, (S * S).toNatClampNeg, .inl (pcl w0 T))), (aS, .inr (2, [.ref aV, .int 0, .int 0, .int 0])), (aV, .inl (kV, 72, .inl vf)), (aM, .inr (3, [.ref aW, .int S, .ref aT, .ref aQ])), (aW, .inl (eW, 72, .inl (pd_wd w))), (aT, .inl (eT, (S * S).toNatClampNeg, .inl (pmd w0 T))), (aQ, .inl (eQ, 72, .inl qf))]) [0, 1, 2, 3, 4, 5, 6, 7, 8, 9] rfl
          have hD := hD.sub (ws' := [(aX, .inr (0, [.ref aC, .ref aD, .int S])), (aC, .inl (kC, 72, .inl (pd_wd w))), (aD, .inr (1, [.ref aS, .int S, .int S, .ref aB])), (aB, .inl (kB, (S * S).toNatClampNeg, .inl (pcl w0 T))), (aS, .inr (2, [.ref aV, .int 0, .int 0, .int 0])), (aV, .inl (kV, 72, .inl vf)), (aM, .inr (3, [.ref aW, .int S, .ref aT, .ref aQ])), (aW, .inl (eW, 72, .inl (pd_wd w))), (aT, .inl (eT, (S * S).toNatClampNeg, .inl (pmd w0 T))), (aQ, .inl (eQ, 72, .inl qf))]) [0, 1, 2, 3, 4, 5, 6, 7, 8, 9] (by decide) rfl
          have hK := hK.sub (tys' := [(kC, .char), (kB, .byte), (kV, .byte), (eW, .int), (eT, .int), (eQ, .int)]) [0, 1, 2, 3, 4, 5] rfl
          exact ih (k + 1) (by omega) (by omega) _ _ _ _ _ _ hwb hw0 hSS hT hok _ _ _ _ _ _ _ _ _ _ _ _ _ _ _ _ _ _ hK hP hD hS ls (lv_sub hl [1, 2, 3, 0] rfl)
        · exact absurd (law_if (pm_same hw0 hok (by rw [hT]; exact vp_lt (pm_bit_in hSS)))) c4
      · refine lv_tableIn (off := 117) (tgt := 149) hx hb dL_law_32 (by decide +kernel) (by decide +kernel) (by decide +kernel) (by decide) ?_
        refine lv_aload_n hx hb dL_law_149 rfl (lv_at hl 1 rfl) ?_
        refine pd_read (v := S) (W.runV (As := []) (rest := []) ⟨hx, hb, hml, hown, hts⟩ (metX0_side l dC dI aX aC aD S) (cwV 0 hts (lw_V q221 q222 q223 q16 q224) rfl rfl rfl (by decide +kernel) ⟨Nat.le_of_ble_eq_true rfl, Nat.le_of_ble_eq_true rfl⟩) ⟨pd_Pr.blind, va_recv hK hP (ci := 0) (q0 := 0) rfl rfl, pd_prer [0] [] hP hK hE hS rfl rfl⟩ rfl rfl hl.1 rfl (lv_room (Nat.le_of_ble_eq_true rfl)) dL_law_150 ⟨Nat.le_trans (by omega) hc, Nat.le_trans (by omega) hs⟩) ?_
        refine lv_aload_n hx hb dL_law_153 rfl (lv_at hl 2 rfl) ?_
        refine pd_read (v := S) (W.runV (As := []) (rest := [.int S]) ⟨hx, hb, hml, hown, hts⟩ (metX2_side l dC dI aM aW aT aQ S) (cwV 0 hts (lw_V q286 q287 q288 q22 q289) rfl rfl rfl (by decide +kernel) ⟨Nat.le_of_ble_eq_true rfl, Nat.le_of_ble_eq_true rfl⟩) ⟨pd_Pr.blind, va_recv hK hP (ci := 3) (q0 := 6) rfl rfl, pd_prer [6] [] hP hK hE hS rfl rfl⟩ rfl rfl hl.1 rfl (lv_room (Nat.le_of_ble_eq_true rfl)) dL_law_154 ⟨Nat.le_trans (by omega) hc, Nat.le_trans (by omega) hs⟩) ?_
        refine lv_icmp_eq (tgt := 162) hx hb dL_law_157 (by decide) (fun c7 => ?_) (fun c7 => ?_)
        · refine lv_iinc (v := nI (6 * (k + 1))) (lv' := [(3, .int (nI (6 * (k + 1)))), (0, .ref b), (1, .ref aX), (2, .ref aM)]) hx hb dL_law_162 hl (k := 3) rfl (law_inc k) (by decide) rfl (fun ls hl => ?_)
          refine lv_goto (tgt := 18) hx hb dL_law_165 (by decide) ?_
          refine W.widen (k := 11 + 5 * (k + 1)) (n := 635 + 472 * (k + 1)) (by omega) (by omega) ?_
          have hP := hP.sub (ws' := [(aX, .inr (0, [.ref aC, .ref aD, .int S])), (aC, .inl (kC, 72, .inl (pd_wd w))), (aD, .inr (1, [.ref aS, .int S, .int S, .ref aB])), (aB, .inl (kB, (S * S).toNatClampNeg, .inl (pcl w0 T))), (aS, .inr (2, [.ref aV, .int 0, .int 0, .int 0])), (aV, .inl (kV, 72, .inl vf)), (aM, .inr (3, [.ref aW, .int S, .ref aT, .ref aQ])), (aW, .inl (eW, 72, .inl (pd_wd w))), (aT, .inl (eT, (S * S).toNatClampNeg, .inl (pmd w0 T))), (aQ, .inl (eQ, 72, .inl qf))]) [0, 1, 2, 3, 4, 5, 6, 7, 8, 9] rfl
          have hD := hD.sub (ws' := [(aX, .inr (0, [.ref aC, .ref aD, .int S])), (aC, .inl (kC, 72, .inl (pd_wd w))), (aD, .inr (1, [.ref aS, .int S, .int S, .ref aB])), (aB, .inl (kB, (S * S).toNatClampNeg, .inl (pcl w0 T))), (aS, .inr (2, [.ref aV, .int 0, .int 0, .int 0])), (aV, .inl (kV, 72, .inl vf)), (aM, .inr (3, [.ref aW, .int S, .ref aT, .ref aQ])), (aW, .inl (eW, 72, .inl (pd_wd w))), (aT, .inl (eT, (S * S).toNatClampNeg, .inl (pmd w0 T))), (aQ, .inl (eQ, 72, .inl qf))]) [0, 1, 2, 3, 4, 5, 6, 7, 8, 9] (by decide) rfl
          have hK := hK.sub (tys' := [(kC, .char), (kB, .byte), (kV, .byte), (eW, .int), (eT, .int), (eQ, .int)]) [0, 1, 2, 3, 4, 5] rfl
          exact ih (k + 1) (by omega) (by omega) _ _ _ _ _ _ hwb hw0 hSS hT hok _ _ _ _ _ _ _ _ _ _ _ _ _ _ _ _ _ _ hK hP hD hS ls (lv_sub hl [1, 2, 3, 0] rfl)
        · exact absurd rfl c7
end
section
/-! THE LAW, from its entry -/
set_option maxHeartbeats 4000000 in
set_option maxRecDepth 100000 in
theorem whole_start {p : Program} {e : Env} {s : State} {m : MethodId} {below : List Frame} {meth : Method} {c : Code} (l : Launch) (hflags : l.flags = flags0) {b L : Nat} {xs : Nat → Int32} (hL : L ≤ 288) (C0 : lw_At p s m meth c b L xs) : W p l e room_1 s m #[Value.ref b] below meth c s.heap [] 0 0 (lw_Z below #[Value.ref b] s) (entryFrame m ([Value.ref b] : List Value).toArray 4) := by
  obtain ⟨hx, hb, hr, hml, hown, hts0, hX, hbl, hlocks, hgv⟩ := id C0
  have hts : ∀ w ∈ lw_all, w.before #[Value.ref b] s = true := fun w h => hts0 w (lw_all_tbl h)
  have hA : ∀ q : Nat, s.heap.size ≤ q → (fun q : Nat => s.heap.size ≤ q) q := fun _ h => h
  have hA2 : ∀ a : Nat, a < s.heap.size → ¬ (fun q : Nat => s.heap.size ≤ q) a := fun a h => Nat.not_le.mpr h
  have hE : pd_E (fun q : Nat => s.heap.size ≤ q) s s.heap := ⟨va_Zof (hts0 _ q45) (hts _ q18) (va_eqi (flat_of_before _ hgv _ (by decide +kernel))) hA2, va_Zqof (hts0 _ q87) (hts _ q20) (flat_of_before _ hgv _ (by decide +kernel)) hA2, va_Fw.of (hts0 _ q162) (hts0 _ q161) (hts0 _ q167) (hts0 _ q165) (hts0 _ q163)⟩
  obtain ⟨c0_, iS0, hKn0⟩ := u_known (C := RX0) (T := TX0) (N := 3) (n := 3) hts0 (fun w h => lw_all_tbl (in_X0 w h)) (hts0 _ (lw_all_tbl q25))
  obtain ⟨c1_, iS1, hKn1⟩ := u_known (C := RX1) (T := TX1) (N := 4) (n := 4) hts0 (fun w h => lw_all_tbl (in_X1 w h)) (hts0 _ (lw_all_tbl q33))
  obtain ⟨c2_, iS2, hKn2⟩ := u_known (C := RJ0) (T := TJ0) (N := 4) (n := 4) hts0 (fun w h => lw_all_tbl (in_J0 w h)) (hts0 _ (lw_all_tbl q35))
  obtain ⟨c3_, iS3, hKn3⟩ := u_known (C := RX2) (T := TX2) (N := 4) (n := 4) hts0 (fun w h => lw_all_tbl (in_X2 w h)) (hts0 _ (lw_all_tbl q226))
  obtain ⟨dC, dI, hKc⟩ : ∃ (dC : Nat → ClassId) (dI : Nat → Nat → Nat), ∀ (k : Nat) (q : vw_C), vwCl[k]? = some q → u_Kn s q.1 q.2.1 q.2.2 (dC k) (dI k) := by
    refine ⟨fun k => if k = 0 then c0_ else if k = 1 then c1_ else if k = 2 then c2_ else c3_, fun k => if k = 0 then iS0 else if k = 1 then iS1 else if k = 2 then iS2 else iS3, ?_⟩
    intro k q hq
    match k, hq with
    | 0, hq => cases hq; exact hKn0
    | 1, hq => cases hq; exact hKn1
    | 2, hq => cases hq; exact hKn2
    | 3, hq => cases hq; exact hKn3
    | k + 4, hq => simp [vwCl] at hq
  have hS : va_S (fun q : Nat => s.heap.size ≤ q) s.heap s.heap [] := va_S.rf
  have hK : va_K (dC, dI) vwCl [] s := ⟨hKc, fun k q h => by simp at h⟩
  have hP : va_P (dC, dI) vwCl [] s.heap := fun k q h => by simp at h
  have hD : va_D (fun q : Nat => s.heap.size ≤ q) [] := ⟨fun i j p q h => by simp at h, fun k q h => by simp at h⟩
  have hl := lv_entry ([.ref b]) (n := 4) (Nat.le_of_ble_eq_true rfl)
  rw [lg_entry_eq]
  generalize (lg_sl ([.ref b]) ++ List.replicate (4 - (lg_sl ([.ref b])).length) Slot.unset).toArray = ls at hl ⊢
  have hl : lv_has ls 4 [(0, .ref b)] := hl
  refine va_new (ci := 0) (fs := [.null, .null, .int 0]) (C := RX0) (T := TX0) (N := 3) hx hb hts in_X0 tyX0 tyX0_ok hown (hts _ q24) (hts _ q25) (hts _ q16) hK hP hD hS hA rfl (fun j hj => by rcases (show j = 0 ∨ j = 1 ∨ j = 2 by omega) with rfl | rfl | rfl <;> rfl) (Nat.le_of_ble_eq_true rfl) (Nat.le_of_ble_eq_true rfl) dL_law_0 (fun aX H hP hD hS => ?_)
  have hP : va_P (dC, dI) vwCl [(aX, .inr (0, [.null, .null, .int 0]))] H := hP
  have hD : va_D (fun q : Nat => s.heap.size ≤ q) [(aX, .inr (0, [.null, .null, .int 0]))] := hD
  refine W.widen (k := 1) (n := 3) (Nat.le_of_ble_eq_true rfl) (Nat.le_of_ble_eq_true rfl) ?_
  refine lv_dup hx hb dL_law_3 rfl ?_
  refine pd_goA (ws := [(aX, .inr (0, [.null, .null, .int 0]))]) (wc := [(aX, .inr (0, [.null, .null, .int 0]))]) (wr := []) [0] [] hK hP hD hS hA rfl rfl (by decide) (by decide) (va_runI (As := []) (rest := [.ref aX]) ⟨hx, hb, hml, hown, hts⟩ (metX0_init l dC dI _ aX) (cwI 0 hts (lw_meth q28) rfl rfl rfl (hts _ q16) (hts _ q26) (hts _ q27) rfl (by decide +kernel) ⟨Nat.le_of_ble_eq_true rfl, Nat.le_of_ble_eq_true rfl⟩) ⟨pd_Pc.blind, pd_pre [0] [] hP hK hD hE hS hA rfl (by decide) rfl⟩ rfl rfl hl.1 rfl (lv_room (Nat.le_of_ble_eq_true rfl)) dL_law_4 ⟨Nat.le_of_ble_eq_true rfl, Nat.le_of_ble_eq_true rfl⟩) (fun u H locs hw hK hP hD hS => ?_)
  obtain ⟨aC, aD, aB, aS, aV, kC, kB, kV⟩ := u
  have hP : va_P (dC, dI) vwCl [(aX, .inr (0, [.ref aC, .ref aD, .int 8])), (aC, .inl (kC, 72, .inl (pd_wd (fun _ => 0)))), (aD, .inr (1, [.ref aS, .int 8, .int 8, .ref aB])), (aB, .inl (kB, 64, .inl (fun _ => -1))), (aS, .inr (2, [.ref aV, .int 0, .int 0, .int 0])), (aV, .inl (kV, 72, .inl (pd_by (fun _ => 0))))] H := hP
  have hD : va_D (fun q : Nat => s.heap.size ≤ q) [(aX, .inr (0, [.ref aC, .ref aD, .int 8])), (aC, .inl (kC, 72, .inl (pd_wd (fun _ => 0)))), (aD, .inr (1, [.ref aS, .int 8, .int 8, .ref aB])), (aB, .inl (kB, 64, .inl (fun _ => -1))), (aS, .inr (2, [.ref aV, .int 0, .int 0, .int 0])), (aV, .inl (kV, 72, .inl (pd_by (fun _ => 0))))] := hD
  have hK : va_K (dC, dI) vwCl [(kC, .char), (kB, .byte), (kV, .byte)] s := hK
  refine W.widen (k := 7) (n := 423) (Nat.le_of_ble_eq_true rfl) (Nat.le_of_ble_eq_true rfl) ?_
  refine lv_astore_n (lv' := [(1, .ref aX), (0, .ref b)]) hx hb dL_law_7 rfl hl (by decide) rfl (fun ls hl => ?_)
  refine va_new (ci := 3) (fs := [.null, .int 0, .null, .null]) (C := RX2) (T := TX2) (N := 4) hx hb hts in_X2 tyX2 tyX2_ok hown (hts _ q225) (hts _ q226) (hts _ q22) hK hP hD hS hA rfl (fun j hj => by rcases (show j = 0 ∨ j = 1 ∨ j = 2 ∨ j = 3 by omega) with rfl | rfl | rfl | rfl <;> rfl) (Nat.le_of_ble_eq_true rfl) (Nat.le_of_ble_eq_true rfl) dL_law_8 (fun aM H hP hD hS => ?_)
  have hP : va_P (dC, dI) vwCl [(aX, .inr (0, [.ref aC, .ref aD, .int 8])), (aC, .inl (kC, 72, .inl (pd_wd (fun _ => 0)))), (aD, .inr (1, [.ref aS, .int 8, .int 8, .ref aB])), (aB, .inl (kB, 64, .inl (fun _ => -1))), (aS, .inr (2, [.ref aV, .int 0, .int 0, .int 0])), (aV, .inl (kV, 72, .inl (pd_by (fun _ => 0)))), (aM, .inr (3, [.null, .int 0, .null, .null]))] H := hP
  have hD : va_D (fun q : Nat => s.heap.size ≤ q) [(aX, .inr (0, [.ref aC, .ref aD, .int 8])), (aC, .inl (kC, 72, .inl (pd_wd (fun _ => 0)))), (aD, .inr (1, [.ref aS, .int 8, .int 8, .ref aB])), (aB, .inl (kB, 64, .inl (fun _ => -1))), (aS, .inr (2, [.ref aV, .int 0, .int 0, .int 0])), (aV, .inl (kV, 72, .inl (pd_by (fun _ => 0)))), (aM, .inr (3, [.null, .int 0, .null, .null]))] := hD
  refine W.widen (k := 8) (n := 427) (Nat.le_of_ble_eq_true rfl) (Nat.le_of_ble_eq_true rfl) ?_
  refine lv_dup hx hb dL_law_11 rfl ?_
  refine pd_goA (ws := [(aX, .inr (0, [.ref aC, .ref aD, .int 8])), (aC, .inl (kC, 72, .inl (pd_wd (fun _ => 0)))), (aD, .inr (1, [.ref aS, .int 8, .int 8, .ref aB])), (aB, .inl (kB, 64, .inl (fun _ => -1))), (aS, .inr (2, [.ref aV, .int 0, .int 0, .int 0])), (aV, .inl (kV, 72, .inl (pd_by (fun _ => 0)))), (aM, .inr (3, [.null, .int 0, .null, .null]))]) (wc := [(aM, .inr (3, [.null, .int 0, .null, .null]))]) (wr := [(aX, .inr (0, [.ref aC, .ref aD, .int 8])), (aC, .inl (kC, 72, .inl (pd_wd (fun _ => 0)))), (aD, .inr (1, [.ref aS, .int 8, .int 8, .ref aB])), (aB, .inl (kB, 64, .inl (fun _ => -1))), (aS, .inr (2, [.ref aV, .int 0, .int 0, .int 0])), (aV, .inl (kV, 72, .inl (pd_by (fun _ => 0))))]) [6] [0, 1, 2, 3, 4, 5] hK hP hD hS hA rfl rfl (by decide) (by decide) (va_runI (As := []) (rest := [.ref aM]) ⟨hx, hb, hml, hown, hts⟩ (metX2_init l dC dI _ aM) (cwI 0 hts (lw_meth q229) rfl rfl rfl (hts _ q22) (hts _ q227) (hts _ q228) rfl (by decide +kernel) ⟨Nat.le_of_ble_eq_true rfl, Nat.le_of_ble_eq_true rfl⟩) ⟨pd_Pc.blind, pd_pre [6] [] hP hK hD hE hS hA rfl (by decide) rfl⟩ rfl rfl hl.1 rfl (lv_room (Nat.le_of_ble_eq_true rfl)) dL_law_12 ⟨Nat.le_of_ble_eq_true rfl, Nat.le_of_ble_eq_true rfl⟩) (fun u H locs hw hK hP hD hS => ?_)
  obtain ⟨aW, aT, aQ, eW, eT, eQ⟩ := u
  have hP : va_P (dC, dI) vwCl [(aX, .inr (0, [.ref aC, .ref aD, .int 8])), (aC, .inl (kC, 72, .inl (pd_wd (fun _ => 0)))), (aD, .inr (1, [.ref aS, .int 8, .int 8, .ref aB])), (aB, .inl (kB, 64, .inl (fun _ => -1))), (aS, .inr (2, [.ref aV, .int 0, .int 0, .int 0])), (aV, .inl (kV, 72, .inl (pd_by (fun _ => 0)))), (aM, .inr (3, [.ref aW, .int 8, .ref aT, .ref aQ])), (aW, .inl (eW, 72, .inl (fun _ => 0))), (aT, .inl (eT, 64, .inl (fun _ => 0))), (aQ, .inl (eQ, 72, .inl (fun _ => 0)))] H := hP
  have hD : va_D (fun q : Nat => s.heap.size ≤ q) [(aX, .inr (0, [.ref aC, .ref aD, .int 8])), (aC, .inl (kC, 72, .inl (pd_wd (fun _ => 0)))), (aD, .inr (1, [.ref aS, .int 8, .int 8, .ref aB])), (aB, .inl (kB, 64, .inl (fun _ => -1))), (aS, .inr (2, [.ref aV, .int 0, .int 0, .int 0])), (aV, .inl (kV, 72, .inl (pd_by (fun _ => 0)))), (aM, .inr (3, [.ref aW, .int 8, .ref aT, .ref aQ])), (aW, .inl (eW, 72, .inl (fun _ => 0))), (aT, .inl (eT, 64, .inl (fun _ => 0))), (aQ, .inl (eQ, 72, .inl (fun _ => 0)))] := hD
  have hK : va_K (dC, dI) vwCl [(kC, .char), (kB, .byte), (kV, .byte), (eW, .int), (eT, .int), (eQ, .int)] s := hK
  refine W.widen (k := 11) (n := 635) (Nat.le_of_ble_eq_true rfl) (Nat.le_of_ble_eq_true rfl) ?_
  refine lv_astore_n (lv' := [(2, .ref aM), (1, .ref aX), (0, .ref b)]) hx hb dL_law_15 rfl hl (by decide) rfl (fun ls hl => ?_)
  refine lv_iconst (v := 0) hx hb dL_law_16 (by decide) ?_
  refine lv_istore_n (lv' := [(3, .int 0), (2, .ref aM), (1, .ref aX), (0, .ref b)]) hx hb dL_law_17 rfl hl (by decide) rfl (fun ls hl => ?_)
  obtain ⟨hP, hD⟩ := pd_arrP (g := (pd_wd (fun _ => 0))) 7 hP hD rfl (fun j _ => rfl)
  have hP : va_P (dC, dI) vwCl [(aX, .inr (0, [.ref aC, .ref aD, .int 8])), (aC, .inl (kC, 72, .inl (pd_wd (fun _ => 0)))), (aD, .inr (1, [.ref aS, .int 8, .int 8, .ref aB])), (aB, .inl (kB, 64, .inl (fun _ => -1))), (aS, .inr (2, [.ref aV, .int 0, .int 0, .int 0])), (aV, .inl (kV, 72, .inl (pd_by (fun _ => 0)))), (aM, .inr (3, [.ref aW, .int 8, .ref aT, .ref aQ])), (aW, .inl (eW, 72, .inl (pd_wd (fun _ => 0)))), (aT, .inl (eT, 64, .inl (fun _ => 0))), (aQ, .inl (eQ, 72, .inl (fun _ => 0)))] H := hP
  have hD : va_D (fun q : Nat => s.heap.size ≤ q) [(aX, .inr (0, [.ref aC, .ref aD, .int 8])), (aC, .inl (kC, 72, .inl (pd_wd (fun _ => 0)))), (aD, .inr (1, [.ref aS, .int 8, .int 8, .ref aB])), (aB, .inl (kB, 64, .inl (fun _ => -1))), (aS, .inr (2, [.ref aV, .int 0, .int 0, .int 0])), (aV, .inl (kV, 72, .inl (pd_by (fun _ => 0)))), (aM, .inr (3, [.ref aW, .int 8, .ref aT, .ref aQ])), (aW, .inl (eW, 72, .inl (pd_wd (fun _ => 0)))), (aT, .inl (eT, 64, .inl (fun _ => 0))), (aQ, .inl (eQ, 72, .inl (fun _ => 0)))] := hD
  obtain ⟨hP, hD⟩ := pd_arrP (g := (pcl (fun _ => 0) (pm_nil 8))) 3 hP hD rfl (fun j _ => by rw [pcl_nil])
  have hP : va_P (dC, dI) vwCl [(aX, .inr (0, [.ref aC, .ref aD, .int 8])), (aC, .inl (kC, 72, .inl (pd_wd (fun _ => 0)))), (aD, .inr (1, [.ref aS, .int 8, .int 8, .ref aB])), (aB, .inl (kB, 64, .inl (pcl (fun _ => 0) (pm_nil 8)))), (aS, .inr (2, [.ref aV, .int 0, .int 0, .int 0])), (aV, .inl (kV, 72, .inl (pd_by (fun _ => 0)))), (aM, .inr (3, [.ref aW, .int 8, .ref aT, .ref aQ])), (aW, .inl (eW, 72, .inl (pd_wd (fun _ => 0)))), (aT, .inl (eT, 64, .inl (fun _ => 0))), (aQ, .inl (eQ, 72, .inl (fun _ => 0)))] H := hP
  have hD : va_D (fun q : Nat => s.heap.size ≤ q) [(aX, .inr (0, [.ref aC, .ref aD, .int 8])), (aC, .inl (kC, 72, .inl (pd_wd (fun _ => 0)))), (aD, .inr (1, [.ref aS, .int 8, .int 8, .ref aB])), (aB, .inl (kB, 64, .inl (pcl (fun _ => 0) (pm_nil 8)))), (aS, .inr (2, [.ref aV, .int 0, .int 0, .int 0])), (aV, .inl (kV, 72, .inl (pd_by (fun _ => 0)))), (aM, .inr (3, [.ref aW, .int 8, .ref aT, .ref aQ])), (aW, .inl (eW, 72, .inl (pd_wd (fun _ => 0)))), (aT, .inl (eT, 64, .inl (fun _ => 0))), (aQ, .inl (eQ, 72, .inl (fun _ => 0)))] := hD
  obtain ⟨hP, hD⟩ := pd_arrP (g := (pmd (fun _ => 0) (pm_nil 8))) 8 hP hD rfl (fun j _ => by rw [pmd_nil])
  have hP : va_P (dC, dI) vwCl [(aX, .inr (0, [.ref aC, .ref aD, .int 8])), (aC, .inl (kC, 72, .inl (pd_wd (fun _ => 0)))), (aD, .inr (1, [.ref aS, .int 8, .int 8, .ref aB])), (aB, .inl (kB, 64, .inl (pcl (fun _ => 0) (pm_nil 8)))), (aS, .inr (2, [.ref aV, .int 0, .int 0, .int 0])), (aV, .inl (kV, 72, .inl (pd_by (fun _ => 0)))), (aM, .inr (3, [.ref aW, .int 8, .ref aT, .ref aQ])), (aW, .inl (eW, 72, .inl (pd_wd (fun _ => 0)))), (aT, .inl (eT, 64, .inl (pmd (fun _ => 0) (pm_nil 8)))), (aQ, .inl (eQ, 72, .inl (fun _ => 0)))] H := hP
  have hD : va_D (fun q : Nat => s.heap.size ≤ q) [(aX, .inr (0, [.ref aC, .ref aD, .int 8])), (aC, .inl (kC, 72, .inl (pd_wd (fun _ => 0)))), (aD, .inr (1, [.ref aS, .int 8, .int 8, .ref aB])), (aB, .inl (kB, 64, .inl (pcl (fun _ => 0) (pm_nil 8)))), (aS, .inr (2, [.ref aV, .int 0, .int 0, .int 0])), (aV, .inl (kV, 72, .inl (pd_by (fun _ => 0)))), (aM, .inr (3, [.ref aW, .int 8, .ref aT, .ref aQ])), (aW, .inl (eW, 72, .inl (pd_wd (fun _ => 0)))), (aT, .inl (eT, 64, .inl (pmd (fun _ => 0) (pm_nil 8)))), (aQ, .inl (eQ, 72, .inl (fun _ => 0)))] := hD
  rw [show (64 : Nat) = ((8 : Int32) * 8).toNatClampNeg by decide +kernel] at hP hD
  have hP : va_P (dC, dI) vwCl [(aX, .inr (0, [.ref aC, .ref aD, .int 8])), (aC, .inl (kC, 72, .inl (pd_wd (fun _ => 0)))), (aD, .inr (1, [.ref aS, .int 8, .int 8, .ref aB])), (aB, .inl (kB, ((8 : Int32) * 8).toNatClampNeg, .inl (pcl (fun _ => 0) (pm_nil 8)))), (aS, .inr (2, [.ref aV, .int 0, .int 0, .int 0])), (aV, .inl (kV, 72, .inl (pd_by (fun _ => 0)))), (aM, .inr (3, [.ref aW, .int 8, .ref aT, .ref aQ])), (aW, .inl (eW, 72, .inl (pd_wd (fun _ => 0)))), (aT, .inl (eT, ((8 : Int32) * 8).toNatClampNeg, .inl (pmd (fun _ => 0) (pm_nil 8)))), (aQ, .inl (eQ, 72, .inl (fun _ => 0)))] H := hP
  have hD : va_D (fun q : Nat => s.heap.size ≤ q) [(aX, .inr (0, [.ref aC, .ref aD, .int 8])), (aC, .inl (kC, 72, .inl (pd_wd (fun _ => 0)))), (aD, .inr (1, [.ref aS, .int 8, .int 8, .ref aB])), (aB, .inl (kB, ((8 : Int32) * 8).toNatClampNeg, .inl (pcl (fun _ => 0) (pm_nil 8)))), (aS, .inr (2, [.ref aV, .int 0, .int 0, .int 0])), (aV, .inl (kV, 72, .inl (pd_by (fun _ => 0)))), (aM, .inr (3, [.ref aW, .int 8, .ref aT, .ref aQ])), (aW, .inl (eW, 72, .inl (pd_wd (fun _ => 0)))), (aT, .inl (eT, ((8 : Int32) * 8).toNatClampNeg, .inl (pmd (fun _ => 0) (pm_nil 8)))), (aQ, .inl (eQ, 72, .inl (fun _ => 0)))] := hD
  exact law_loop hL C0 hE (L + 1) 0 (by omega) (by omega) _ _ 8 (pm_nil 8) _ _ (fun _ => by decide) (fun _ => by decide) (Or.inl rfl) (pm_nil_len 8) pm_nil_ok _ _ _ _ _ _ _ _ _ _ _ _ _ _ _ _ _ _ hK hP hD hS ls (lv_sub hl [3, 2, 1, 0] rfl)
end
section
set_option maxHeartbeats 4000000 in
theorem lw_walk (l : Launch) (hflags : l.flags = flags0) (b : Addr) (xs : List Int32) : MetFree l x (headSpec (Jvm.Cond.code x code maxLocals ret :: tables_1) room_1) (lw_P b xs) (fun _ _ _ _ _ => True) lw_Q := by
  refine MetFree.of_bodyS (code := code) (maxLocals := maxLocals) (ret := ret) (by decide) ?_ ?_
  · intro args s m h hn
    obtain ⟨meth, c, h1, h2, h3, h4, h5, h6, -, -⟩ := Cond.code_spec hn (atoms_spec (ws := Jvm.Cond.code x code maxLocals ret :: tables_1) h _ List.mem_cons_self)
    exact ⟨meth, c, h1, h2, h3, h4, h5, h6⟩
  · intro p e s m args below meth c s₁ B hml0 hP _
    obtain ⟨rfl, hx, hbd, hgv⟩ := hP
    obtain ⟨scr, harrAt, hlist, hof, hsmall⟩ := hx
    obtain ⟨hcb, hkn, -, -⟩ := State.arrayAt?_spec harrAt
    have hown : s.vm.findClass R_law = some m.cls := findClass_of_methodNamed B.named
    have hts0 : ∀ c ∈ (Jvm.Cond.code x code maxLocals ret :: tables_1), c.before #[Value.ref b] s = true := atoms_spec (ws := Jvm.Cond.code x code maxLocals ret :: tables_1) B.pre
    have hts : ∀ w ∈ lw_tbl, w.before #[Value.ref b] s = true := k2_hts_sels lw_privs (fun w hw => hts0 w (List.mem_cons_of_mem _ hw)) lw_privs_ok
    have hml : c.maxLocals = 4 := B.maxLocals_eq (hts0 _ List.mem_cons_self)
    have X₀ : Stand p l e room_1 s m #[Value.ref b] below meth c s₁ [] 0 0 := Stand.of_body B
    have hh0 : s₁.heap = s.heap := by rw [B.state]; rfl
    have hsz : scr.slots.size = xs.length := by rw [← Array.length_toList, hlist, List.length_map]
    have hval : ∀ j : Nat, j < xs.length → scr.slots[j]? = some (.int (xs.getD j 0)) := fun j hj => by
      rw [← Array.getElem?_toList, hlist]
      simp [hj]
    have hbl : b < s.heap.size := (Array.getElem?_eq_some_iff.mp hcb).1
    have hX : va_X b xs.length (fun j => xs.getD j 0) s s.heap := ⟨scr, hcb, hof, hkn, hsz, hval⟩
    have K : W p l e room_1 s m #[Value.ref b] below meth c s₁.heap [] 0 0 (lw_Z below #[Value.ref b] s) (entryFrame m ([Value.ref b] : List Value).toArray 4) := by
      rw [hh0]
      exact whole_start l hflags hbd ⟨B.exec, B.bytes, B.returns, hml, hown, hts, hX, hbl, B.notSynchronized, hgv⟩
    obtain ⟨t, a1, o, b1, b2, b3⟩ := K s₁ rfl X₀
    exact ⟨t, o, a1, b1, b2, b3⟩
theorem lw_pre_spec {args : Array Value} {s : State} (h : (Jvm.Cond.and given_1 narrow_1).before args s = true) (hr : rest_1_c.before args s = true) : ∃ (b : Addr) (xs : List Int32), lw_P b xs args s := by
  have hs := flat_of_before _ h
  have hq := flat_of_before _ hr
  have hc : (Cond.count 1).before args s = true := hs _ (by decide +kernel)
  have harr : (Cond.arrayOf (.arg 0) .int).before args s = true := hs _ (by decide +kernel)
  have hle : (Cond.le (.length (.arg 0)) (.int 288)).before args s = true := hs _ (by decide +kernel)
  have hlen : (Cond.isInt (.length (.arg 0))).before args s = true := hq _ (by decide +kernel)
  have hall : (Cond.all (.arg 0) (.isInt (.elem (.arg 0) (.index 0)))).before args s = true := hq _ (by decide +kernel)
  obtain ⟨b, xs, hb, hx⟩ := State.ints_of_pre rfl harr hlen hall
  have hsm : xs.length < 2 ^ 31 := hx.choose_spec.2.2.2
  have hev : (Term.length (.arg 0)).eval args s none [] s = some (.int xs.length.toInt32) := hx.length_eval hb
  have hv := Cond.le_ints hev (show (Term.int 288).eval args s none [] s = some (.int 288) from rfl)
  have hd : xs.length.toInt32 ≤ 288 := by
    simpa [Cond.before, Cond.holds, hv] using hle
  have hN : xs.length ≤ 288 := (Int32.ofNat_le_ofNat hsm (by decide)).mp (show Int32.ofNat xs.length ≤ Int32.ofNat 288 from hd)
  exact ⟨b, xs, Cond.one_arg hc (show args[0]? = some (.ref b) from hb), hx, hN, h⟩
theorem lw_comes (l : Launch) (hflags : l.flags = flags0) : Comes l x (Jvm.Cond.code x code maxLocals ret :: tables_1) room_1 (fun tb e args s => Calls_1 tb e args s ∧ rest_1 tb e args s ∧ Pre_1 tb e args s)
    (fun _ _ args s o t => lw_Q args s o t) := by
  intro p e ha hc hk s m args below hf hfit hheap happ hpre
  obtain ⟨b, xs, hP⟩ := lw_pre_spec hpre.2.2 hpre.2.1
  obtain ⟨k, o, h1, h2, h3, hQ⟩ := lw_walk l hflags b xs p e ha hc hk s m args below hf ((Spec.applies_iff_loose hf).mp happ).1 hP trivial
  exact ⟨k, o, h1, h2, h3, hQ⟩
theorem lw_frame {s t : State} {o : Outcome} {args : Array Value} (h : Framed s o t [] 1200000 5502250) :
    Framed s o t (fieldLocs frame_1_writes args s ++ arrayLocs frame_1_arrays args s ++ staticLocs frame_1_statics s) 1200000 5502250 := h
theorem lw_limb (L : Cond) (hL : ∀ (args : Array Value) (s t : State), L.after args s (.returned (some (.int 1))) t = true) :
    ArmFor flags0 classFile x code maxLocals ret World_1 tables_1 room_1 Calls_1 rest_1 Pre_1
      (fun tb e a s o t => postC L tb e a s o t ∧ Framed s o t (fieldLocs frame_1_writes a s ++ arrayLocs frame_1_arrays a s ++ staticLocs frame_1_statics s) 1200000 5502250) := by
  intro l hflags _ _ p e ha hc hk s m args below hf hfit hheap happ hpre
  obtain ⟨k, o, h1, h2, h3, rfl, hF⟩ := lw_comes l hflags p e ha hc hk s m args below hf hfit hheap happ hpre
  exact ⟨k, _, h1, h2, h3, hL args s _, lw_frame hF⟩
theorem i_vc : Claimed_1_1 ∧ Claimed_1_2 := ⟨lw_limb limb_1_1 (fun args s t => by simp [limb_1_1, Cond.after, Cond.holds, Cond.value]), lw_limb limb_1_2 (fun args s t => Cond.after_iff.mpr (by
  first | (rw [show limb_1_2 = Cond.eq .result (.int 1) from rfl, Cond.eq_ints (x := 1) (y := 1) rfl rfl]; simp; done) | (simp [limb_1_2, Cond.value, Term.eval]; done)))⟩
end
