import Derived.Test.YtamkglgiaiejkaaGreatDoorYx24
/-! Walks over slots that are not written out: an activation by what some of its slots hold. -/
namespace Go.Proofs.YtamkglgiaiejkaaGreatDoor
open Go
theorem ev_eq {a : Act} {d : Nat} {v : Value} (h : d < a.tmps.size) : (a.put (some d) v).eval (.tmp d) = v := by
  show (a.tmps.setIfInBounds d v).getD d undef = v
  simp only [Array.getD_eq_getD_getElem?, Array.getElem?_setIfInBounds_self, if_pos h, Option.getD_some]
theorem ev_ne {a : Act} {d k : Nat} {v : Value} (h : d ≠ k) : (a.put (some d) v).eval (.tmp k) = a.eval (.tmp k) := by
  show (a.tmps.setIfInBounds d v).getD k undef = a.tmps.getD k undef
  simp only [Array.getD_eq_getD_getElem?, Array.getElem?_setIfInBounds_ne h]
theorem sz_put {a : Act} {d : Nat} {v : Value} : (a.put (some d) v).tmps.size = a.tmps.size := by
  show (a.tmps.setIfInBounds d v).size = _
  simp
/-- One activation after another: slots below s are as they were. -/
structure Fr (s : Nat) (A A' : Act) : Prop where
  size : A'.tmps.size = A.tmps.size
  defers : A'.defers = A.defers
  same : ∀ k, k < s → A'.eval (.tmp k) = A.eval (.tmp k)
theorem Fr.refl (s : Nat) (A : Act) : Fr s A A := ⟨rfl, rfl, fun _ _ => rfl⟩
theorem Fr.trans {s s' : Nat} {A B C : Act} (h : Fr s A B) (h' : Fr s' B C) (hs : s ≤ s') : Fr s A C := ⟨h'.size.trans h.size, h'.defers.trans h.defers, fun k hk => (h'.same k (by omega)).trans (h.same k hk)⟩
theorem Fr.put {s d : Nat} {A B : Act} {v : Value} (h : Fr s A B) (hd : s ≤ d) : Fr s A (B.put (some d) v) := ⟨sz_put.trans h.size, h.defers, fun k hk => (ev_ne (by omega)).trans (h.same k hk)⟩
/-- What the operations of a region write, do, and whether they are guarded. -/
def Desc (l : List Oper) (D : List (Option Tmp × Op × Option (Nat × Bool))) : Prop := l.map (fun o => (o.dst, o.op, o.guard)) = D
theorem Desc.at {l : List Oper} {D : List (Option Tmp × Op × Option (Nat × Bool))} (h : Desc l D) (i : Nat) {d : Option Tmp} {p : Op} {g : Option (Nat × Bool)} (hi : D[i]? = some (d, p, g)) : ∃ o, l[i]? = some o ∧ o.dst = d ∧ o.op = p ∧ o.guard = g := by
  unfold Desc at h
  rw [← h, List.getElem?_map] at hi
  obtain ⟨o, ho, e⟩ := Option.map_eq_some_iff.1 hi
  simp only [Prod.mk.injEq] at e
  exact ⟨o, ho, e.1, e.2.1, e.2.2⟩
theorem Desc.cons {l : List Oper} {D : List (Option Tmp × Op × Option (Nat × Bool))} {d : Option Tmp} {p : Op} {g : Option (Nat × Bool)} (h : Desc l ((d, p, g) :: D)) : ∃ o l', l = o :: l' ∧ o.dst = d ∧ o.op = p ∧ o.guard = g ∧ Desc l' D := by
  obtain ⟨o, l', rfl, e, h'⟩ := List.map_eq_cons_iff.1 h
  simp only [Prod.mk.injEq] at e
  exact ⟨o, l', rfl, e.1, e.2.1, e.2.2, h'⟩
theorem Desc.nil {l : List Oper} (h : Desc l []) : l = [] := List.map_eq_nil_iff.1 h
/-- The order in which operations are taken: those that may be taken ahead of their place, those that come up alone. -/
def lexB (md : Region.Mode) (ops : Array Oper) : List (Nat × Bool) → Array Bool → Bool
  | [], listed => (Region.ready md ops listed).isEmpty
  | (i, true) :: is, listed => takeB md ops listed i && lexB md ops is (listed.setIfInBounds i true)
  | (i, false) :: is, listed => (Region.ready md ops listed == [i]) && lexB md ops is (listed.setIfInBounds i true)
/-- The same, and what is to hold of what has come up. -/
def lexK (md : Region.Mode) (ops : Array Oper) (K : Array Bool → Bool) : List (Nat × Bool) → Array Bool → Bool
  | [], listed => K listed
  | (i, true) :: is, listed => takeB md ops listed i && lexK md ops K is (listed.setIfInBounds i true)
  | (i, false) :: is, listed => (Region.ready md ops listed == [i]) && lexK md ops K is (listed.setIfInBounds i true)
section
variable {P : Program} {md : Region.Mode} {Q : Exit → Act → World → Prop} {C : World → Prop}
/-- The post does not look at the slots when it panics. -/
def Blind (Q : Exit → Act → World → Prop) : Prop := ∀ c a d v w, Q (.panic c) (a.put (some d) v) w → Q (.panic c) a w
theorem wpC_takeR {l : List Oper} {D : List (Option Tmp × Op × Option (Nat × Bool))} (hD : Desc l D) (hQ : Blind Q) (i d : Nat) (p : Op) (v : Value) {is : List (Nat × Bool)} {listed : Array Bool} {g : Nat} {a : Act} {w : World}
    (hB : lexB md l.toArray ((i, true) :: is) listed = true) (hi : D[i]? = some (some d, p, none))
    (hv : ∀ (o : Oper) (ρ : Operand → Value) (w' : World), o.op = p → ρ = a.eval → C w' → (execOp ρ o).run P w' = .ok (.value v) w')
    (h : lexB md l.toArray is (listed.setIfInBounds i true) = true → wpC P md l.toArray Q C g (listed.setIfInBounds i true) (a.put (some d) v) w) : wpC P md l.toArray Q C (g + 1) listed a w := by
  simp only [lexB, Bool.and_eq_true] at hB
  obtain ⟨o, ho, hd, hp, hg⟩ := hD.at i hi
  refine wpC_take i (v := v) hB.1 ho hg (fun c a w h => by rw [hd] at h; exact hQ _ _ _ _ _ h) (fun w' hC => hv o _ w' hp rfl hC) ?_
  rw [hd]
  exact h hB.2
theorem wpC_takeK {l : List Oper} {D : List (Option Tmp × Op × Option (Nat × Bool))} {KK : Array Bool → Bool} (hD : Desc l D) (hQ : Blind Q) (i d : Nat) (p : Op) (v : Value) {is : List (Nat × Bool)} {listed : Array Bool} {g : Nat} {a : Act} {w : World}
    (hB : lexK md l.toArray KK ((i, true) :: is) listed = true) (hi : D[i]? = some (some d, p, none))
    (hv : ∀ (o : Oper) (ρ : Operand → Value) (w' : World), o.op = p → ρ = a.eval → C w' → (execOp ρ o).run P w' = .ok (.value v) w')
    (h : lexK md l.toArray KK is (listed.setIfInBounds i true) = true → wpC P md l.toArray Q C g (listed.setIfInBounds i true) (a.put (some d) v) w) : wpC P md l.toArray Q C (g + 1) listed a w := by
  simp only [lexK, Bool.and_eq_true] at hB
  obtain ⟨o, ho, hd, hp, hg⟩ := hD.at i hi
  refine wpC_take i (v := v) hB.1 ho hg (fun c a w h => by rw [hd] at h; exact hQ _ _ _ _ _ h) (fun w' hC => hv o _ w' hp rfl hC) ?_
  rw [hd]
  exact h hB.2
theorem wpC_callR {l : List Oper} {D : List (Option Tmp × Op × Option (Nat × Bool))} (hD : Desc l D) (i : Nat) (d : Option Tmp) (p : Op) {is : List (Nat × Bool)} {listed : Array Bool} {g : Nat} {a : Act} {w : World}
    (hB : lexB md l.toArray ((i, false) :: is) listed = true) (hi : D[i]? = some (d, p, none)) (hC : C w)
    (h : ∀ o : Oper, o.dst = d → o.op = p → o.guard = none → lexB md l.toArray is (listed.setIfInBounds i true) = true → wpList P l.toArray (Exit.then (wpC P md l.toArray Q C g (listed.setIfInBounds i true)) Q) [o] a w) : wpC P md l.toArray Q C (g + 1) listed a w := by
  simp only [lexB, Bool.and_eq_true, beq_iff_eq] at hB
  obtain ⟨o, ho, hd, hp, hg⟩ := hD.at i hi
  exact wpC_only i hB.1 hC ho (h o hd hp hg hB.2)
theorem wpC_stopR {l : List Oper} {listed : Array Bool} {f : Nat} {a : Act} {w : World} (hB : lexB md l.toArray [] listed = true) (hC : C w) (h : Q .normal a w) : wpC P md l.toArray Q C f listed a w :=
  wpC_stop (by simpa [lexB] using hB) hC h
/-- Whether a guarded operation is wanted. -/
theorem wanted_iff {l : List Oper} {o oj : Oper} {j dj : Nat} {want : Bool} {a : Act} (hg : o.guard = some (j, want)) (hj : l[j]? = some oj) (hd : oj.dst = some dj) (hs : dj < a.tmps.size) : Region.wanted o (yielded l.toArray a.tmps) = true ↔ a.eval (.tmp dj) = .bool want := by
  unfold Region.wanted
  rw [hg]
  have e : a.eval (.tmp dj) = a.tmps[dj] := by
    show a.tmps.getD dj undef = _
    rw [Array.getD_eq_getD_getElem?, Array.getElem?_eq_getElem hs]
    rfl
  have e2 : yielded l.toArray a.tmps j = match a.tmps[dj] with | .bool b => some b | _ => none := by
    unfold yielded
    simp only [List.getElem?_toArray, hj, Option.bind_some, hd, Array.getElem?_eq_getElem hs]
    cases a.tmps[dj] <;> rfl
  simp only [e, e2, beq_iff_eq]
  cases a.tmps[dj] <;> simp
theorem wpC_takeGR {l : List Oper} {D : List (Option Tmp × Op × Option (Nat × Bool))} (hD : Desc l D) (hQ : Blind Q) (i d : Nat) (p : Op) (v : Value) {j dj : Nat} {pj : Op} {gj : Option (Nat × Bool)} {want : Bool} {is : List (Nat × Bool)} {listed : Array Bool} {g : Nat} {a : Act} {w : World}
    (hB : lexB md l.toArray ((i, true) :: is) listed = true) (hi : D[i]? = some (some d, p, some (j, want))) (hj : D[j]? = some (some dj, pj, gj)) (hs : dj < a.tmps.size) (hb : a.eval (.tmp dj) = .bool want)
    (hv : ∀ (o : Oper) (ρ : Operand → Value) (w' : World), o.op = p → ρ = a.eval → C w' → (execOp ρ o).run P w' = .ok (.value v) w')
    (h : lexB md l.toArray is (listed.setIfInBounds i true) = true → wpC P md l.toArray Q C g (listed.setIfInBounds i true) (a.put (some d) v) w) : wpC P md l.toArray Q C (g + 1) listed a w := by
  simp only [lexB, Bool.and_eq_true] at hB
  obtain ⟨o, ho, hd, hp, hg⟩ := hD.at i hi
  obtain ⟨oj, hoj, hdj, _, _⟩ := hD.at j hj
  refine wpC_takeG i (v := v) hB.1 ho ((wanted_iff hg hoj hdj hs).2 hb) (fun c a w h => by rw [hd] at h; exact hQ _ _ _ _ _ h) (fun w' hC => hv o _ w' hp rfl hC) ?_
  rw [hd]
  exact h hB.2
theorem wpC_skipGR {l : List Oper} {D : List (Option Tmp × Op × Option (Nat × Bool))} (hD : Desc l D) (hQ : Blind Q) (i d : Nat) {p : Op} {j dj : Nat} {pj : Op} {gj : Option (Nat × Bool)} {want : Bool} {is : List (Nat × Bool)} {listed : Array Bool} {g : Nat} {a : Act} {w : World}
    (hB : lexB md l.toArray ((i, true) :: is) listed = true) (hi : D[i]? = some (some d, p, some (j, want))) (hj : D[j]? = some (some dj, pj, gj)) (hs : dj < a.tmps.size) (hb : a.eval (.tmp dj) ≠ .bool want)
    (h : lexB md l.toArray is (listed.setIfInBounds i true) = true → wpC P md l.toArray Q C g (listed.setIfInBounds i true) (a.put (some d) undef) w) : wpC P md l.toArray Q C (g + 1) listed a w := by
  simp only [lexB, Bool.and_eq_true] at hB
  obtain ⟨o, ho, hd, hp, hg⟩ := hD.at i hi
  obtain ⟨oj, hoj, hdj, _, _⟩ := hD.at j hj
  refine wpC_skip i hB.1 ho (by
    have := wanted_iff (a := a) hg hoj hdj hs
    cases e : Region.wanted o (yielded l.toArray a.tmps)
    · rfl
    · exact absurd (this.1 e) hb) (fun c a w h => by rw [hd] at h; exact hQ _ _ _ _ _ h) ?_
  rw [hd]
  exact h hB.2
theorem wpD_takeR {l : List Oper} {D : List (Option Tmp × Op × Option (Nat × Bool))} {t : Nat} (hD : Desc l D) (hQ : Blind Q) (i d : Nat) (p : Op) (v : Value) {is : List (Nat × Bool)} {listed : Array Bool} {g : Nat} {a : Act} {w : World}
    (hB : lexB md l.toArray ((i, true) :: is) listed = true) (hw : (waitsOn md l.toArray t i && !listed.getD t true && !(i == t)) = true) (hi : D[i]? = some (some d, p, none))
    (hv : ∀ (o : Oper) (ρ : Operand → Value) (w' : World), o.op = p → ρ = a.eval → C w' → (execOp ρ o).run P w' = .ok (.value v) w')
    (h : lexB md l.toArray is (listed.setIfInBounds i true) = true → wpD P md l.toArray Q C t g (listed.setIfInBounds i true) (a.put (some d) v) w) : wpD P md l.toArray Q C t (g + 1) listed a w := by
  simp only [lexB, Bool.and_eq_true] at hB hw
  obtain ⟨o, ho, hd, hp, hg⟩ := hD.at i hi
  refine wpD_take i (v := v) (by simp only [Bool.and_eq_true]; exact ⟨⟨⟨hB.1, hw.1.1⟩, hw.1.2⟩, hw.2⟩) ho hg (fun c a w h => by rw [hd] at h; exact hQ _ _ _ _ _ h) (fun w' hC => hv o _ w' hp rfl hC) ?_
  rw [hd]
  exact h hB.2
theorem wpD_callR {l : List Oper} {D : List (Option Tmp × Op × Option (Nat × Bool))} {t : Nat} (hD : Desc l D) (i : Nat) (d : Option Tmp) (p : Op) {is : List (Nat × Bool)} {listed : Array Bool} {g : Nat} {a : Act} {w : World}
    (hB : lexB md l.toArray ((i, false) :: is) listed = true) (hi : D[i]? = some (d, p, none)) (hC : listed.getD t true = false → C w)
    (h : ∀ o : Oper, o.dst = d → o.op = p → o.guard = none → lexB md l.toArray is (listed.setIfInBounds i true) = true → wpList P l.toArray (Exit.then (wpD P md l.toArray Q C t g (listed.setIfInBounds i true)) Q) [o] a w) : wpD P md l.toArray Q C t (g + 1) listed a w := by
  simp only [lexB, Bool.and_eq_true, beq_iff_eq] at hB
  obtain ⟨o, ho, hd, hp, hg⟩ := hD.at i hi
  exact wpD_only i hB.1 hC ho (h o hd hp hg hB.2)
/-- A call in the list of operations. -/
theorem wpList_callR {ops : Array Oper} {rest : List Oper} {o : Oper} {a : Act} {w : World} {f : FuncId} {args : Array Value} {d : Nat} (hg : o.guard = none) (hd : o.dst = some d) (he : ∀ ρ, ρ = a.eval → (execOp ρ o).run P w = .ok (.enter f args) w)
    (h : Calls P f args w fun e w' => ∃ v, e = .returned v ∧ wpList P ops Q rest (a.put (some d) v) w') : wpList P ops Q (o :: rest) a w := by
  unfold wpList
  have hw : Region.wanted o (yielded ops a.tmps) = true := by unfold Region.wanted; rw [hg]
  rw [if_pos hw]
  refine .inl ?_
  unfold Oper.wp
  rw [he _ rfl]
  simp only [Oper.upon]
  refine h.mono ?_
  rintro e w' ⟨v, rfl, h'⟩
  rw [hd]
  exact h'
/-- A value in the list of operations. -/
theorem wpList_valR {ops : Array Oper} {rest : List Oper} {o : Oper} {a : Act} {w : World} {d : Nat} {v : Value} (hg : o.guard = none) (hd : o.dst = some d) (he : ∀ ρ, ρ = a.eval → (execOp ρ o).run P w = .ok (.value v) w)
    (h : wpList P ops Q rest (a.put (some d) v) w) : wpList P ops Q (o :: rest) a w := by
  unfold wpList
  have hw : Region.wanted o (yielded ops a.tmps) = true := by unfold Region.wanted; rw [hg]
  rw [if_pos hw]
  refine .inl ?_
  unfold Oper.wp
  rw [he _ rfl]
  simp only [Oper.upon]
  rw [hd]
  exact h
/-- A value, and a new world, in the list of operations. -/
theorem wpList_valW {ops : Array Oper} {rest : List Oper} {o : Oper} {a : Act} {w w' : World} {d : Nat} {v : Value} (hg : o.guard = none) (hd : o.dst = some d) (he : ∀ ρ, ρ = a.eval → (execOp ρ o).run P w = .ok (.value v) w')
    (h : wpList P ops Q rest (a.put (some d) v) w') : wpList P ops Q (o :: rest) a w := by
  unfold wpList
  have hw : Region.wanted o (yielded ops a.tmps) = true := by unfold Region.wanted; rw [hg]
  rw [if_pos hw]
  refine .inl ?_
  unfold Oper.wp
  rw [he _ rfl]
  simp only [Oper.upon]
  rw [hd]
  exact h
/-- A store in the list of operations. -/
theorem wpList_storeR {ops : Array Oper} {rest : List Oper} {o : Oper} {a : Act} {w w' : World} (hg : o.guard = none) (hd : o.dst = none) (he : ∀ ρ, ρ = a.eval → (execOp ρ o).run P w = .ok .skip w')
    (h : wpList P ops Q rest a w') : wpList P ops Q (o :: rest) a w := by
  unfold wpList
  have hw : Region.wanted o (yielded ops a.tmps) = true := by unfold Region.wanted; rw [hg]
  rw [if_pos hw]
  refine .inl ?_
  unfold Oper.wp
  rw [he _ rfl]
  simp only [Oper.upon]
  rw [hd]
  exact h
theorem wpList_then {ops : Array Oper} {K : Act → World → Prop} {a : Act} {w : World} (h : K a w) : wpList P ops (Exit.then K Q) [] a w := h
theorem wpList_end {ops : Array Oper} {a : Act} {w : World} (h : Q .normal a w) : wpList P ops Q [] a w := h
/-- A piece of code that comes to its end, in some state. -/
def Mid (R : Act → World → Prop) : Exit → Act → World → Prop
  | .normal, a, w => R a w
  | _, _, _ => False
theorem Blind.mid (R : Act → World → Prop) : Blind (Mid R) := fun _ _ _ _ _ h => h
theorem Blind.then {K : Act → World → Prop} (h : Blind Q) : Blind (Exit.then K Q) := fun c a d v w h' => h c a d v w h'
theorem Blind.inBlock {id : Nat} (h : Blind Q) : Blind (Exit.inBlock id Q) := fun c a d v w h' => h c a d v w h'
theorem wp_mid {c : Code} {R : Act → World → Prop} {a : Act} {w : World} (h : c.wp P (Mid R) a w) (hq : ∀ a w, R a w → Q .normal a w) : c.wp P Q a w :=
  wp_mono h fun e a w h => by
    cases e <;> first | exact hq _ _ h | exact h.elim
/-- The same, the post's shape hidden. -/
theorem wp_cut {c : Code} {R : Act → World → Prop} {a : Act} {w : World} (h : ∀ Qm : Exit → Act → World → Prop, Blind Qm → (∀ A w, R A w → Qm .normal A w) → c.wp P Qm a w) (hq : ∀ a w, R a w → Q .normal a w) : c.wp P Q a w :=
  wp_mid (h (Mid R) (Blind.mid R) (fun _ _ h => h)) hq
theorem act_abs {c : Code} {a : Act} {w : World} (H : ∀ A : Act, A.tmps.size = a.tmps.size → A.defers = a.defers → (∀ k, A.eval (.tmp k) = a.eval (.tmp k)) → c.wp P Q A w) : c.wp P Q a w := H a rfl rfl (fun _ => rfl)
end
end Go.Proofs.YtamkglgiaiejkaaGreatDoor
