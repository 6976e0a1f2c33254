import Derived.Test.YtamkglgiaiejkaaGreatDoorYx15
/-! Regions that draw their order: guarded operations that are not wanted; what comes behind the operation up to which a fact is asked. -/
namespace Go.Proofs.YtamkglgiaiejkaaGreatDoor
open Go
section
variable {P : Program} {md : Region.Mode} {ops : Array Oper} {Q : Exit → Act → World → Prop} {C : World → Prop}

theorem wpC_skip {l : List Oper} {o : Oper} (i : Nat) {listed : Array Bool} {g : Nat} {a : Act} {w : World} (hB : takeB md l.toArray listed i = true) (ho : l[i]? = some o) (hg : Region.wanted o (yielded l.toArray a.tmps) = false)
    (hQ : ∀ c a w, Q (.panic c) (a.put o.dst undef) w → Q (.panic c) a w)
    (h : wpC P md l.toArray Q C g (listed.setIfInBounds i true) (a.put o.dst undef) w) : wpC P md l.toArray Q C (g + 1) listed a w := by
  simp only [takeB, Bool.and_eq_true] at hB
  obtain ⟨⟨h1, h2⟩, h3⟩ := hB
  have ho' : l.toArray[i]? = some o := by simpa using ho
  exact wpC_first ho' (Region.noSelect_spec h1) hQ g listed a w (Region.free_spec ho' h2) (by simpa using h3) (.inr ⟨hg, rfl⟩) h
theorem wpD_takeG {l : List Oper} {o : Oper} {v : Value} (i : Nat) {t : Nat} {listed : Array Bool} {g : Nat} {a : Act} {w : World} (hB : (takeB md l.toArray listed i && waitsOn md l.toArray t i && !listed.getD t true && !(i == t)) = true) (ho : l[i]? = some o) (hg : Region.wanted o (yielded l.toArray a.tmps) = true)
    (hQ : ∀ c a w, Q (.panic c) (a.put o.dst v) w → Q (.panic c) a w) (hv : ∀ w', C w' → (execOp a.eval o).run P w' = .ok (.value v) w')
    (h : wpD P md l.toArray Q C t g (listed.setIfInBounds i true) (a.put o.dst v) w) : wpD P md l.toArray Q C t (g + 1) listed a w := by
  simp only [Bool.and_eq_true, takeB, Bool.not_eq_true'] at hB
  obtain ⟨⟨⟨⟨⟨h1, h2⟩, h3⟩, h4⟩, h5⟩, h6⟩ := hB
  have ho' : l.toArray[i]? = some o := by simpa using ho
  exact wpD_first ho' h4 (by simpa using h6) (Region.noSelect_spec h1) hQ g listed a w h5 (Region.free_spec ho' h2) (by simpa using h3) (.inl ⟨hg, hv⟩) h
/-- The operation up to which the fact is asked has come up: nothing is asked further. -/
theorem wpD_of_C' {t : Nat} : ∀ (fuel : Nat) (listed : Array Bool) (a : Act) (w : World), listed.getD t true = true → wpC P md ops Q (fun _ => True) fuel listed a w → wpD P md ops Q C t fuel listed a w
  | 0, _, _, _, ht, h => ⟨fun h' => (by rw [ht] at h'; cases h'), h.2⟩
  | fuel + 1, listed, _, _, ht, h => ⟨fun h' => (by rw [ht] at h'; cases h'), h.2.1, fun i hi => wpOp_mono (fun a w h' => wpD_of_C' fuel _ a w (by
      by_cases e : i = t
      · subst e
        simp only [Array.getD_eq_getD_getElem?, Array.getElem?_setIfInBounds_self]
        split <;> rfl
      · rw [getD_set_ne true e]; exact ht) h') (h.2.2 i hi)⟩
theorem wpD_of_C {l : List Oper} {t : Nat} {fuel : Nat} {listed : Array Bool} {a : Act} {w : World} (ht : listed.getD t true = true) (h : wpC P md l.toArray Q (fun _ => True) fuel listed a w) : wpD P md l.toArray Q C t fuel listed a w := wpD_of_C' fuel listed a w ht h
/-- What yields the same in every world is taken at once, whatever comes up before. -/
theorem wpD_pfirst {i t : Nat} {oi : Oper} {v : Value} (hi : ops[i]? = some oi) (hti : i ≠ t) (hsel : ∀ (j : Nat) (o : Oper) cs b, ops[j]? = some o → o.op ≠ .select cs b)
    (hQ : ∀ c a w, Q (.panic c) (a.put oi.dst v) w → Q (.panic c) a w) :
    ∀ (fuel : Nat) (listed : Array Bool) (a : Act) (w : World),
      (∀ j oj, ops[j]? = some oj → j ≠ i → listed.getD j true = false → (∀ e ∈ oj.after, Region.binds md e = true → e.on ≠ i) → oi.apart ops oj = true) →
      i ∈ Region.ready md ops listed → YieldsC P ops (fun _ => True) oi v a →
      wpD P md ops Q C t fuel (listed.setIfInBounds i true) (a.put oi.dst v) w → wpD P md ops Q C t (fuel + 1) listed a w := by
  intro fuel
  induction fuel with
  | zero =>
    intro listed a w _ hr hy H
    refine ⟨fun h => H.1 (by rw [getD_set_ne true hti]; exact h), fun h => (by rw [h] at hr; cases hr), fun j hj => ?_⟩
    by_cases hji : j = i
    · subst hji; exact hy.wpOp hi trivial H
    · have := ready_mono hj hji
      rw [H.2.1] at this
      cases this
  | succ fuel ih =>
    intro listed a w hfree hr hy H
    refine ⟨fun h => H.1 (by rw [getD_set_ne true hti]; exact h), fun h => (by rw [h] at hr; cases hr), fun j hj => ?_⟩
    by_cases hji : j = i
    · subst hji; exact hy.wpOp hi trivial H
    · have h1 := H.2.2 j (ready_mono hj hji)
      obtain ⟨hjun, oj, hoj, hall⟩ := mem_ready.1 hj
      have hnot : ∀ e ∈ oj.after, Region.binds md e = true → e.on ≠ i := fun e he hb heq => by
        have h1 := hall e he hb
        have h0 := (mem_ready.1 hr).1
        rw [heq, getD_both' h0] at h1
        cases h1
      have h2 := wpOp_putC hoj (hfree j oj hoj hji hjun hnot) (fun cs b => hsel i oi cs b hi) (fun cs b => hsel j oj cs b hoj) hQ hy h1
      have hfree' : ∀ k ok, ops[k]? = some ok → k ≠ i → (listed.setIfInBounds j true).getD k true = false →
          (∀ e ∈ ok.after, Region.binds md e = true → e.on ≠ i) → oi.apart ops ok = true := fun k ok hk hki hun hno => by
        refine hfree k ok hk hki ?_ hno
        by_cases hjk : j = k
        · subst hjk; exact hjun
        · rw [getD_set_ne true hjk] at hun; exact hun
      refine wpOp_mono (fun a' w' h3 => ih (listed.setIfInBounds j true) a' w' hfree' (ready_mono hr (Ne.symm hji)) h3.1 ?_) h2
      rw [Array.setIfInBounds_comm _ _ hji]
      exact h3.2
theorem wpD_pure {l : List Oper} {o : Oper} {v : Value} (i : Nat) {t : Nat} {listed : Array Bool} {g : Nat} {a : Act} {w : World} (hB : (takeB md l.toArray listed i && !(i == t)) = true) (ho : l[i]? = some o) (hg : Region.wanted o (yielded l.toArray a.tmps) = true)
    (hQ : ∀ c a w, Q (.panic c) (a.put o.dst v) w → Q (.panic c) a w) (hv : ∀ w', (execOp a.eval o).run P w' = .ok (.value v) w')
    (h : wpD P md l.toArray Q C t g (listed.setIfInBounds i true) (a.put o.dst v) w) : wpD P md l.toArray Q C t (g + 1) listed a w := by
  simp only [Bool.and_eq_true, takeB, Bool.not_eq_true'] at hB
  obtain ⟨⟨⟨h1, h2⟩, h3⟩, h6⟩ := hB
  have ho' : l.toArray[i]? = some o := by simpa using ho
  exact wpD_pfirst ho' (by simpa using h6) (Region.noSelect_spec h1) hQ g listed a w (Region.free_spec ho' h2) (by simpa using h3) (.inl ⟨hg, fun w _ => hv w⟩) h
/-- What is not wanted is taken at once. -/
theorem wpD_none {l : List Oper} {o : Oper} (i : Nat) {t : Nat} {listed : Array Bool} {g : Nat} {a : Act} {w : World} (hB : (takeB md l.toArray listed i && !(i == t)) = true) (ho : l[i]? = some o) (hg : Region.wanted o (yielded l.toArray a.tmps) = false)
    (hQ : ∀ c a w, Q (.panic c) (a.put o.dst undef) w → Q (.panic c) a w)
    (h : wpD P md l.toArray Q C t g (listed.setIfInBounds i true) (a.put o.dst undef) w) : wpD P md l.toArray Q C t (g + 1) listed a w := by
  simp only [Bool.and_eq_true, takeB, Bool.not_eq_true'] at hB
  obtain ⟨⟨⟨h1, h2⟩, h3⟩, h6⟩ := hB
  have ho' : l.toArray[i]? = some o := by simpa using ho
  exact wpD_pfirst ho' (by simpa using h6) (Region.noSelect_spec h1) hQ g listed a w (Region.free_spec ho' h2) (by simpa using h3) (.inr ⟨hg, rfl⟩) h
end
end Go.Proofs.YtamkglgiaiejkaaGreatDoor
