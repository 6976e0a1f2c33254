import Derived.Test.YtdamippibpbjhaaGreatDoorYa20
/-! Cells written one behind the other. -/
namespace Go.Proofs.YtdamippibpbjhaaGreatDoor
open Go.RowKit

theorem setCells_put {g : Nat} {t : TypeId} {fr : Nat × Nat} : ∀ (cs : List Value) (o : Nat) (w : World) (xs : Array Value), w.heap[g]? = some (.cells xs t fr) → o + cs.length ≤ xs.size →
    ∃ xs', (w.setCells g o cs).heap[g]? = some (.cells xs' t fr) ∧ xs'.size = xs.size ∧ (∀ j, j < cs.length → xs'[o + j]? = cs[j]?) ∧ ∀ j, j < o ∨ o + cs.length ≤ j → xs'[j]? = xs[j]?
  | [], o, w, xs, h, _ => ⟨xs, h, rfl, fun j hj => absurd hj (by simp), fun j _ => rfl⟩
  | v :: cs, o, w, xs, h, hl => by
    have hl' : o + (cs.length + 1) ≤ xs.size := by simpa using hl
    obtain ⟨xs', h1, h2, h3, h4⟩ := setCells_put cs (o + 1) (w.setCell ⟨g, o, none⟩ v) _ (blk_set h o v) (by simp; omega)
    refine ⟨xs', h1, by simpa using h2, fun j hj => ?_, fun j hj => ?_⟩
    · cases j with
      | zero =>
        rw [h4 (o + 0) (by omega), Nat.add_zero, Array.getElem?_setIfInBounds_self_of_lt (by omega)]
        rfl
      | succ j =>
        rw [show o + (j + 1) = o + 1 + j by omega, h3 j (by simpa using hj)]
        rfl
    · rw [h4 j (by simp at hj; omega), Array.getElem?_setIfInBounds_ne (by simp at hj; omega)]
/-- c numbers, as they are decoded. -/
def accs (enc : Int → Value) (f : Nat → Int) (v c : Nat) : List Value := (List.range c).map fun j => enc (f (v + j))
theorem accs_length (enc : Int → Value) (f : Nat → Int) (v c : Nat) : (accs enc f v c).length = c := by simp [accs]
theorem accs_get (enc : Int → Value) (f : Nat → Int) (v c j : Nat) (h : j < c) : (accs enc f v c)[j]? = some (enc (f (v + j))) := by simp [accs, h]

end Go.Proofs.YtdamippibpbjhaaGreatDoor
