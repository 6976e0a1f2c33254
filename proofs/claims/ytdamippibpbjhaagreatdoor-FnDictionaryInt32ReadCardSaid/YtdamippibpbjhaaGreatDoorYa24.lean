import Derived.Test.YtdamippibpbjhaaGreatDoorYa18
/-! What is read in batches. -/
namespace Go.Proofs.YtdamippibpbjhaaGreatDoor
open Go.RowKit

/-- What is read of the numbers from number v on in batches (below zero: left out), up to the first that asks more than there is. -/
def takenL (l : List Int) : Nat → List Int → List Int
  | _, [] => []
  | v, b :: bs => (if 0 < b then (l.drop v).take (min b.natAbs (l.length - v)) else []) ++ if min b.natAbs (l.length - v) < b.natAbs then [] else takenL l (v + min b.natAbs (l.length - v)) bs

/-- c batches are read, out is what came, v numbers are taken. -/
structure Taking (l bs : List Int) (c v : Nat) (out : List Int) : Prop where
  le : c ≤ bs.length
  lv : v ≤ l.length
  eq : out ++ takenL l v (bs.drop c) = takenL l 0 bs
theorem Taking.start (l bs : List Int) : Taking l bs 0 0 [] := ⟨Nat.zero_le _, Nat.zero_le _, rfl⟩
theorem Taking.done {l bs : List Int} {v : Nat} {out : List Int} (h : Taking l bs bs.length v out) : out = takenL l 0 bs := by
  have := h.eq
  simpa [takenL] using this
theorem Taking.drop {l bs : List Int} {c v : Nat} {out : List Int} (_h : Taking l bs c v out) (hc : c < bs.length) : bs.drop c = bs.getD c 0 :: bs.drop (c + 1) := by
  rw [List.drop_eq_getElem_cons hc, List.getD_eq_getElem?_getD, List.getElem?_eq_getElem hc, Option.getD_some]
/-- All that was asked was there. -/
theorem Taking.next {l bs : List Int} {c v : Nat} {out : List Int} (h : Taking l bs c v out) (hc : c < bs.length) (hk : (bs.getD c 0).natAbs ≤ l.length - v) :
    Taking l bs (c + 1) (v + (bs.getD c 0).natAbs) (out ++ if 0 < bs.getD c 0 then (l.drop v).take (bs.getD c 0).natAbs else []) := by
  refine ⟨hc, by have := h.lv; omega, ?_⟩
  rw [← h.eq, h.drop hc, takenL, Nat.min_eq_left hk, if_neg (Nat.lt_irrefl _), List.append_assoc]
/-- Less was there. -/
theorem Taking.short {l bs : List Int} {c v : Nat} {out : List Int} (h : Taking l bs c v out) (hc : c < bs.length) (hk : l.length - v < (bs.getD c 0).natAbs) :
    (out ++ if 0 < bs.getD c 0 then (l.drop v).take (l.length - v) else []) = takenL l 0 bs := by
  rw [← h.eq, h.drop hc, takenL, Nat.min_eq_right (by omega), if_pos hk, List.append_nil]
theorem takenL_len (l : List Int) : ∀ (bs : List Int) (v : Nat), (takenL l v bs).length ≤ l.length - v
  | [], _ => by simp [takenL]
  | b :: bs, v => by
    rw [takenL, List.length_append]
    have h1 : (if 0 < b then (l.drop v).take (min b.natAbs (l.length - v)) else []).length ≤ min b.natAbs (l.length - v) := by
      split
      · simp <;> omega
      · simp
    by_cases h : min b.natAbs (l.length - v) < b.natAbs
    · rw [if_pos h]; simp; omega
    · rw [if_neg h]
      have := takenL_len l bs (v + min b.natAbs (l.length - v))
      omega
end Go.Proofs.YtdamippibpbjhaaGreatDoor
