import Derived.Test.YtamkglgiaiejkaaGreatDoorYx10
/-! Rounding to a multiple, plainly: the reference and the program answer alike. -/
namespace Go.Proofs.YtamkglgiaiejkaaGreatDoor

/-- Whether a number between two whole ones goes to the upper one. -/
def upperB (mode half : Int) (even neg : Bool) : Bool :=
  if mode = 0 then false else if mode = 1 then true else if mode = 2 then neg else if mode = 3 then !neg else
  if half ≠ 0 then decide (0 < half) else
  if mode = 4 then false else if mode = 5 then true else if mode = 6 then neg else if mode = 7 then !neg else if mode = 8 then !even else even
def halfOf (a b : Int) : Int := if a < b then -1 else if b < a then 1 else 0
/-- The reference's number: of x = q * m + r. -/
def lowOf (q r : Int) : Int := if r < 0 then q - 1 else q
def restOf (r m : Int) : Int := if r < 0 then r + m else r
def roundQ (q r m mode : Int) (neg : Bool) : Int :=
  if r = 0 then q else
  if upperB mode (halfOf (restOf r m + restOf r m) m) (decide (lowOf q r % 2 = 0)) neg then lowOf q r + 1 else lowOf q r
/-- What the program adds to the quotient. -/
def adjHalf (q r mode : Int) : Int :=
  if mode = 4 then (if r < 0 then -1 else 0) else
  if mode = 5 then (if r < 0 then 0 else 1) else
  if mode = 6 then 0 else
  if mode = 7 then (if r < 0 then -1 else 1) else
  if mode = 8 then (if q % 2 = 0 then 0 else if r < 0 then -1 else 1) else
  if mode = 9 then (if q % 2 = 0 then if r < 0 then -1 else 1 else 0) else 0
def adjNear (r m : Int) : Int := if r < 0 then (if r < -(m / 2) then -1 else 0) else (if m / 2 < r then 1 else 0)
def adjFull (r mode : Int) : Int :=
  if mode = 0 then (if r < 0 then -1 else 0) else
  if mode = 1 then (if r < 0 then 0 else 1) else
  if mode = 2 then 0 else
  if mode = 3 then (if r < 0 then -1 else 1) else 0
def adj (q r m mode : Int) : Int :=
  if 4 ≤ mode then (if m % 2 = 0 ∧ (r = m / 2 ∨ r = -(m / 2)) then adjHalf q r mode else adjNear r m) else adjFull r mode
theorem halfOf_eq {a b : Int} (h : a = b) : halfOf a b = 0 := by unfold halfOf; rw [if_neg (by omega), if_neg (by omega)]
theorem halfOf_lt {a b : Int} (h : a < b) : halfOf a b = -1 := by unfold halfOf; rw [if_pos h]
theorem halfOf_gt {a b : Int} (h : b < a) : halfOf a b = 1 := by unfold halfOf; rw [if_neg (by omega), if_pos h]
theorem adj_half {q r m mode : Int} (h4 : 4 ≤ mode) (h : m % 2 = 0 ∧ (r = m / 2 ∨ r = -(m / 2))) : adj q r m mode = adjHalf q r mode := by unfold adj; rw [if_pos h4, if_pos h]
theorem adj_near {q r m mode : Int} (h4 : 4 ≤ mode) (h : ¬ (m % 2 = 0 ∧ (r = m / 2 ∨ r = -(m / 2)))) : adj q r m mode = adjNear r m := by unfold adj; rw [if_pos h4, if_neg h]
theorem adj_full {q r m mode : Int} (h4 : ¬ 4 ≤ mode) : adj q r m mode = adjFull r mode := by unfold adj; rw [if_neg h4]
theorem upperB_far {mode : Int} (h4 : 4 ≤ mode) {h : Int} (hh : h ≠ 0) (e n : Bool) : upperB mode h e n = decide (0 < h) := by
  unfold upperB
  rw [if_neg (by omega), if_neg (by omega), if_neg (by omega), if_neg (by omega), if_pos hh]
theorem round_alike {q r m mode : Int} {neg : Bool} (hm : 0 < m) (h0 : r ≠ 0) (h1 : -m < r) (h2 : r < m) (hn : neg = decide (r < 0)) (hm0 : 0 ≤ mode) (hm9 : mode ≤ 9) : roundQ q r m mode neg = q + adj q r m mode := by
  unfold roundQ
  rw [if_neg h0]
  by_cases hr : r < 0
  · have hn : neg = true := by rw [hn]; simp [hr]
    subst hn
    have e1 : lowOf q r = q - 1 := if_pos hr
    have e2 : restOf r m = r + m := if_pos hr
    rw [e1, e2]
    by_cases h4 : 4 ≤ mode
    · by_cases hh : r + m + (r + m) = m
      · rw [halfOf_eq hh, adj_half h4 (by omega)]
        have c' : decide ((q - 1) % 2 = 0) = !decide (q % 2 = 0) := by
          by_cases c : q % 2 = 0
          · simp [c]; omega
          · simp [c]; omega
        rw [c']
        unfold adjHalf
        obtain rfl | rfl | rfl | rfl | rfl | rfl : mode = 4 ∨ mode = 5 ∨ mode = 6 ∨ mode = 7 ∨ mode = 8 ∨ mode = 9 := by omega
        all_goals (by_cases c : q % 2 = 0 <;> simp [upperB, hr, c] <;> omega)
      · rw [adj_near h4 (by omega)]
        unfold adjNear
        rw [if_pos hr]
        by_cases hl : r + m + (r + m) < m
        · rw [halfOf_lt hl, upperB_far h4 (by decide), if_pos (show r < -(m / 2) by omega)]
          simp
          omega
        · rw [halfOf_gt (show m < r + m + (r + m) by omega), upperB_far h4 (by decide), if_neg (show ¬ r < -(m / 2) by omega)]
          simp
    · rw [adj_full h4]
      obtain rfl | rfl | rfl | rfl : mode = 0 ∨ mode = 1 ∨ mode = 2 ∨ mode = 3 := by omega
      all_goals (simp [upperB, adjFull, hr] <;> omega)
  · have hn : neg = false := by rw [hn]; simp [hr]
    subst hn
    have e1 : lowOf q r = q := if_neg hr
    have e2 : restOf r m = r := if_neg hr
    rw [e1, e2]
    by_cases h4 : 4 ≤ mode
    · by_cases hh : r + r = m
      · rw [halfOf_eq hh, adj_half h4 (by omega)]
        unfold adjHalf
        obtain rfl | rfl | rfl | rfl | rfl | rfl : mode = 4 ∨ mode = 5 ∨ mode = 6 ∨ mode = 7 ∨ mode = 8 ∨ mode = 9 := by omega
        all_goals (by_cases c : q % 2 = 0 <;> simp [upperB, hr, c])
      · rw [adj_near h4 (by omega)]
        unfold adjNear
        rw [if_neg hr]
        by_cases hl : r + r < m
        · rw [halfOf_lt hl, upperB_far h4 (by decide), if_neg (show ¬ m / 2 < r by omega)]
          simp
        · rw [halfOf_gt (show m < r + r by omega), upperB_far h4 (by decide), if_pos (show m / 2 < r by omega)]
          simp
    · rw [adj_full h4]
      obtain rfl | rfl | rfl | rfl : mode = 0 ∨ mode = 1 ∨ mode = 2 ∨ mode = 3 := by omega
      all_goals simp [upperB, adjFull, hr]
/-- The number that is due does not grow too great. -/
theorem adj_bound (q r m mode : Int) : -1 ≤ adj q r m mode ∧ adj q r m mode ≤ 1 := by
  unfold adj adjHalf adjNear adjFull
  repeat' split
  all_goals omega
end Go.Proofs.YtamkglgiaiejkaaGreatDoor

/-! The number that is due, plainly. -/
namespace Go.Proofs.YtamkglgiaiejkaaGreatDoor

/-- What a number is rounded to. -/
def dueOf (x m mode : Int) : Int := roundQ (x.tdiv m) (x.tmod m) m mode (decide (x < 0)) * m
theorem due_facts {x m q r : Int} (hm : 0 < m) (hq : q = x.tdiv m) (hr : r = x.tmod m) : q * m + r = x ∧ -m < r ∧ r < m ∧ (x < 0 → r ≤ 0) ∧ (0 ≤ x → 0 ≤ r) ∧ q.natAbs ≤ x.natAbs := by
  refine ⟨?_, ?_, ?_, ?_, ?_, ?_⟩
  · rw [hq, hr, Int.mul_comm]; exact Int.mul_tdiv_add_tmod x m
  · rw [hr]; have := Int.natAbs_tmod x m; have := Nat.mod_lt x.natAbs (show 0 < m.natAbs by omega); omega
  · rw [hr]; have := Int.natAbs_tmod x m; have := Nat.mod_lt x.natAbs (show 0 < m.natAbs by omega); omega
  · intro h
    rw [hr, show x = -(-x) by omega, Int.neg_tmod]
    have := Int.tmod_nonneg m (show 0 ≤ -x by omega)
    omega
  · intro h
    rw [hr]
    exact Int.tmod_nonneg m h
  · rw [hq, Int.natAbs_tdiv]
    exact Nat.div_le_self _ _
theorem due_zero {x m mode : Int} (hm : 0 < m) (h : x.tmod m = 0) : dueOf x m mode = x := by
  obtain ⟨h1, _⟩ := due_facts (x := x) hm rfl rfl
  unfold dueOf roundQ
  rw [if_pos h]
  omega
theorem due_else {x m mode : Int} (hm : 0 < m) (h : x.tmod m ≠ 0) (h0 : 0 ≤ mode) (h9 : mode ≤ 9) : dueOf x m mode = (x.tdiv m + adj (x.tdiv m) (x.tmod m) m mode) * m := by
  obtain ⟨h1, h2, h3, h4, h5, _⟩ := due_facts (x := x) hm rfl rfl
  unfold dueOf
  rw [round_alike hm h h2 h3 _ h0 h9]
  by_cases hx : x < 0
  · have : x.tmod m < 0 := by have := h4 hx; omega
    simp [hx, this]
  · have : ¬ x.tmod m < 0 := by have := h5 (by omega); omega
    simp [hx, this]
theorem due_bound {x m mode : Int} (hm : 0 < m) (h0 : 0 ≤ mode) (h9 : mode ≤ 9) : -((x.natAbs : Int) + 2 * m) < dueOf x m mode ∧ dueOf x m mode < x.natAbs + 2 * m := by
  obtain ⟨h1, h2, h3, h4, h5, _⟩ := due_facts (x := x) hm rfl rfl
  by_cases h : x.tmod m = 0
  · rw [due_zero hm h]; omega
  · rw [due_else hm h h0 h9, Int.add_mul]
    obtain ⟨a1, a2⟩ := adj_bound (x.tdiv m) (x.tmod m) m mode
    generalize adj (x.tdiv m) (x.tmod m) m mode = a at *
    obtain rfl | rfl | rfl : a = -1 ∨ a = 0 ∨ a = 1 := by omega
    all_goals omega
/-- Whether it fits. -/
theorem fits_declen {n p : Nat} (hp : 1 ≤ p) : declen n ≤ p ↔ n < 10 ^ p := declen_lt hp
end Go.Proofs.YtamkglgiaiejkaaGreatDoor
