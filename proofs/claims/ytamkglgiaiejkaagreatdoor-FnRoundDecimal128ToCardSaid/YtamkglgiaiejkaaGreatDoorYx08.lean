/-! Division of long numbers, plainly: the guess of a digit, the reciprocal. -/
namespace Go.Proofs.YtamkglgiaiejkaaGreatDoor

/-- A guess of a digit that is not too great. -/
theorem guess_le {K y1 y0 u d q r : Nat} (hinv : q * y1 + r = u) (hle : q * y0 ≤ K * r + d) : q * (y1 * K + y0) ≤ u * K + d := by
  subst hinv
  rw [Nat.mul_add, Nat.add_mul, ← Nat.mul_assoc, Nat.mul_comm r K]
  omega
/-- A guess of a digit that is too great. -/
theorem guess_gt {K y1 y0 u d q r : Nat} (hinv : q * y1 + r = u) (hgt : K * r + d < q * y0) : u * K + d < q * (y1 * K + y0) := by
  subst hinv
  rw [Nat.mul_add, Nat.add_mul, ← Nat.mul_assoc, Nat.mul_comm r K]
  omega
/-- A guess too great: one less is not too small. -/
theorem quot_lt {N y q : Nat} (h : N < q * y) : N / y ≤ q - 1 := by
  have h1 : N / y < q := Nat.div_lt_of_lt_mul (by rw [Nat.mul_comm]; exact h)
  omega
theorem quot_ge {N y q : Nat} (hy : 0 < y) (h : q * y ≤ N) : q ≤ N / y := (Nat.le_div_iff_mul_le hy).2 h
/-- The first guess: at most one above what a digit can be. -/
theorem guess_first {K y1 y0 u d : Nat} (hy : K ≤ 2 * y1) (hy0 : y0 < K) (hd : d < K) (hu : u < y1 * K + y0) : (u * K + d) / (y1 * K + y0) ≤ u / y1 ∧ u / y1 ≤ K + 1 := by
  have hy1 : 0 < y1 := by omega
  constructor
  · refine Nat.le_of_lt_succ ?_
    refine Nat.div_lt_of_lt_mul ?_
    have h1 : u < y1 * (u / y1 + 1) := by
      have := Nat.div_add_mod u y1
      have := Nat.mod_lt u hy1
      rw [Nat.mul_add, Nat.mul_one]
      omega
    have h2 : u + 1 ≤ y1 * (u / y1 + 1) := h1
    have h3 : (u + 1) * K ≤ y1 * (u / y1 + 1) * K := Nat.mul_le_mul_right K h2
    have h4 : y1 * (u / y1 + 1) * K = y1 * K * (u / y1 + 1) := Nat.mul_right_comm _ _ _
    rw [Nat.add_mul, Nat.one_mul] at h3
    rw [Nat.add_mul (y1 * K)]
    have : y1 * K * (u / y1 + 1) = y1 * K * (u / y1).succ := rfl
    omega
  · refine Nat.le_of_lt_succ ?_
    refine Nat.div_lt_of_lt_mul ?_
    have : y1 * (K + 1).succ = y1 * K + 2 * y1 := by rw [Nat.mul_succ, Nat.mul_add, Nat.mul_one]; omega
    omega
/-- A digit is below the base. -/
theorem digit_lt {K y u d : Nat} (hd : d < K) (hu : u < y) : (u * K + d) / y < K := by
  refine Nat.div_lt_of_lt_mul ?_
  have h1 : (u + 1) * K ≤ y * K := Nat.mul_le_mul_right K hu
  rw [Nat.add_mul, Nat.one_mul] at h1
  omega
/-- The loop on a guess: while it is too great it is made less. What holds at its head. -/
structure Guess (K y1 y0 u d q r : Nat) : Prop where
  inv : q * y1 + r = u
  low : (u * K + d) / (y1 * K + y0) ≤ q
  top : q ≤ K + 1
  rem : r < K
theorem Guess.step {K y1 y0 u d q r : Nat} (h : Guess K y1 y0 u d q r) (hy0 : y0 < K) (hd : d < K) (hu : u < y1 * K + y0) (hc : K ≤ q ∨ K * r + d < q * y0) : 0 < q ∧ (q - 1) * y1 + (r + y1) = u ∧ (u * K + d) / (y1 * K + y0) ≤ q - 1 ∧ q - 1 ≤ K := by
  have hK : 0 < K := by omega
  have hQ : (u * K + d) / (y1 * K + y0) ≤ q - 1 := by
    rcases hc with hc | hc
    · have := digit_lt (K := K) (d := d) hd hu
      omega
    · exact quot_lt (guess_gt h.inv hc)
  have hq : 0 < q := by
    rcases hc with hc | hc
    · omega
    · rcases Nat.eq_zero_or_pos q with e | e
      · rw [e, Nat.zero_mul] at hc; omega
      · exact e
  refine ⟨hq, ?_, hQ, by have := h.top; omega⟩
  have h1 := h.inv
  obtain ⟨p, rfl⟩ : ∃ p, q = p + 1 := ⟨q - 1, by omega⟩
  rw [Nat.add_sub_cancel]
  rw [Nat.add_mul, Nat.one_mul] at h1
  omega
/-- The guess is the digit: the loop ends by its condition. -/
theorem Guess.done {K y1 y0 u d q r : Nat} (h : Guess K y1 y0 u d q r) (hy : 0 < y1 * K + y0) (hc : q * y0 ≤ K * r + d) : q = (u * K + d) / (y1 * K + y0) :=
  Nat.le_antisymm (quot_ge hy (guess_le h.inv hc)) h.low
/-- The guess is the digit: the loop ends because what is left over grew too great. -/
theorem guess_over {K y1 y0 u d q r : Nat} (hinv : q * y1 + r = u) (hlow : (u * K + d) / (y1 * K + y0) ≤ q) (htop : q ≤ K) (hr : K ≤ r) (hy0 : y0 < K) (hy : 0 < y1 * K + y0) : q = (u * K + d) / (y1 * K + y0) := by
  refine Nat.le_antisymm (quot_ge hy (guess_le hinv ?_)) hlow
  have h1 : q * y0 ≤ K * K := Nat.mul_le_mul htop (Nat.le_of_lt hy0)
  have h2 : K * K ≤ K * r := Nat.mul_le_mul_left K hr
  omega
/-- What is left behind a digit. -/
theorem digit_rest {N y : Nat} : N - N / y * y = N % y := by
  have := Nat.div_add_mod N y
  rw [Nat.mul_comm] at this
  omega

/-- The guess by a reciprocal: V = the reciprocal and the base. -/
theorem recip_guess {B D V x1 x0 : Nat} (hB : 0 < B) (hD : D ≤ B) (hV : V * D ≤ B * B) (hV1 : B * B ≤ V * D + D) (hx1 : x1 < D) (hx0 : x0 < B) :
    (V * x1 + x0) / B * D ≤ x1 * B + x0 ∧ x1 * B + x0 < (V * x1 + x0) / B * D + (B + D) := by
  have hdm := Nat.div_add_mod (V * x1 + x0) B
  have hml := Nat.mod_lt (V * x1 + x0) hB
  generalize (V * x1 + x0) / B = t at *
  generalize (V * x1 + x0) % B = s at *
  obtain ⟨e, he⟩ : ∃ e, B * B = V * D + e := ⟨B * B - V * D, by omega⟩
  have heD : e ≤ D := by omega
  -- all times B
  have a1 : B * t * D + s * D = V * x1 * D + x0 * D := by rw [← Nat.add_mul, hdm, Nat.add_mul]
  have a2 : V * x1 * D = V * D * x1 := Nat.mul_right_comm _ _ _
  have a3 : B * B * x1 = V * D * x1 + e * x1 := by rw [he, Nat.add_mul]
  have a4 : x0 * D ≤ x0 * B := Nat.mul_le_mul_left x0 hD
  have a5 : e * x1 ≤ D * x1 := Nat.mul_le_mul_right x1 heD
  have a6 : s * D ≤ (B - 1) * D := Nat.mul_le_mul_right D (by omega)
  have a7 : (B - 1) * D + D = B * D := by
    obtain ⟨b, rfl⟩ : ∃ b, B = b + 1 := ⟨B - 1, by omega⟩
    rw [Nat.add_sub_cancel, Nat.add_mul, Nat.one_mul]
  have a8 : D * x1 + D ≤ D * D := by
    have := Nat.mul_le_mul_left D hx1
    rw [Nat.mul_succ] at this
    exact this
  have a9 : D * D ≤ B * D := Nat.mul_le_mul_right D hD
  have a10 : (x1 * B + x0) * B = B * B * x1 + x0 * B := by rw [Nat.add_mul, Nat.mul_assoc, Nat.mul_comm x1]
  have a11 : t * D * B = B * t * D := by rw [Nat.mul_comm (t * D) B, Nat.mul_assoc]
  constructor
  · refine Nat.le_of_mul_le_mul_right ?_ hB
    omega
  · refine Nat.lt_of_mul_lt_mul_right (a := B) ?_
    -- N B - t D B = e x1 + s D + x0 (B - D)
    have b1 : x0 * B + (B - 1) * D ≤ x0 * D + (B - 1) * B := by
      have c1 : x0 * (B - D) ≤ (B - 1) * (B - D) := Nat.mul_le_mul_right _ (by omega)
      rw [Nat.mul_sub, Nat.mul_sub] at c1
      have c2 : x0 * D ≤ x0 * B := a4
      have c3 : (B - 1) * D ≤ (B - 1) * B := Nat.mul_le_mul_left _ hD
      omega
    have b2 : (B - 1) * B + B = B * B := by
      obtain ⟨b, rfl⟩ : ∃ b, B = b + 1 := ⟨B - 1, by omega⟩
      rw [Nat.add_sub_cancel, Nat.add_mul b 1, Nat.one_mul]
    have b3 : (t * D + (B + D)) * B = B * t * D + B * B + B * D := by
      rw [Nat.add_mul, Nat.add_mul B D, a11, Nat.mul_comm D B]
      omega
    have b4 : 0 < D := by omega
    omega
/-- The reciprocal. -/
theorem recip_val {B D : Nat} (hD : 0 < D) (hDB : D ≤ B) (hB : 0 < B) : ((B - 1 - D) * B + (B - 1)) / D + B = (B * B - 1) / D ∨ B = D := by
  rcases Nat.eq_or_lt_of_le hDB with e | e
  · exact .inr e.symm
  · left
    have h1 : (B - 1 - D) * B + (B - 1) + B * D = B * B - 1 := by
      obtain ⟨b, rfl⟩ : ∃ b, B = D + 1 + b := ⟨B - 1 - D, by omega⟩
      rw [show D + 1 + b - 1 - D = b by omega]
      have h2 : b * (D + 1 + b) + (D + 1 + b) * D + (D + 1 + b) = (D + 1 + b) * (D + 1 + b) := by
        rw [Nat.mul_comm b, ← Nat.mul_add]
        conv => rhs; rw [show D + 1 + b = (b + D) + 1 by omega, Nat.mul_succ]
        rw [show D + 1 + b = b + D + 1 by omega]
      omega
    rw [← h1, Nat.add_mul_div_right _ _ hD]
end Go.Proofs.YtamkglgiaiejkaaGreatDoor

/-! Division of two words by one, plainly. -/
namespace Go.Proofs.YtamkglgiaiejkaaGreatDoor

/-- Division in two steps. -/
theorem div_two {A K u0 Y : Nat} (hY : 0 < Y) : A / Y * K + (A % Y * K + u0) / Y = (A * K + u0) / Y ∧ (A % Y * K + u0) % Y = (A * K + u0) % Y := by
  have h := Nat.div_add_mod A Y
  have e : A * K + u0 = Y * (A / Y * K) + (A % Y * K + u0) := by
    conv => lhs; rw [← h, Nat.add_mul, Nat.mul_assoc]
    omega
  constructor
  · rw [e, Nat.mul_add_div hY]
  · rw [e, Nat.mul_add_mod]
/-- Division of numbers that are scaled. -/
theorem div_scaled {N y S : Nat} (hS : 0 < S) : N * S / (y * S) = N / y ∧ N * S % (y * S) / S = N % y := by
  constructor
  · exact Nat.mul_div_mul_right N y hS
  · rw [Nat.mul_mod_mul_right, Nat.mul_div_cancel _ hS]
/-- The guess by a reciprocal, put right: at most one step on behind the carry. -/
theorem recip_done {D t N r : Nat} (hD : 0 < D) (hlow : t * D ≤ N) (hr : r = N - t * D) :
    (r < D → t = N / D ∧ r = N % D) ∧ (D ≤ r → r < 2 * D → t + 1 = N / D ∧ r - D = N % D) ∧ (2 * D ≤ r → r < 3 * D → t + 2 = N / D ∧ r - 2 * D = N % D) := by
  have e : N = D * t + r := by rw [Nat.mul_comm]; omega
  refine ⟨fun h => ?_, fun h h' => ?_, fun h h' => ?_⟩
  · rw [e, Nat.mul_add_div hD, Nat.mul_add_mod, Nat.div_eq_of_lt h, Nat.mod_eq_of_lt h]; exact ⟨rfl, rfl⟩
  · have e' : N = D * (t + 1) + (r - D) := by rw [Nat.mul_add, Nat.mul_one]; omega
    rw [e', Nat.mul_add_div hD, Nat.mul_add_mod, Nat.div_eq_of_lt (by omega), Nat.mod_eq_of_lt (by omega)]; exact ⟨rfl, rfl⟩
  · have e' : N = D * (t + 2) + (r - 2 * D) := by rw [Nat.mul_add]; omega
    rw [e', Nat.mul_add_div hD, Nat.mul_add_mod, Nat.div_eq_of_lt (by omega), Nat.mod_eq_of_lt (by omega)]; exact ⟨rfl, rfl⟩
/-- What a reciprocal is. -/
theorem recip_bounds {B D V : Nat} (hD : 0 < D) (hB : 0 < B) (hV : V = (B * B - 1) / D) : V * D ≤ B * B ∧ B * B ≤ V * D + D := by
  have h1 := Nat.div_add_mod (B * B - 1) D
  have h2 := Nat.mod_lt (B * B - 1) hD
  have h3 : 0 < B * B := Nat.mul_pos hB hB
  rw [← hV, Nat.mul_comm] at h1
  omega
end Go.Proofs.YtamkglgiaiejkaaGreatDoor
