/-! Numbers as digits of base 2^32, the lowest first, plainly. -/
namespace Go.Proofs.YtamkglgiaiejkaaGreatDoor

/-- What digits are worth. -/
def val : List Nat → Nat
  | [] => 0
  | d :: l => d + 4294967296 * val l
/-- Digits. -/
def Digs (l : List Nat) : Prop := ∀ d ∈ l, d < 4294967296
/-- The digits of a number, none of them a zero at the end. -/
def digs (n : Nat) : List Nat := if h : n = 0 then [] else n % 4294967296 :: digs (n / 4294967296)
  termination_by n
  decreasing_by omega
theorem digs_zero : digs 0 = [] := by rw [digs]; rfl
theorem digs_pos {n : Nat} (h : 0 < n) : digs n = n % 4294967296 :: digs (n / 4294967296) := by rw [digs, dif_neg (by omega)]
theorem val_digs (n : Nat) : val (digs n) = n := by
  induction n using Nat.strongRecOn with
  | _ n ih =>
    rcases Nat.eq_zero_or_pos n with h | h
    · rw [h, digs_zero]; rfl
    · rw [digs_pos h, val, ih _ (by omega)]
      omega
theorem digs_digs (n : Nat) : Digs (digs n) := by
  induction n using Nat.strongRecOn with
  | _ n ih =>
    rcases Nat.eq_zero_or_pos n with h | h
    · rw [h, digs_zero]; intro d hd; cases hd
    · rw [digs_pos h]
      intro d hd
      rcases List.mem_cons.1 hd with rfl | hd
      · omega
      · exact ih _ (by omega) d hd
theorem digs_nil {n : Nat} : digs n = [] ↔ n = 0 := by
  constructor
  · intro h
    have := val_digs n
    rw [h] at this
    exact this.symm
  · rintro rfl
    exact digs_zero
theorem val_append : ∀ l m : List Nat, val (l ++ m) = val l + 4294967296 ^ l.length * val m
  | [], m => by simp [val]
  | d :: l, m => by
    rw [List.cons_append, val, val, val_append l m, List.length_cons, Nat.pow_succ, Nat.mul_add, Nat.mul_comm (4294967296 ^ l.length) 4294967296, ← Nat.mul_assoc]
    omega
theorem val_lt : ∀ {l : List Nat}, Digs l → val l < 4294967296 ^ l.length
  | [], _ => by simp [val]
  | d :: l, h => by
    have h1 := val_lt (l := l) (fun x hx => h x (List.mem_cons_of_mem _ hx))
    have h2 := h d List.mem_cons_self
    rw [val, List.length_cons, Nat.pow_succ]
    omega
theorem val_replicate (n : Nat) : val (List.replicate n 0) = 0 := by
  induction n with
  | zero => rfl
  | succ n ih => rw [List.replicate_succ, val, ih]
theorem val_take_succ (l : List Nat) (k : Nat) (hk : k < l.length) : val (l.take (k + 1)) = val (l.take k) + 4294967296 ^ k * l[k] := by
  rw [List.take_succ_eq_append_getElem hk, val_append, List.length_take, Nat.min_eq_left (by omega)]
  simp [val]
theorem val_take_all (l : List Nat) (k : Nat) (hk : l.length ≤ k) : val (l.take k) = val l := by rw [List.take_of_length_le hk]
theorem Digs.take {l : List Nat} (h : Digs l) (k : Nat) : Digs (l.take k) := fun d hd => h d (List.mem_of_mem_take hd)
theorem Digs.append {l m : List Nat} (h : Digs l) (h' : Digs m) : Digs (l ++ m) := fun d hd => by
  rcases List.mem_append.1 hd with hd | hd
  · exact h d hd
  · exact h' d hd
theorem Digs.get {l : List Nat} (h : Digs l) (k : Nat) (hk : k < l.length) : l[k] < 4294967296 := h _ (List.getElem_mem hk)
/-- Digits without a zero at the end are the number's digits. -/
theorem digs_val : ∀ {l : List Nat}, Digs l → (∀ h : 0 < l.length, l[l.length - 1] ≠ 0) → digs (val l) = l
  | [], _, _ => digs_zero
  | [d], h, hl => by
    have h1 := h d List.mem_cons_self
    have h2 : d ≠ 0 := hl (by simp)
    rw [val, val, digs_pos (by omega)]
    rw [show (d + 4294967296 * 0) % 4294967296 = d by omega, show (d + 4294967296 * 0) / 4294967296 = 0 by omega, digs_zero]
  | d :: e :: l, h, hl => by
    have h1 := h d List.mem_cons_self
    have ih := digs_val (l := e :: l) (fun x hx => h x (List.mem_cons_of_mem _ hx)) (fun h0 => by
      have := hl (by simp)
      simpa using this)
    have hpos : 0 < val (e :: l) := by
      rcases Nat.eq_zero_or_pos (val (e :: l)) with h0 | h0
      · rw [h0, digs_zero] at ih; cases ih
      · exact h0
    rw [val, digs_pos (by omega)]
    rw [show (d + 4294967296 * val (e :: l)) % 4294967296 = d by omega, show (d + 4294967296 * val (e :: l)) / 4294967296 = val (e :: l) by omega, ih]
/-- Zeros at the end are worth nothing. -/
theorem val_take_zero (l : List Nat) (k : Nat) (hk : k < l.length) (h0 : l[k] = 0) (h : val (l.take (k + 1)) = val l) : val (l.take k) = val l := by
  rw [← h, val_take_succ l k hk, h0]
  omega
/-- The digits that are left when zeros at the end are cut off. -/
theorem trim_done {l : List Nat} (hl : Digs l) (k : Nat) (hk : k ≤ l.length) (hv : val (l.take k) = val l) (hd : k = 0 ∨ ∃ h : k - 1 < l.length, l[k - 1] ≠ 0) : l.take k = digs (val l) := by
  rw [← hv]
  refine (digs_val (hl.take k) (fun h => ?_)).symm
  rw [List.length_take, Nat.min_eq_left hk] at h
  rcases hd with rfl | ⟨h1, h2⟩
  · omega
  · rw [List.getElem_take]
    simpa [List.length_take, Nat.min_eq_left hk] using h2
/-- How many digits there are. -/
theorem digs_length_le {n k : Nat} (h : n < 4294967296 ^ k) : (digs n).length ≤ k := by
  induction k generalizing n with
  | zero =>
    have : n = 0 := by simpa using h
    rw [this, digs_zero]; exact Nat.le_refl _
  | succ k ih =>
    rcases Nat.eq_zero_or_pos n with h0 | h0
    · rw [h0, digs_zero]; exact Nat.zero_le _
    · rw [digs_pos h0, List.length_cons]
      have := ih (n := n / 4294967296) (Nat.div_lt_of_lt_mul (by rw [Nat.pow_succ, Nat.mul_comm] at h; exact h))
      omega
theorem digs_top {n : Nat} (h : 0 < (digs n).length) : (digs n)[(digs n).length - 1] ≠ 0 := by
  induction n using Nat.strongRecOn with
  | _ n ih =>
    rcases Nat.eq_zero_or_pos n with h0 | h0
    · subst h0
      simp [digs_zero] at h
    · by_cases h1 : n / 4294967296 = 0
      · have e : digs n = [n % 4294967296] := by rw [digs_pos h0, h1, digs_zero]
        simp only [e, List.length_singleton]
        show n % 4294967296 ≠ 0
        omega
      · have h2 : 0 < (digs (n / 4294967296)).length := by
          rcases Nat.eq_zero_or_pos (digs (n / 4294967296)).length with e | e
          · exact absurd (digs_nil.1 (List.eq_nil_of_length_eq_zero e)) h1
          · exact e
        have := ih (n / 4294967296) (by omega) h2
        simp only [digs_pos h0, List.length_cons, Nat.add_sub_cancel]
        rw [List.getElem_cons, dif_neg (by omega)]
        exact this
theorem pow_le_of_top {l : List Nat} (h : 0 < l.length) (ht : l[l.length - 1] ≠ 0) : 4294967296 ^ (l.length - 1) ≤ val l := by
  have h1 := val_take_succ l (l.length - 1) (by omega)
  rw [show l.length - 1 + 1 = l.length by omega, List.take_length] at h1
  have h2 : 4294967296 ^ (l.length - 1) * 1 ≤ 4294967296 ^ (l.length - 1) * l[l.length - 1] := Nat.mul_le_mul_left _ (by omega)
  omega
/-- Fewer digits: a smaller number. -/
theorem lt_of_length {a b : Nat} (h : (digs a).length < (digs b).length) : a < b := by
  have h1 := val_lt (digs_digs a)
  have h2 := pow_le_of_top (l := digs b) (by omega) (digs_top (by omega))
  rw [val_digs] at h1 h2
  have h3 : 4294967296 ^ (digs a).length ≤ 4294967296 ^ ((digs b).length - 1) := Nat.pow_le_pow_right (by omega) (by omega)
  omega
/-- The digits above a place are the same, there is a smaller one at it. -/
theorem lt_of_digit {l m : List Nat} (hl : Digs l) (i : Nat) (hi : i < l.length) (hi' : i < m.length) (hd : l.drop (i + 1) = m.drop (i + 1)) (h : l[i] < m[i]) : val l < val m := by
  have e1 : val l = val (l.take i) + 4294967296 ^ i * l[i] + 4294967296 ^ (i + 1) * val (l.drop (i + 1)) := by
    rw [← val_take_succ l i hi]
    conv => lhs; rw [← List.take_append_drop (i + 1) l, val_append]
    rw [List.length_take, Nat.min_eq_left (by omega)]
  have e2 : val m = val (m.take i) + 4294967296 ^ i * m[i] + 4294967296 ^ (i + 1) * val (m.drop (i + 1)) := by
    rw [← val_take_succ m i hi']
    conv => lhs; rw [← List.take_append_drop (i + 1) m, val_append]
    rw [List.length_take, Nat.min_eq_left (by omega)]
  have h1 := val_lt (hl.take i)
  rw [List.length_take, Nat.min_eq_left (by omega)] at h1
  have h2 : 4294967296 ^ i * (l[i] + 1) ≤ 4294967296 ^ i * m[i] := Nat.mul_le_mul_left _ h
  rw [Nat.mul_succ] at h2
  rw [e1, e2, hd]
  omega
theorem val_take_getD (l : List Nat) (k : Nat) : val (l.take (k + 1)) = val (l.take k) + 4294967296 ^ k * l.getD k 0 := by
  by_cases hk : k < l.length
  · rw [val_take_succ l k hk, List.getD_eq_getElem?_getD, List.getElem?_eq_getElem hk]; rfl
  · rw [List.take_of_length_le (by omega), List.take_of_length_le (by omega), List.getD_eq_getElem?_getD, List.getElem?_eq_none (by omega)]
    simp
/-- A sum, one digit on. -/
theorem add_step {a b out : List Nat} {c t : Nat} (h : val out + c * 4294967296 ^ out.length = val (a.take out.length) + val (b.take out.length)) (ht : t = c + a.getD out.length 0 + b.getD out.length 0) :
    val (out ++ [t % 4294967296]) + t / 4294967296 * 4294967296 ^ (out.length + 1) = val (a.take (out.length + 1)) + val (b.take (out.length + 1)) := by
  rw [val_append, val_take_getD, val_take_getD, Nat.pow_succ]
  have h1 := Nat.div_add_mod t 4294967296
  generalize 4294967296 ^ out.length = P at *
  have h2 : P * t = P * c + P * a.getD out.length 0 + P * b.getD out.length 0 := by rw [ht, Nat.mul_add, Nat.mul_add]
  have h3 : P * t = P * 4294967296 * (t / 4294967296) + P * (t % 4294967296) := by
    conv => lhs; rw [← h1, Nat.mul_add, ← Nat.mul_assoc]
  have h4 : t / 4294967296 * (P * 4294967296) = P * 4294967296 * (t / 4294967296) := Nat.mul_comm _ _
  have h5 : c * P = P * c := Nat.mul_comm _ _
  simp only [val, Nat.mul_zero, Nat.add_zero]
  omega
theorem val_set (l : List Nat) (j v : Nat) (hj : j < l.length) : val (l.set j v) + 4294967296 ^ j * l[j] = val l + 4294967296 ^ j * v := by
  induction l generalizing j with
  | nil => simp at hj
  | cons d l ih =>
    cases j with
    | zero =>
      simp only [List.set_cons_zero, val, List.getElem_cons_zero, Nat.pow_zero, Nat.one_mul]
      omega
    | succ j =>
      have h := ih j (by simpa using hj)
      simp only [List.set_cons_succ, val, List.getElem_cons_succ, Nat.pow_succ]
      have e1 : 4294967296 ^ j * 4294967296 * l[j]'(by simpa using hj) = 4294967296 * (4294967296 ^ j * l[j]'(by simpa using hj)) := by rw [Nat.mul_comm (4294967296 ^ j), Nat.mul_assoc]
      have e2 : 4294967296 ^ j * 4294967296 * v = 4294967296 * (4294967296 ^ j * v) := by rw [Nat.mul_comm (4294967296 ^ j), Nat.mul_assoc]
      rw [e1, e2]
      omega
/-- A difference, one digit on. -/
theorem sub_step {a b o : List Nat} {k r d r' : Nat} (hk : k < o.length) (h : val (o.take k) + val (b.take k) = val (a.take k) + r * 4294967296 ^ k) (hd : d + r + b.getD k 0 = a.getD k 0 + r' * 4294967296) :
    val ((o.set k d).take (k + 1)) + val (b.take (k + 1)) = val (a.take (k + 1)) + r' * 4294967296 ^ (k + 1) := by
  have e1 : val ((o.set k d).take (k + 1)) = val (o.take k) + 4294967296 ^ k * d := by
    rw [val_take_succ _ k (by rw [List.length_set]; exact hk), List.take_set_of_le (Nat.le_refl _), List.getElem_set_self]
  rw [e1, val_take_getD, val_take_getD, Nat.pow_succ]
  generalize 4294967296 ^ k = P at *
  have h2 : P * d + P * r + P * b.getD k 0 = P * a.getD k 0 + P * (r' * 4294967296) := by rw [← Nat.mul_add, ← Nat.mul_add, hd, Nat.mul_add]
  have h3 : r' * (P * 4294967296) = P * (r' * 4294967296) := by rw [Nat.mul_left_comm]
  have h4 : r * P = P * r := Nat.mul_comm _ _
  omega
/-- A digit of a number. -/
theorem val_digit {l : List Nat} (hl : Digs l) (j : Nat) : l.getD j 0 = val l / 4294967296 ^ j % 4294967296 := by
  induction l generalizing j with
  | nil => simp [val]
  | cons d l ih =>
    have hd := hl d List.mem_cons_self
    cases j with
    | zero =>
      simp only [List.getD_cons_zero, val, Nat.pow_zero, Nat.div_one]
      omega
    | succ j =>
      rw [List.getD_cons_succ, ih (fun x hx => hl x (List.mem_cons_of_mem _ hx)), val, Nat.pow_succ, Nat.mul_comm (4294967296 ^ j), ← Nat.div_div_eq_div_mul]
      rw [show (d + 4294967296 * val l) / 4294967296 = val l by omega]
/-- A bit of a number. -/
theorem val_bit {l : List Nat} (hl : Digs l) (i : Nat) : l.getD (i / 32) 0 / 2 ^ (i % 32) % 2 = val l / 2 ^ i % 2 := by
  rw [val_digit hl]
  have e : (2 : Nat) ^ i = 4294967296 ^ (i / 32) * 2 ^ (i % 32) := by
    rw [show (4294967296 : Nat) = 2 ^ 32 by decide, ← Nat.pow_mul, ← Nat.pow_add]
    congr 1
    omega
  rw [e, ← Nat.div_div_eq_div_mul]
  generalize val l / 4294967296 ^ (i / 32) = x
  have h32 : i % 32 < 32 := Nat.mod_lt _ (by decide)
  generalize i % 32 = s at *
  have e2 : (4294967296 : Nat) = 2 ^ s * (2 * 2 ^ (31 - s)) := by
    rw [← Nat.pow_succ', ← Nat.pow_add, show (4294967296 : Nat) = 2 ^ 32 by decide]
    congr 1
    omega
  rw [e2, Nat.mod_mul_right_div_self, Nat.mod_mod_of_dvd _ (Nat.dvd_mul_right _ _)]
/-- A bit set where none is, and none below it. -/
theorem or_bit {x s : Nat} (h : x % 2 ^ (s + 1) = 0) : x ||| 2 ^ s = x + 2 ^ s := by
  obtain ⟨y, rfl⟩ : ∃ y, x = 2 ^ (s + 1) * y := ⟨x / 2 ^ (s + 1), by rw [Nat.mul_comm, Nat.div_mul_cancel (Nat.dvd_of_mod_eq_zero h)]⟩
  rw [← Nat.two_pow_add_eq_or_of_lt (Nat.pow_lt_pow_right (by omega) (Nat.lt_succ_self s))]
/-- Division, one bit on. -/
theorem div_step {A b i r : Nat} (hb : 0 < b) (hr : r = A / 2 ^ (i + 1) % b) :
    (b ≤ 2 * r + A / 2 ^ i % 2 → 2 * r + A / 2 ^ i % 2 - b = A / 2 ^ i % b ∧ A / 2 ^ i / b = 2 * (A / 2 ^ (i + 1) / b) + 1) ∧
    (2 * r + A / 2 ^ i % 2 < b → 2 * r + A / 2 ^ i % 2 = A / 2 ^ i % b ∧ A / 2 ^ i / b = 2 * (A / 2 ^ (i + 1) / b)) := by
  have e : A / 2 ^ (i + 1) = A / 2 ^ i / 2 := by rw [Nat.pow_succ, Nat.div_div_eq_div_mul]
  rw [e] at hr ⊢
  generalize A / 2 ^ i = x at *
  have h1 := Nat.div_add_mod (x / 2) b
  have h2 := Nat.mod_lt (x / 2) hb
  rw [← hr] at h1 h2
  generalize x / 2 / b = q at *
  have hx : x = b * (2 * q) + (2 * r + x % 2) := by
    have : b * (2 * q) = 2 * (b * q) := by rw [Nat.mul_left_comm]
    omega
  generalize hbit : x % 2 = t at *
  have ht : t < 2 := by omega
  constructor
  · intro h
    have hx' : x = b * (2 * q + 1) + (2 * r + t - b) := by rw [Nat.mul_add, Nat.mul_one]; omega
    constructor
    · rw [hx', Nat.mul_add_mod, Nat.mod_eq_of_lt (by omega)]
    · rw [hx', Nat.mul_add_div hb, Nat.div_eq_of_lt (by omega)]
  · intro h
    constructor
    · rw [hx, Nat.mul_add_mod, Nat.mod_eq_of_lt h]
    · rw [hx, Nat.mul_add_div hb, Nat.div_eq_of_lt h]; rfl
end Go.Proofs.YtamkglgiaiejkaaGreatDoor

/-! Products and quotients of digits, decimal digits, rounding: plainly. -/
namespace Go.Proofs.YtamkglgiaiejkaaGreatDoor

theorem getD_eq {l : List Nat} {j : Nat} (h : j < l.length) : l.getD j 0 = l[j] := by rw [List.getD_eq_getElem?_getD, List.getElem?_eq_getElem h]; rfl
/-- One digit of a product: what is set, what is carried. -/
theorem mul_step {o : List Nat} {j c x y t V : Nat} (hj : j < o.length) (h : val o + c * 4294967296 ^ j = V) (ht : t = c + (x * y + o.getD j 0)) :
    val (o.set j (t % 4294967296)) + t / 4294967296 * 4294967296 ^ (j + 1) = V + 4294967296 ^ j * (x * y) := by
  have h1 := val_set o j (t % 4294967296) hj
  rw [getD_eq hj] at ht
  have h2 := Nat.div_add_mod t 4294967296
  rw [Nat.pow_succ]
  generalize 4294967296 ^ j = P at *
  have h3 : t / 4294967296 * (P * 4294967296) = P * (4294967296 * (t / 4294967296)) := by rw [Nat.mul_comm, Nat.mul_assoc]
  have h4 : P * (4294967296 * (t / 4294967296)) + P * (t % 4294967296) = P * t := by rw [← Nat.mul_add, h2]
  have h5 : P * t = P * c + (P * (x * y) + P * o[j]) := by rw [ht, Nat.mul_add, Nat.mul_add]
  have h6 : c * P = P * c := Nat.mul_comm _ _
  omega
/-- A digit's product does not grow too great. -/
theorem mul_bound {c x y z : Nat} (hc : c < 4294967296) (hx : x < 4294967296) (hy : y < 4294967296) (hz : z < 4294967296) : x * y + z < 18446744073709551616 ∧ c + (x * y + z) < 18446744073709551616 ∧ (c + (x * y + z)) / 4294967296 < 4294967296 ∧ x * y < 18446744073709551616 := by
  have : x * y ≤ 4294967295 * 4294967295 := Nat.mul_le_mul (by omega) (by omega)
  omega
/-- The last digit of a row: nothing lay there. -/
theorem mul_last {o : List Nat} {j c V : Nat} (hj : j < o.length) (h : val o + c * 4294967296 ^ j = V) (h0 : o.getD j 0 = 0) : val (o.set j c) = V := by
  have h1 := val_set o j c hj
  rw [getD_eq hj] at h0
  rw [h0, Nat.mul_zero, Nat.add_zero, Nat.mul_comm] at h1
  omega
theorem Digs.set {l : List Nat} (h : Digs l) (j d : Nat) (hd : d < 4294967296) : Digs (l.set j d) := fun z hz => by
  rcases List.mem_or_eq_of_mem_set hz with h1 | h1
  · exact h z h1
  · rw [h1]; exact hd
theorem getD_set_ne {l : List Nat} {i j d : Nat} (h : i ≠ j) : (l.set i d).getD j 0 = l.getD j 0 := by
  rw [List.getD_eq_getElem?_getD, List.getD_eq_getElem?_getD, List.getElem?_set_ne h]
theorem getD_replicate (n j : Nat) : (List.replicate n 0).getD j 0 = 0 := by
  rw [List.getD_eq_getElem?_getD, List.getElem?_replicate]
  split <;> rfl
/-- A quotient's bit is set. -/
theorem quot_bit {l : List Nat} (hl : Digs l) {i X : Nat} (hi : i / 32 < l.length) (h : val l = 2 ^ (i + 1) * X) :
    l.getD (i / 32) 0 ||| 2 ^ (i % 32) < 4294967296 ∧ val (l.set (i / 32) (l.getD (i / 32) 0 ||| 2 ^ (i % 32))) = 2 ^ i * (2 * X + 1) := by
  have hs : i % 32 < 32 := Nat.mod_lt _ (by decide)
  have e : (2 : Nat) ^ (i + 1) = 4294967296 ^ (i / 32) * 2 ^ (i % 32 + 1) := by
    rw [show (4294967296 : Nat) = 2 ^ 32 by decide, ← Nat.pow_mul, ← Nat.pow_add]
    congr 1
    omega
  have e' : (2 : Nat) ^ i = 4294967296 ^ (i / 32) * 2 ^ (i % 32) := by
    rw [show (4294967296 : Nat) = 2 ^ 32 by decide, ← Nat.pow_mul, ← Nat.pow_add]
    congr 1
    omega
  have hdig := val_digit hl (i / 32)
  have hdiv : l.getD (i / 32) 0 % 2 ^ (i % 32 + 1) = 0 := by
    rw [hdig, h, e, Nat.mul_assoc, Nat.mul_div_cancel_left _ (Nat.pow_pos (by decide))]
    have e2 : (4294967296 : Nat) = 2 ^ (i % 32 + 1) * 2 ^ (31 - i % 32) := by
      rw [← Nat.pow_add, show (4294967296 : Nat) = 2 ^ 32 by decide]
      congr 1
      omega
    rw [e2, Nat.mod_mod_of_dvd _ (Nat.dvd_mul_right _ _), Nat.mul_mod_right]
  have hor := or_bit hdiv
  have hlt : l.getD (i / 32) 0 < 4294967296 := by rw [hdig]; exact Nat.mod_lt _ (by decide)
  constructor
  · exact Nat.or_lt_two_pow (n := 32) hlt (Nat.pow_lt_pow_right (by decide) hs)
  · rw [hor]
    have h1 := val_set l (i / 32) (l.getD (i / 32) 0 + 2 ^ (i % 32)) hi
    rw [getD_eq hi, Nat.mul_add, ← e'] at h1
    rw [getD_eq hi]
    have : 2 ^ i * (2 * X + 1) = 2 ^ (i + 1) * X + 2 ^ i := by rw [Nat.mul_add, Nat.mul_one, Nat.pow_succ, Nat.mul_assoc]
    rw [this, ← h]
    omega
/-- How many decimal digits a number has. -/
def declen (n : Nat) : Nat := if h : n < 10 then 1 else declen (n / 10) + 1
  termination_by n
  decreasing_by omega
theorem declen_small {n : Nat} (h : n < 10) : declen n = 1 := by rw [declen, dif_pos h]
theorem declen_big {n : Nat} (h : ¬ n < 10) : declen n = declen (n / 10) + 1 := by rw [declen, dif_neg h]
theorem declen_pos (n : Nat) : 1 ≤ declen n := by
  by_cases h : n < 10
  · rw [declen_small h]; exact Nat.le_refl _
  · rw [declen_big h]; omega
theorem declen_le (n : Nat) : ∀ p : Nat, declen n ≤ p + 1 ↔ n < 10 ^ (p + 1) := by
  induction n using Nat.strongRecOn with
  | _ n ih =>
    intro p
    by_cases h : n < 10
    · rw [declen_small h]
      have : 10 ^ 1 ≤ 10 ^ (p + 1) := Nat.pow_le_pow_right (by decide) (by omega)
      constructor
      · intro _; omega
      · intro _; omega
    · rw [declen_big h]
      cases p with
      | zero =>
        have := declen_pos (n / 10)
        constructor
        · intro h1; omega
        · intro h1; omega
      | succ p =>
        have := ih (n / 10) (by omega) p
        rw [Nat.pow_succ 10 (p + 1)]
        constructor
        · intro h1
          have := this.1 (by omega)
          omega
        · intro h1
          have := this.2 (by omega)
          omega
theorem declen_lt {n p : Nat} (hp : 1 ≤ p) : declen n ≤ p ↔ n < 10 ^ p := by
  obtain ⟨q, rfl⟩ : ∃ q, p = q + 1 := ⟨p - 1, by omega⟩
  exact declen_le n q
end Go.Proofs.YtamkglgiaiejkaaGreatDoor
