import Derived.WalkKit
/-! Bits as arithmetic. -/
namespace Go.Proofs.YtdamippibpbjhaaGreatDoor
open Go.RowKit

theorem wrap_u64_id {x : Int} (h0 : 0 ≤ x) (h1 : x < 18446744073709551616) : IntKind.u64.wrap x = x := by rw [IntKind.wrap_u64]; omega
theorem wraps_u64' (n : Int) (h₀ : 0 ≤ n) (h₁ : n < 2 ^ 64) : IntKind.u64.wrap n = n := wrap_u64_id h₀ (by simpa using h₁)
theorem u8_and127 {x : Int} (h0 : 0 ≤ x) (h1 : x < 256) : bits .and .u8 x 127 = x % 128 := bits_mask .u8 8 (by decide) wraps_u8 7 (by decide) x h0 h1
theorem u64_mask {x : Int} (i : Nat) (hi : i ≤ 64) (h0 : 0 ≤ x) (h1 : x < 18446744073709551616) : bits .and .u64 x (2 ^ i - 1) = x % 2 ^ i :=
  bits_mask .u64 64 (by decide) wraps_u64' i hi x h0 (by simpa using h1)
/-- Low bits and a multiple of 2^i that fits. -/
theorem u64_or_pow {x y : Int} (i : Nat) (hx0 : 0 ≤ x) (hx : x < 2 ^ i) (hy0 : 0 ≤ y) (hy : y * 2 ^ i < 18446744073709551616) (hx1 : x < 18446744073709551616) : bits .or .u64 x (y * 2 ^ i) = x + y * 2 ^ i := by
  have hp : (0 : Int) < 2 ^ i := Int.pow_pos (by decide)
  have h := bits_join .u64 64 (by decide) wraps_u64' i (y * 2 ^ i) x (Int.mul_nonneg hy0 (by omega)) (Int.mul_emod_left _ _) (by simpa using hy) hx0 hx (by simpa using hx1)
  have hc : bits .or .u64 x (y * 2 ^ i) = bits .or .u64 (y * 2 ^ i) x := by
    simp only [bits]
    rw [BitVec.or_comm]
  rw [hc, h]; omega

theorem pow128 (k : Nat) : (128 : Int) ^ k = 2 ^ (7 * k) := by
  rw [show (128 : Int) = 2 ^ 7 from rfl, ← Int.pow_mul]
theorem pow_le_of {a b : Nat} (h : a ≤ b) : (2 : Int) ^ a ≤ 2 ^ b := by exact_mod_cast Nat.pow_le_pow_right (by decide) h
theorem pow_pos' (a : Nat) : (0 : Int) < 2 ^ a := Int.pow_pos (by decide)

/-- What n bytes from place o on spell, seven bits each. -/
def lebv (D : List Int) (o : Nat) : Nat → Int
  | 0 => 0
  | n + 1 => lebv D o n + (D.getD (o + n) 0 % 128) * 128 ^ n
theorem lebv_bound (D : List Int) (o : Nat) : ∀ n, 0 ≤ lebv D o n ∧ lebv D o n < 2 ^ (7 * n)
  | 0 => by simp [lebv]
  | n + 1 => by
    obtain ⟨h0, h1⟩ := lebv_bound D o n
    have hm : 0 ≤ D.getD (o + n) 0 % 128 ∧ D.getD (o + n) 0 % 128 < 128 := ⟨by omega, by omega⟩
    have hp := pow_pos' (7 * n)
    have e : (2 : Int) ^ (7 * (n + 1)) = 128 * 2 ^ (7 * n) := by rw [Nat.mul_add, Int.pow_add]; simp [Int.mul_comm]
    have e2 : lebv D o (n + 1) = lebv D o n + D.getD (o + n) 0 % 128 * 2 ^ (7 * n) := by rw [← pow128]; rfl
    have h2 : D.getD (o + n) 0 % 128 * 2 ^ (7 * n) ≤ 127 * 2 ^ (7 * n) := Int.mul_le_mul_of_nonneg_right (by omega) (by omega)
    have h3 : 0 ≤ D.getD (o + n) 0 % 128 * 2 ^ (7 * n) := Int.mul_nonneg hm.1 (by omega)
    rw [e, e2]
    omega
theorem leb_more {x b : Int} {k : Nat} (hk : k ≤ 8) (hx0 : 0 ≤ x) (hx : x < 2 ^ (7 * k)) (hb : 0 ≤ b ∧ b < 256) :
    bits .or .u64 x (IntKind.u64.wrap (IntKind.u64.wrap (bits .and .u8 b 127) * 2 ^ (7 * k))) = x + b % 128 * 128 ^ k := by
  have hp := pow_pos' (7 * k)
  have h56 : (2 : Int) ^ (7 * k) ≤ 2 ^ 56 := pow_le_of (by omega)
  have hm : 0 ≤ b % 128 ∧ b % 128 < 128 := ⟨by omega, by omega⟩
  rw [u8_and127 hb.1 hb.2, wrap_u64_id hm.1 (by omega), pow128]
  have h1 : b % 128 * 2 ^ (7 * k) < 128 * 2 ^ (7 * k) := Int.mul_lt_mul_of_pos_right hm.2 hp
  have h0 : 0 ≤ b % 128 * 2 ^ (7 * k) := Int.mul_nonneg hm.1 (by omega)
  have h128 : 128 * (2 : Int) ^ (7 * k) < 18446744073709551616 := by
    have : (2 : Int) ^ 56 = 72057594037927936 := by decide
    omega
  rw [wrap_u64_id h0 (by omega)]
  exact u64_or_pow _ hx0 hx hm.1 (by omega) (by omega)
theorem leb_last {x b : Int} {k : Nat} (hk : k ≤ 9) (hx0 : 0 ≤ x) (hx : x < 2 ^ (7 * k)) (hb : 0 ≤ b ∧ b < 128) (h9 : k = 9 → b ≤ 1) :
    bits .or .u64 x (IntKind.u64.wrap (b * 2 ^ (7 * k))) = x + b % 128 * 128 ^ k := by
  have hp := pow_pos' (7 * k)
  have hm : b % 128 = b := by omega
  rw [hm, pow128]
  have h63 : (2 : Int) ^ (7 * k) ≤ 2 ^ 63 := pow_le_of (by omega)
  have e63 : (2 : Int) ^ 63 = 9223372036854775808 := by decide
  have h0 : 0 ≤ b * 2 ^ (7 * k) := Int.mul_nonneg hb.1 (by omega)
  have h1 : b * 2 ^ (7 * k) < 18446744073709551616 := by
    by_cases e : k = 9
    · have h2 : b * 2 ^ (7 * k) ≤ 1 * 2 ^ (7 * k) := Int.mul_le_mul_of_nonneg_right (h9 e) (by omega)
      omega
    · have h56 : (2 : Int) ^ (7 * k) ≤ 2 ^ 56 := pow_le_of (by omega)
      have e56 : (2 : Int) ^ 56 = 72057594037927936 := by decide
      have h2 : b * 2 ^ (7 * k) ≤ 128 * 2 ^ (7 * k) := Int.mul_le_mul_of_nonneg_right (by omega) (by omega)
      omega
  rw [wrap_u64_id h0 h1]
  exact u64_or_pow _ hx0 hx hb.1 h1 (by omega)
theorem leb_last9 {x b : Int} (hx0 : 0 ≤ x) (hx : x < 2 ^ (7 * 9)) (hb : 0 ≤ b) (h9 : b ≤ 1) :
    bits .or .u64 x (b * 9223372036854775808) = x + b % 128 * 128 ^ 9 := by
  have h := u64_or_pow (x := x) (y := b) 63 hx0 hx hb (by have e63 : (2 : Int) ^ 63 = 9223372036854775808 := by decide
                                                          omega) (by have e63 : (2 : Int) ^ (7 * 9) = 9223372036854775808 := by decide
                                                                     omega)
  rw [show (2 : Int) ^ 63 = 9223372036854775808 from by decide] at h
  rw [h, show b % 128 = b from by omega, show (128 : Int) ^ 9 = 9223372036854775808 from by decide]
end Go.Proofs.YtdamippibpbjhaaGreatDoor

/-! Bytes as one great number; its bits. -/
namespace Go.Proofs.YtdamippibpbjhaaGreatDoor

/-- The number that bytes spell, the least byte first. -/
def num : List Int → Nat
  | [] => 0
  | x :: l => x.toNat + 256 * num l
/-- n bits from place p on. -/
def bitsAt (D : List Int) (p n : Nat) : Nat := num D / 2 ^ p % 2 ^ n
def Bytes (D : List Int) : Prop := ∀ j, 0 ≤ D.getD j 0 ∧ D.getD j 0 < 256

theorem Bytes.tail {x : Int} {l : List Int} (h : Bytes (x :: l)) : Bytes l := fun j => by simpa using h (j + 1)
theorem num_drop : ∀ (D : List Int), Bytes D → ∀ o, num (D.drop o) = num D / 256 ^ o
  | [], _, o => by simp [num]
  | x :: l, h, 0 => by simp
  | x :: l, h, o + 1 => by
    have hx := h 0
    simp at hx
    rw [List.drop_succ_cons, num_drop l h.tail o, Nat.pow_succ, Nat.mul_comm, ← Nat.div_div_eq_div_mul]
    congr 1
    simp only [num]
    omega
theorem num_head (D : List Int) (h : Bytes D) : D.getD 0 0 = ((num D % 256 : Nat) : Int) := by
  cases D with
  | nil => rfl
  | cons x l =>
    have hx := h 0
    simp at hx
    simp only [num, List.getD_cons_zero]
    omega
theorem Bytes.drop {D : List Int} (h : Bytes D) (o : Nat) : Bytes (D.drop o) := fun j => by
  have := h (o + j)
  simpa [List.getD_eq_getElem?_getD] using this
theorem num_byte (D : List Int) (h : Bytes D) (o : Nat) : D.getD o 0 = ((num D / 256 ^ o % 256 : Nat) : Int) := by
  have := num_head (D.drop o) (h.drop o)
  rw [num_drop D h o] at this
  rw [← this]
  simp [List.getD_eq_getElem?_getD]
theorem num_lt : ∀ (D : List Int), Bytes D → num D < 256 ^ D.length
  | [], _ => by simp [num]
  | x :: l, h => by
    have hx := h 0
    simp at hx
    have := num_lt l h.tail
    simp only [num, List.length_cons, Nat.pow_succ]
    omega
theorem bitsAt_byte (D : List Int) (h : Bytes D) (o : Nat) : D.getD o 0 = (bitsAt D (8 * o) 8 : Nat) := by
  rw [num_byte D h o]
  unfold bitsAt
  rw [Nat.pow_mul]
theorem bitsAt_lt (D : List Int) (p n : Nat) : bitsAt D p n < 2 ^ n := Nat.mod_lt _ (Nat.two_pow_pos n)
/-- Cut in two. -/
theorem bitsAt_add (D : List Int) (p m n : Nat) : bitsAt D p (m + n) = bitsAt D p m + 2 ^ m * bitsAt D (p + m) n := by
  unfold bitsAt
  rw [Nat.pow_add, Nat.pow_add, ← Nat.div_div_eq_div_mul, Nat.mod_mul]
/-- Bits of bits. -/
theorem bitsAt_bits (D : List Int) (p k m n : Nat) (h : m + n ≤ k) : bitsAt D p k / 2 ^ m % 2 ^ n = bitsAt D (p + m) n := by
  have e1 : k = m + (n + (k - m - n)) := by omega
  rw [e1, bitsAt_add, Nat.add_mul_div_left _ _ (Nat.two_pow_pos m), Nat.div_eq_of_lt (bitsAt_lt _ _ _), Nat.zero_add, bitsAt_add, Nat.add_mul_mod_self_left, Nat.mod_eq_of_lt (bitsAt_lt _ _ _)]
theorem bitsAt_mod (D : List Int) (p k n : Nat) (h : n ≤ k) : bitsAt D p k % 2 ^ n = bitsAt D p n := by
  have := bitsAt_bits D p k 0 n (by omega)
  simpa using this
/-- The number that eight bytes spell from a place on (zeros where there are none). -/
def le64 (D : List Int) (o : Nat) : Int := D.getD o 0 + D.getD (o + 1) 0 * 256 + D.getD (o + 2) 0 * 65536 + D.getD (o + 3) 0 * 16777216 + D.getD (o + 4) 0 * 4294967296 + D.getD (o + 5) 0 * 1099511627776 + D.getD (o + 6) 0 * 281474976710656 + D.getD (o + 7) 0 * 72057594037927936

theorem le64_bits (D : List Int) (h : Bytes D) (o : Nat) : le64 D o = (bitsAt D (8 * o) 64 : Nat) := by
  unfold le64
  rw [bitsAt_byte D h o, bitsAt_byte D h (o + 1), bitsAt_byte D h (o + 2), bitsAt_byte D h (o + 3), bitsAt_byte D h (o + 4), bitsAt_byte D h (o + 5), bitsAt_byte D h (o + 6), bitsAt_byte D h (o + 7)]
  have h1 := bitsAt_add D (8 * o) 8 56
  have h2 := bitsAt_add D (8 * o + 8) 8 48
  have h3 := bitsAt_add D (8 * o + 16) 8 40
  have h4 := bitsAt_add D (8 * o + 24) 8 32
  have h5 := bitsAt_add D (8 * o + 32) 8 24
  have h6 := bitsAt_add D (8 * o + 40) 8 16
  have h7 := bitsAt_add D (8 * o + 48) 8 8
  rw [show 8 * (o + 1) = 8 * o + 8 by omega, show 8 * (o + 2) = 8 * o + 16 by omega, show 8 * (o + 3) = 8 * o + 24 by omega, show 8 * (o + 4) = 8 * o + 32 by omega, show 8 * (o + 5) = 8 * o + 40 by omega,
    show 8 * (o + 6) = 8 * o + 48 by omega, show 8 * (o + 7) = 8 * o + 56 by omega]
  simp only [Nat.reduceAdd, Nat.add_assoc] at h1 h2 h3 h4 h5 h6 h7
  omega
theorem and_mask (v n : Nat) (hv : v < 2 ^ 64) (h : n < 64) : bits .and .u64 (v : Int) ((18446744073709551615 : Int) / 2 ^ (64 - n)) = ((v % 2 ^ n : Nat) : Int) := by
  have key : ∀ n : Nat, n < 64 → (18446744073709551615 : Int) / 2 ^ (64 - n) = 2 ^ n - 1 := by decide
  rw [key n h, u64_mask n (by omega) (by omega) (by have : v < 18446744073709551616 := by simpa using hv
                                                    omega)]
  simp
end Go.Proofs.YtdamippibpbjhaaGreatDoor

/-! Bits of a part of the bytes. -/
namespace Go.Proofs.YtdamippibpbjhaaGreatDoor
open Go.RowKit
theorem num_take : ∀ (D : List Int), Bytes D → ∀ m, num (D.take m) = num D % 256 ^ m
  | [], _, m => by simp [num]
  | x :: l, h, 0 => by simp [num, Nat.mod_one]
  | x :: l, h, m + 1 => by
    have hx := h 0
    simp at hx
    rw [List.take_succ_cons]
    simp only [num]
    rw [num_take l h.tail m, Nat.pow_succ, Nat.mul_comm (256 ^ m) 256, Nat.mod_mul]
    have e1 : (x.toNat + 256 * num l) % 256 = x.toNat := by omega
    have e2 : (x.toNat + 256 * num l) / 256 = num l := by omega
    rw [e1, e2]
theorem Bytes.take {D : List Int} (h : Bytes D) (m : Nat) : Bytes (D.take m) := fun j => by
  have := h j
  by_cases hj : j < m
  · simpa [List.getD_eq_getElem?_getD, List.getElem?_take, hj] using this
  · simp [List.getD_eq_getElem?_getD, List.getElem?_take, hj]
theorem bitsAt_sub (D : List Int) (h : Bytes D) (j m q n : Nat) (hq : q + n ≤ 8 * m) : bitsAt ((D.drop j).take m) q n = bitsAt D (8 * j + q) n := by
  unfold bitsAt
  rw [num_take _ (h.drop j), num_drop D h, Nat.pow_add, show (256 : Nat) = 2 ^ 8 from rfl, ← Nat.pow_mul, ← Nat.pow_mul, ← Nat.div_div_eq_div_mul]
  generalize num D / 2 ^ (8 * j) = X
  rw [show 8 * m = q + (8 * m - q) by omega, Nat.pow_add, Nat.mod_mul_right_div_self, Nat.mod_mod_of_dvd _ (Nat.pow_dvd_pow 2 (by omega))]
end Go.Proofs.YtdamippibpbjhaaGreatDoor

/-! Numbers in groups of seven bits, and numbers with a sign as numbers without. -/
namespace Go.Proofs.YtdamippibpbjhaaGreatDoor
open Go.RowKit

/-- The number with a sign that a number spells. -/
def unzz (v : Int) : Int := if v % 2 = 0 then v / 2 else -(v / 2) - 1
/-- n more bytes than one spell v from byte o on. -/
structure Leb (D : List Int) (o n : Nat) (v : Int) : Prop where
  n9 : n ≤ 9
  more : ∀ j, j < n → 128 ≤ D.getD (o + j) 0
  last : D.getD (o + n) 0 < 128
  l9 : n = 9 → D.getD (o + n) 0 ≤ 1
  lt : o + n < D.length
  val : lebv D o (n + 1) = v
  v0 : 0 ≤ v
  v1 : v < 18446744073709551616

/-- The number without a sign that a number with one is written as. -/
def zg (x : Int) : Int := if 0 ≤ x then 2 * x else -2 * x - 1
theorem unzz_zg (x : Int) : unzz (zg x) = x := by
  unfold unzz zg
  split <;> split <;> omega

/-- A number in groups of seven bits; f is more than there are. -/
def lebB : Nat → Nat → List Int
  | 0, _ => []
  | f + 1, v => if v < 128 then [(v : Int)] else ((v % 128 + 128 : Nat) : Int) :: lebB f (v / 128)

theorem lebB_bytes : ∀ (f v : Nat), ∀ x ∈ lebB f v, 0 ≤ x ∧ x < 256
  | 0, _ => by simp [lebB]
  | f + 1, v => by
    intro x hx
    unfold lebB at hx
    split at hx
    · simp at hx; omega
    · simp at hx
      rcases hx with rfl | hx
      · omega
      · exact lebB_bytes f _ x hx

theorem lebB_at : ∀ (f v : Nat), v < 128 ^ f → 0 < f → ∃ n, n < f ∧ (lebB f v).length = n + 1 ∧ (∀ j, j < n → 128 ≤ (lebB f v).getD j 0) ∧ (lebB f v).getD n 0 < 128 ∧ (lebB f v).getD n 0 = ((v / 128 ^ n : Nat) : Int) ∧
    lebv (lebB f v) 0 (n + 1) = v
  | 0, _, _, h => absurd h (by omega)
  | f + 1, v, hv, _ => by
    unfold lebB
    by_cases h : v < 128
    · rw [if_pos h]
      refine ⟨0, by omega, by simp, fun j hj => absurd hj (by omega), by simp; omega, by simp, ?_⟩
      simp [lebv]; omega
    · rw [if_neg h]
      have hf : 0 < f := by
        rcases Nat.eq_zero_or_pos f with rfl | h'
        · simp at hv; omega
        · exact h'
      obtain ⟨n, h1, h2, h3, h4, h5, h6⟩ := lebB_at f (v / 128) (by rw [Nat.pow_succ] at hv; omega) hf
      refine ⟨n + 1, by omega, by simp [h2], fun j hj => ?_, by simpa using h4, ?_, ?_⟩
      · cases j with
        | zero => simp; omega
        | succ j => simpa using h3 j (by omega)
      · rw [List.getD_cons_succ, h5, Nat.div_div_eq_div_mul, Nat.pow_succ, Nat.mul_comm (128 ^ n) 128]
      · have key : ∀ (x : Int) (l : List Int) (m : Nat), lebv (x :: l) 0 (m + 1) = x % 128 + 128 * lebv l 0 m := by
          intro x l m
          induction m with
          | zero => simp [lebv]
          | succ m ih =>
            rw [lebv, ih, lebv]
            have e : (x :: l).getD (0 + (m + 1)) 0 = l.getD (0 + m) 0 := by simp
            rw [e, Int.mul_add, Int.pow_succ, ← Int.mul_assoc, Int.mul_comm ((l.getD (0 + m) 0 % 128) * 128 ^ m) 128]
            rw [Int.mul_comm 128 (_ * _)]
            omega
        rw [key, h6]
        omega

theorem getD_mid (pre l post : List Int) (j : Nat) (hj : j < l.length) : (pre ++ l ++ post).getD (pre.length + j) 0 = l.getD j 0 := by
  rw [List.append_assoc, List.getD_eq_getElem?_getD, List.getElem?_append_right (by omega), Nat.add_sub_cancel_left, List.getElem?_append_left hj, List.getD_eq_getElem?_getD]
theorem lebv_pre (pre l post : List Int) : ∀ n, n ≤ l.length → lebv (pre ++ l ++ post) pre.length n = lebv l 0 n
  | 0, _ => rfl
  | n + 1, h => by
    rw [lebv, lebv, lebv_pre pre l post n (by omega)]
    rw [getD_mid _ _ _ _ (by omega), Nat.zero_add]

/-- A number of 64 bits that lies somewhere. -/
theorem lebB_leb (pre post : List Int) (v : Nat) (hv : v < 18446744073709551616) : Leb (pre ++ lebB 10 v ++ post) pre.length ((lebB 10 v).length - 1) v := by
  obtain ⟨n, h1, h2, h3, h4, h5, h6⟩ := lebB_at 10 v (by omega) (by omega)
  have hg : ∀ j, j ≤ n → (pre ++ lebB 10 v ++ post).getD (pre.length + j) 0 = (lebB 10 v).getD j 0 := by
    intro j hj
    exact getD_mid _ _ _ _ (by omega)
  rw [h2, Nat.add_sub_cancel]
  refine ⟨by omega, fun j hj => by rw [hg j (by omega)]; exact h3 j hj, by rw [hg n (by omega)]; exact h4, ?_, by simp [h2]; omega, by rw [lebv_pre _ _ _ _ (by omega)]; exact h6, by omega, by omega⟩
  rintro rfl
  rw [hg 9 (by omega), h5]
  omega
end Go.Proofs.YtdamippibpbjhaaGreatDoor
