import Derived.Test.YtamkglgiaiejkaaGreatDoorYx05
import Derived.Test.YtamkglgiaiejkaaGreatDoorYx06
import Derived.Lib.Strings
import Derived.Lib.Slices
import Derived.Lib.Small
import Derived.Lib.Walk
import Derived.Lib.BitFns
import Derived.Lib.ItoaNum
import Derived.Lib.Mul64
import Derived.Laws.Bits64b
import Derived.Laws.Externs
import Derived.Shelf.Spec.BitsCarry
/-! Words: lengths, products, sums with a carry. -/
namespace Go.Proofs.YtamkglgiaiejkaaGreatDoor
open Go.RowKit

theorem maskN (a : Nat) (ha : a < 18446744073709551616) : bits .and .u64 (a : Int) 4294967295 = ((a % 4294967296 : Nat) : Int) := by
  have h := bits_and_u64_nat a 4294967295 ha (by omega)
  have e : a &&& 4294967295 = a % 4294967296 := Nat.and_two_pow_sub_one_eq_mod a 32
  rw [e] at h
  exact h
theorem wrapN (a : Nat) (ha : a < 18446744073709551616) : IntKind.u64.wrap (a : Int) = (a : Int) := by rw [IntKind.wrap_u64]; omega
theorem wrapM (a : Nat) : IntKind.u64.wrap (a : Int) = ((a % 18446744073709551616 : Nat) : Int) := by rw [IntKind.wrap_u64]; omega
theorem divN (a : Nat) : (a : Int) / 4294967296 = ((a / 4294967296 : Nat) : Int) := by omega
theorem mulN (a b : Nat) : (a : Int) * (b : Int) = ((a * b : Nat) : Int) := (Int.natCast_mul a b).symm
theorem addN (a b : Nat) : (a : Int) + (b : Int) = ((a + b : Nat) : Int) := (Int.natCast_add a b).symm
set_option maxRecDepth 100000 in
set_option maxHeartbeats 4000000 in
theorem mul100 (x y : Nat) (hx : x < 18446744073709551616) (hy : y < 18446744073709551616) (w : World) :
    Calls Tryz.prog 100 #[.int .u64 x, .int .u64 y] w fun e w' => e = .returned (.tuple #[.int .u64 ((x * y / 18446744073709551616 : Nat) : Int), .int .u64 ((x * y % 18446744073709551616 : Nat) : Int)]) ∧ w' = w := by
  obtain ⟨bd, bt, bw, hhi⟩ := Lib.mul64_hi x y hx hy
  have ba := Lib.half_mul_le (a := x / 4294967296) (b := y / 4294967296) (by omega) (by omega)
  have bb := Lib.half_mul_le (a := x / 4294967296) (b := y % 4294967296) (by omega) (by omega)
  have bc := Lib.half_mul_le (a := x % 4294967296) (b := y / 4294967296) (by omega) (by omega)
  have ba' : x / 4294967296 * (y / 4294967296) < 18446744073709551616 := by omega
  have bb' : x / 4294967296 * (y % 4294967296) < 18446744073709551616 := by omega
  have bc' : x % 4294967296 * (y / 4294967296) < 18446744073709551616 := by omega
  have bh1 : x / 4294967296 * (y / 4294967296) + (x / 4294967296 * (y % 4294967296) + x % 4294967296 * (y % 4294967296) / 4294967296) / 4294967296 < 18446744073709551616 := by omega
  have bh : x / 4294967296 * (y / 4294967296) + (x / 4294967296 * (y % 4294967296) + x % 4294967296 * (y % 4294967296) / 4294967296) / 4294967296 + ((x / 4294967296 * (y % 4294967296) + x % 4294967296 * (y % 4294967296) / 4294967296) % 4294967296 + x % 4294967296 * (y / 4294967296)) / 4294967296 < 18446744073709551616 := by omega
  go_enter Tryz.func100, Tryz.ntmps100
  go_wp2
  simp only [maskN x hx, maskN y hy, divN, mulN, addN, wrapN _ bd, wrapN _ bb', wrapN _ bt, maskN _ bt, wrapN _ bc', wrapN _ bw, wrapN _ ba', wrapN _ bh1, wrapN _ bh, wrapM (x * y)]
  rw [hhi]
  go_ret2
  exact ⟨rfl, rfl⟩
set_option maxRecDepth 100000 in
set_option maxHeartbeats 4000000 in
theorem mul118 (x y : Nat) (hx : x < 18446744073709551616) (hy : y < 18446744073709551616) (w : World) :
    Calls Tryz.prog 118 #[.int .u64 x, .int .u64 y] w fun e w' => e = .returned (.tuple #[.int .u64 ((x * y / 18446744073709551616 : Nat) : Int), .int .u64 ((x * y % 18446744073709551616 : Nat) : Int)]) ∧ w' = w := by
  go_enter Tryz.func118, Tryz.ntmps118
  go_wp2_with fail
  refine (mul100 x y hx hy _).mono ?_
  rintro e w1 ⟨rfl, rfl⟩
  go_wp2_with fail
  go_ret2
  exact ⟨rfl, rfl⟩
set_option maxRecDepth 100000 in
set_option maxHeartbeats 4000000 in
theorem mulWW175 (x y : Nat) (hx : x < 18446744073709551616) (hy : y < 18446744073709551616) (w : World) :
    Calls Tryz.prog 175 #[.int .u64 x, .int .u64 y] w fun e w' => e = .returned (.tuple #[.int .u64 ((x * y / 18446744073709551616 : Nat) : Int), .int .u64 ((x * y % 18446744073709551616 : Nat) : Int)]) ∧ w' = w := by
  go_enter Tryz.func175, Tryz.ntmps175
  go_wp2_with fail
  refine (mul118 x y hx hy _).mono ?_
  rintro e w1 ⟨rfl, rfl⟩
  go_wp2_with fail
  go_ret2
  exact ⟨rfl, rfl⟩
theorem add98 (x y c : Nat) (hc : c ≤ 1) (w : World) :
    (callFunc 98 #[.int .u64 x, .int .u64 y, .int .u64 c]).run Tryz.prog w = .ok (.value (.tuple #[.int .u64 (((x + y + c) % 18446744073709551616 : Nat) : Int), .int .u64 (((x + y + c) / 18446744073709551616 : Nat) : Int)])) w := by
  rw [run_callFunc_extern Tryz.func98 (by kernel_rfl) (by kernel_rfl) (by kernel_rfl) (e := add64Entry) (by kernel_rfl), run_add64 x y c (by omega) (by omega) (by omega) (by omega)]
  simp only [Result.andThen]
  congr 5 <;> omega
theorem sub99 (x y b : Nat) (hb : b ≤ 1) (w : World) :
    (callFunc 99 #[.int .u64 x, .int .u64 y, .int .u64 b]).run Tryz.prog w = .ok (.value (.tuple #[.int .u64 (((x + 18446744073709551616 - y - b) % 18446744073709551616 : Nat) : Int), .int .u64 ((if x < y + b then 1 else 0 : Nat) : Int)])) w := by
  rw [run_callFunc_extern Tryz.func99 (by kernel_rfl) (by kernel_rfl) (by kernel_rfl) (e := sub64Entry) (by kernel_rfl), run_sub64 x y b hb]
  rfl
set_option maxRecDepth 100000 in
set_option maxHeartbeats 4000000 in
theorem add172 (x y c : Nat) (hc : c ≤ 1) (w : World) :
    Calls Tryz.prog 172 #[.int .u64 x, .int .u64 y, .int .u64 c] w fun e w' => e = .returned (.tuple #[.int .u64 (((x + y + c) % 18446744073709551616 : Nat) : Int), .int .u64 (((x + y + c) / 18446744073709551616 : Nat) : Int)]) ∧ w' = w := by
  have h := add98 x y c hc w
  go_enter Tryz.func172, Tryz.ntmps172
  go_wp2_with fail
  go_ret2
  exact ⟨rfl, rfl⟩
set_option maxRecDepth 100000 in
set_option maxHeartbeats 4000000 in
theorem sub174 (x y c : Nat) (hc : c ≤ 1) (w : World) :
    Calls Tryz.prog 174 #[.int .u64 x, .int .u64 y, .int .u64 c] w fun e w' => e = .returned (.tuple #[.int .u64 (((x + 18446744073709551616 - y - c) % 18446744073709551616 : Nat) : Int), .int .u64 ((if x < y + c then 1 else 0 : Nat) : Int)]) ∧ w' = w := by
  have h := sub99 x y c hc w
  obtain ⟨r, hr⟩ : ∃ r : Nat, r = (if x < y + c then 1 else 0 : Nat) := ⟨_, rfl⟩
  rw [← hr] at h ⊢
  clear hr
  go_enter Tryz.func174, Tryz.ntmps174
  go_wp2_with fail
  go_ret2
  exact ⟨rfl, rfl⟩
set_option maxRecDepth 100000 in
set_option maxHeartbeats 4000000 in
theorem len170 (x : Nat) (hx : x < 18446744073709551616) (w : World) : Calls Tryz.prog 170 #[.int .u64 x] w fun e w' => e = .returned (.int .i64 (Lib.bitLen x)) ∧ w' = w := by
  have h := len220 (x : Int) w (by omega) (by omega)
  rw [Int.toNat_natCast] at h
  have H := Lib.hid h
  clear h
  go_enter Tryz.func170, Tryz.ntmps170
  go_wp2_with fail
  refine H.out.mono ?_
  rintro e w1 ⟨rfl, rfl⟩
  go_wp2_with fail
  go_ret
  exact ⟨rfl, rfl⟩
theorem bitLen64 {x : Nat} (hx : x < 18446744073709551616) : Lib.bitLen x ≤ 64 := Lib.bitLen_le x 64 (by decide) hx
/-- How far a word must be scaled. -/
structure Scale (x s : Nat) : Prop where
  lt : s < 64
  low : 9223372036854775808 ≤ x * 2 ^ s
  top : x * 2 ^ s < 18446744073709551616
theorem scale_of {x : Nat} (h0 : 0 < x) (hx : x < 18446744073709551616) : Scale x (64 - Lib.bitLen x) := by
  obtain ⟨h1, h2, h3⟩ := Lib.bitLenAux_bounds 64 x hx (by omega)
  have h4 := bitLen64 hx
  have e : Lib.bitLenAux 64 x = Lib.bitLen x := rfl
  rw [e] at h1 h2 h3
  generalize Lib.bitLen x = n at *
  refine ⟨by omega, ?_, ?_⟩
  · have : 2 ^ (n - 1) * 2 ^ (64 - n) ≤ x * 2 ^ (64 - n) := Nat.mul_le_mul_right _ h2
    rw [← Nat.pow_add, show n - 1 + (64 - n) = 63 by omega] at this
    exact this
  · have : x * 2 ^ (64 - n) < 2 ^ n * 2 ^ (64 - n) := Nat.mul_lt_mul_of_pos_right h3 (Nat.pow_pos (by decide))
    rw [← Nat.pow_add, show n + (64 - n) = 64 by omega] at this
    exact this
set_option maxRecDepth 100000 in
set_option maxHeartbeats 4000000 in
theorem zeros248 (x : Nat) (h0 : 0 < x) (hx : x < 18446744073709551616) (w : World) : Calls Tryz.prog 248 #[.int .u64 x] w fun e w' => ∃ s : Nat, e = .returned (.int .i64 s) ∧ Scale x s ∧ w' = w := by
  have h := len220 (x : Int) w (by omega) (by omega)
  rw [Int.toNat_natCast] at h
  have H := Lib.hid h
  have HS := Lib.hid (scale_of h0 hx)
  have hb := bitLen64 hx
  clear h
  generalize Lib.bitLen x = n at *
  go_enter Tryz.func248, Tryz.ntmps248
  go_wp2_with fail
  refine H.out.mono ?_
  rintro e w1 ⟨rfl, rfl⟩
  go_wp2_with fail
  go_ret
  exact ⟨64 - n, congrArg (fun z => Ending.returned (Value.int .i64 z)) (show (64 - (n : Int)) = ((64 - n : Nat) : Int) by omega), HS.out, rfl⟩
set_option maxRecDepth 100000 in
set_option maxHeartbeats 4000000 in
theorem zeros211 (x : Nat) (h0 : 0 < x) (hx : x < 18446744073709551616) (w : World) : Calls Tryz.prog 211 #[.int .u64 x] w fun e w' => ∃ s : Nat, e = .returned (.int .i64 s) ∧ Scale x s ∧ w' = w := by
  have H := Lib.hid (len170 x hx w)
  have HS := Lib.hid (scale_of h0 hx)
  have hb := bitLen64 hx
  generalize Lib.bitLen x = n at *
  go_enter Tryz.func211, Tryz.ntmps211
  go_wp2_with fail
  refine H.out.mono ?_
  rintro e w1 ⟨rfl, rfl⟩
  go_wp2_with fail
  go_ret
  exact ⟨64 - n, congrArg (fun z => Ending.returned (Value.int .i64 z)) (show (64 - (n : Int)) = ((64 - n : Nat) : Int) by omega), HS.out, rfl⟩
set_option maxRecDepth 100000 in
set_option maxHeartbeats 4000000 in
theorem nlz163 (x : Nat) (h0 : 0 < x) (hx : x < 18446744073709551616) (w : World) : Calls Tryz.prog 163 #[.int .u64 x] w fun e w' => ∃ s : Nat, e = .returned (.int .u64 s) ∧ Scale x s ∧ w' = w := by
  go_enter Tryz.func163, Tryz.ntmps163
  go_wp2_with fail
  refine (zeros211 x h0 hx _).mono ?_
  rintro e w1 ⟨s, rfl, hs, rfl⟩
  have hs9 := hs.lt
  go_wp2_with fail
  go_ret
  exact ⟨s, rfl, hs, rfl⟩
set_option maxRecDepth 100000 in
set_option maxHeartbeats 4000000 in
theorem mulAdd249 (x y c : Nat) (hx : x < 18446744073709551616) (hy : y < 18446744073709551616) (hc : c < 18446744073709551616) (w : World) :
    Calls Tryz.prog 249 #[.int .u64 x, .int .u64 y, .int .u64 c] w fun e w' => e = .returned (.tuple #[.int .u64 (((x * y + c) / 18446744073709551616 : Nat) : Int), .int .u64 (((x * y + c) % 18446744073709551616 : Nat) : Int)]) ∧ w' = w := by
  have hxy : x * y ≤ 18446744073709551615 * 18446744073709551615 := Nat.mul_le_mul (by omega) (by omega)
  obtain ⟨h, hh⟩ : ∃ h, h = x * y / 18446744073709551616 := ⟨_, rfl⟩
  obtain ⟨l, hl⟩ : ∃ l, l = x * y % 18446744073709551616 := ⟨_, rfl⟩
  have HM := Lib.hid (mul118 x y hx hy w)
  rw [← hh, ← hl] at HM
  have HA := Lib.hid (add172 l c 0 (by decide) w)
  obtain ⟨l2, hl2⟩ : ∃ z, z = (l + c + 0) % 18446744073709551616 := ⟨_, rfl⟩
  obtain ⟨c2, hc2⟩ : ∃ z, z = (l + c + 0) / 18446744073709551616 := ⟨_, rfl⟩
  rw [← hl2, ← hc2] at HA
  have hs : IntKind.u64.wrap ((h : Int) + (c2 : Int)) = (((x * y + c) / 18446744073709551616 : Nat) : Int) := by rw [IntKind.wrap_u64]; omega
  have hr : ((x * y + c) % 18446744073709551616) = l2 := by omega
  rw [hr]
  obtain ⟨q, hq⟩ : ∃ q, q = (x * y + c) / 18446744073709551616 := ⟨_, rfl⟩
  rw [← hq] at hs ⊢
  clear hh hl hl2 hc2 hr hq hxy
  go_enter Tryz.func249, Tryz.ntmps249
  go_wp2_with fail
  refine HM.out.mono ?_
  rintro e w1 ⟨rfl, rfl⟩
  go_wp2_with fail
  refine HA.out.mono ?_
  rintro e w1 ⟨rfl, rfl⟩
  go_wp2_with fail
  go_ret2
  exact ⟨rfl, rfl⟩
set_option maxRecDepth 100000 in
set_option maxHeartbeats 4000000 in
theorem greater215 (x1 x2 y1 y2 : Nat) (w : World) :
    Calls Tryz.prog 215 #[.int .u64 x1, .int .u64 x2, .int .u64 y1, .int .u64 y2] w fun e w' => e = .returned (.bool (decide (y1 < x1 ∨ x1 = y1 ∧ y2 < x2))) ∧ w' = w := by
  by_cases h1 : y1 < x1
  · have e1 : (y1 : Int) < (x1 : Int) := by omega
    rw [show decide (y1 < x1 ∨ x1 = y1 ∧ y2 < x2) = true by simp [h1]]
    go_enter Tryz.func215, Tryz.ntmps215
    go_wp2_with fail
    go_ret
    exact ⟨rfl, rfl⟩
  · have e1 : ¬ ((y1 : Int) < (x1 : Int)) := by omega
    by_cases h2 : x1 = y1
    · subst h2
      by_cases h3 : y2 < x2
      · have e3 : (y2 : Int) < (x2 : Int) := by omega
        rw [show decide (x1 < x1 ∨ x1 = x1 ∧ y2 < x2) = true by simp [h3]]
        go_enter Tryz.func215, Tryz.ntmps215
        go_wp2_with fail
        go_ret
        exact ⟨rfl, rfl⟩
      · have e3 : ¬ ((y2 : Int) < (x2 : Int)) := by omega
        rw [show decide (x1 < x1 ∨ x1 = x1 ∧ y2 < x2) = false by simp; omega]
        go_enter Tryz.func215, Tryz.ntmps215
        go_wp2_with fail
        go_ret
        exact ⟨rfl, rfl⟩
    · have e2 : ((x1 : Int) == (y1 : Int)) = false := beq_eq_false_iff_ne.2 (by omega)
      rw [show decide (y1 < x1 ∨ x1 = y1 ∧ y2 < x2) = false by simp; omega]
      go_enter Tryz.func215, Tryz.ntmps215
      go_wp2_with fail
      go_ret
      exact ⟨rfl, rfl⟩
end Go.Proofs.YtamkglgiaiejkaaGreatDoor
