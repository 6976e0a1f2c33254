import Derived.Test.YtamkglgiaiejkaaGreatDoorYx07
import Derived.Test.YtamkglgiaiejkaaGreatDoorYx08
import Derived.Deep.DeepCutAuto
import Derived.Deep.CutRange
import Derived.Deep.CutBlock
/-! Two words are divided by one. -/
namespace Go.Proofs.YtamkglgiaiejkaaGreatDoor
open Go.RowKit

set_option maxRecDepth 100000 in
set_option maxHeartbeats 4000000 in
theorem div237_low (lo y : Nat) (hlo : lo < 18446744073709551616) (hy0 : 0 < y) (hy : y < 18446744073709551616) (w : World) :
    Calls Tryz.prog 237 #[.int .u64 0, .int .u64 lo, .int .u64 y] w fun e w' => e = .returned (.tuple #[.int .u64 ((lo / y : Nat) : Int), .int .u64 ((lo % y : Nat) : Int)]) ∧ Keep (fun _ => False) w w' := by
  have e0 : ((y : Int) == 0) = false := beq_eq_false_iff_ne.2 (by omega)
  have e0' : ¬ (y : Int) = 0 := by omega
  have e1 : ¬ ((y : Int) ≤ 0) := by omega
  obtain ⟨q, hq⟩ : ∃ q, q = lo / y := ⟨_, rfl⟩
  have hql : q ≤ lo := by rw [hq]; exact Nat.div_le_self _ _
  have e2 : IntKind.u64.wrap ((lo : Int) / (y : Int)) = (q : Int) := by
    rw [show (lo : Int) / (y : Int) = ((lo / y : Nat) : Int) from (Int.natCast_ediv lo y).symm, ← hq, IntKind.wrap_u64]
    omega
  have e3 : (lo : Int) % (y : Int) = ((lo % y : Nat) : Int) := (Int.natCast_emod lo y).symm
  rw [← hq]
  clear hq
  go_enter Tryz.func237, Tryz.ntmps237
  go_wp2_with fail
  go_quiet (fail)
  go_wp2_with fail
  go_ret2
  exact ⟨rfl, (Keep.refl _ w).drewN _⟩
/-- The numbers of a division of two words by one, scaled. -/
structure Sc (hi lo y s Y y1 y0 U u1 u0 : Nat) : Prop where
  hY : Y = y * 2 ^ s
  hy1 : y1 = Y / 4294967296
  hy0 : y0 = Y % 4294967296
  top : Y < 18446744073709551616
  low : 4294967296 ≤ 2 * y1
  lt : U < Y
  hu1 : u1 < 4294967296
  hu0 : u0 < 4294967296
  eq : (hi * 18446744073709551616 + lo) * 2 ^ s = (U * 4294967296 + u1) * 4294967296 + u0
theorem pow_split {s : Nat} (hs : s < 64) : 2 ^ s * 2 ^ (64 - s) = 18446744073709551616 := by
  rw [← Nat.pow_add, show s + (64 - s) = 64 by omega]
theorem cast_pow (s : Nat) : ((2 : Int) ^ s) = ((2 ^ s : Nat) : Int) := by rw [Int.natCast_pow]; rfl
/-- What the walk meets when a number is scaled. -/
theorem scaled_facts {hi lo y s : Nat} (hlo : lo < 18446744073709551616) (hhi : hi < y) (hs : Scale y s) :
    ∃ Y y1 y0 U un u1 u0 H L : Nat, Sc hi lo y s Y y1 y0 U u1 u0 ∧ IntKind.u64.wrap ((y : Int) * 2 ^ s) = (Y : Int) ∧ (Y : Int) / 4294967296 = (y1 : Int) ∧ bits .and .u64 (Y : Int) 4294967295 = (y0 : Int) ∧
      IntKind.u64.wrap ((hi : Int) * 2 ^ s) = (H : Int) ∧ (lo : Int) / 2 ^ (64 - s) = (L : Int) ∧ bits .or .u64 (H : Int) (L : Int) = (U : Int) ∧ IntKind.u64.wrap ((lo : Int) * 2 ^ s) = (un : Int) ∧ (un : Int) / 4294967296 = (u1 : Int) ∧ bits .and .u64 (un : Int) 4294967295 = (u0 : Int) := by
  have h64 := pow_split hs.lt
  obtain ⟨S, hS⟩ : ∃ S, S = 2 ^ s := ⟨_, rfl⟩
  obtain ⟨T, hT⟩ : ∃ T, T = 2 ^ (64 - s) := ⟨_, rfl⟩
  have hlow := hs.low
  have htop := hs.top
  rw [← hS] at h64 hlow htop
  rw [← hT] at h64
  have hS0 : 0 < S := by rw [hS]; exact Nat.pow_pos (by decide)
  have hT0 : 0 < T := by rw [hT]; exact Nat.pow_pos (by decide)
  have hH : (hi + 1) * S ≤ y * S := Nat.mul_le_mul_right S hhi
  rw [Nat.add_mul, Nat.one_mul] at hH
  have hL : lo / T < S := Nat.div_lt_of_lt_mul (by rw [Nat.mul_comm, h64]; exact hlo)
  -- the high word of what is scaled
  have hlS : lo * S = lo / T * 18446744073709551616 + lo % T * S := by
    have h := Nat.div_add_mod lo T
    calc lo * S = (T * (lo / T) + lo % T) * S := by rw [h]
      _ = lo / T * (S * T) + lo % T * S := by rw [Nat.add_mul, Nat.mul_comm T, Nat.mul_assoc, Nat.mul_comm T S]
      _ = _ := by rw [h64]
  have hmT : lo % T * S < 18446744073709551616 := by
    have := Nat.mul_lt_mul_of_pos_right (Nat.mod_lt lo hT0) hS0
    rw [Nat.mul_comm T S, h64] at this
    exact this
  obtain ⟨P, hP⟩ : ∃ P, P = hi * S := ⟨_, rfl⟩
  obtain ⟨Yv, hYv⟩ : ∃ Yv, Yv = y * S := ⟨_, rfl⟩
  obtain ⟨R, hR⟩ : ∃ R, R = lo % T * S := ⟨_, rfl⟩
  rw [← hP] at hH
  rw [← hYv] at hH hlow htop
  rw [← hR] at hlS hmT
  have hor : P ||| lo / T = P + lo / T := by
    rw [hP, hS, Nat.mul_comm]
    exact (Nat.two_pow_add_eq_or_of_lt (by rw [← hS]; exact hL) hi).symm
  refine ⟨Yv, Yv / 4294967296, Yv % 4294967296, P + lo / T, R, R / 4294967296, R % 4294967296, P, lo / T, ⟨by rw [hYv, hS], rfl, rfl, htop, by omega, by omega, by omega, by omega, ?_⟩, ?_, by omega, maskN _ htop, ?_, ?_, ?_, ?_, by omega, maskN _ hmT⟩
  · rw [← hS, Nat.add_mul, Nat.mul_right_comm, ← hP, hlS]
    omega
  · rw [cast_pow, ← hS, ← Int.natCast_mul, ← hYv]
    exact wrapN _ htop
  · rw [cast_pow, ← hS, ← Int.natCast_mul, ← hP]
    exact wrapN _ (by omega)
  · rw [cast_pow, ← hT]
    exact (Int.natCast_ediv lo T).symm
  · rw [bits_or_u64_nat _ _ (by omega) (by omega), hor]
  · rw [cast_pow, ← hS, ← Int.natCast_mul, hlS, wrapM]
    congr 1
    omega
/-- The digit that a guess comes to. -/
def digitOf (U u Y : Nat) : Nat := (U * 4294967296 + u) / Y
def restOfD (U u Y : Nat) : Nat := (U * 4294967296 + u) % Y
theorem digit_facts {U u Y : Nat} (hY : 0 < Y) (hU : U < Y) (hu : u < 4294967296) : digitOf U u Y < 4294967296 ∧ restOfD U u Y < Y ∧
    ∃ P : Nat, P = digitOf U u Y * Y ∧ U * 4294967296 + u = P + restOfD U u Y := by
  refine ⟨digit_lt hu hU, Nat.mod_lt _ hY, _, rfl, ?_⟩
  have := Nat.div_add_mod (U * 4294967296 + u) Y
  rw [Nat.mul_comm] at this
  exact this.symm
set_option maxRecDepth 100000 in
set_option maxHeartbeats 8000000 in
theorem div237_high (hi lo y : Nat) (hlo : lo < 18446744073709551616) (hi0 : 0 < hi) (hhi : hi < y) (hy : y < 18446744073709551616) (w : World) :
    Calls Tryz.prog 237 #[.int .u64 hi, .int .u64 lo, .int .u64 y] w fun e w' => e = .returned (.tuple #[.int .u64 (((hi * 18446744073709551616 + lo) / y : Nat) : Int), .int .u64 (((hi * 18446744073709551616 + lo) % y : Nat) : Int)]) ∧ Keep (fun _ => False) w w' := by
  have e0 : ((y : Int) == 0) = false := beq_eq_false_iff_ne.2 (by omega)
  have e1 : ¬ ((y : Int) ≤ (hi : Int)) := by omega
  have e2 : ((hi : Int) == 0) = false := beq_eq_false_iff_ne.2 (by omega)
  obtain ⟨QQ, hQQ⟩ : ∃ z, z = (hi * 18446744073709551616 + lo) / y := ⟨_, rfl⟩
  obtain ⟨RR, hRR⟩ : ∃ z, z = (hi * 18446744073709551616 + lo) % y := ⟨_, rfl⟩
  rw [← hQQ, ← hRR]
  have HR := Lib.hid (And.intro hQQ hRR)
  clear hQQ hRR
  go_enter Tryz.func237, Tryz.ntmps237
  go_wp2_with fail
  refine (zeros248 y (by omega) hy _).mono ?_
  rintro e w1 ⟨s, rfl, hs, rfl⟩
  have hs9 := hs.lt
  obtain ⟨Y, y1, y0, U, un, u1, u0, H, L, hsc, f1, f2, f3, f4, f5, f6, f7, f8, f9⟩ := scaled_facts hlo hhi hs
  have HSC := Lib.hid hsc
  have hUY := hsc.lt
  have hu1 := hsc.hu1
  have hu0 := hsc.hu0
  have hYt := hsc.top
  have hYp : 0 < Y := by omega
  have hy1p : 0 < y1 := by have := hsc.low; omega
  have HY0 := Lib.hid (show y0 < 4294967296 by rw [hsc.hy0]; omega)
  have HYY := Lib.hid (show y1 * 4294967296 + y0 = Y by rw [hsc.hy0, hsc.hy1]; omega)
  have hne : ¬ (y1 : Int) = 0 := by omega
  -- the first guesses
  have hguess : ∀ V : Nat, V < Y → IntKind.u64.wrap ((V : Int) / (y1 : Int)) = ((V / y1 : Nat) : Int) ∧ IntKind.u64.wrap (((V / y1 : Nat) : Int) * (y1 : Int)) = ((V / y1 * y1 : Nat) : Int) ∧ IntKind.u64.wrap ((V : Int) - ((V / y1 * y1 : Nat) : Int)) = ((V % y1 : Nat) : Int) := fun V hV => by
    have h1 := Nat.div_add_mod V y1
    have h2 := Nat.div_le_self V y1
    have h3 : V / y1 * y1 ≤ V := Nat.div_mul_le_self V y1
    rw [Nat.mul_comm] at h1
    refine ⟨?_, ?_, ?_⟩
    · rw [show (V : Int) / (y1 : Int) = ((V / y1 : Nat) : Int) from (Int.natCast_ediv V y1).symm]
      exact wrapN _ (by omega)
    · rw [← Int.natCast_mul]
      exact wrapN _ (by omega)
    · generalize V / y1 * y1 = z at *
      rw [IntKind.wrap_u64]
      omega
  obtain ⟨g1, g2, g3⟩ := hguess U hUY
  have HGG := Lib.hid hguess
  obtain ⟨a, ha⟩ : ∃ a, a = U / y1 := ⟨_, rfl⟩
  obtain ⟨b, hb⟩ : ∃ b, b = U / y1 * y1 := ⟨_, rfl⟩
  obtain ⟨c, hc⟩ : ∃ c, c = U % y1 := ⟨_, rfl⟩
  rw [← ha] at g1
  rw [← hb, ← ha] at g2
  rw [← hb, ← hc] at g3
  have HQ1 := Lib.hid (And.intro ha hc)
  have HS := Lib.hid hs
  clear hguess ha hb hc hsc hs
  go_upto_block 0 with fail
  go_cut [15] from 67 to 85 (fun q wx => q = .int .u64 (digitOf U u1 Y) ∧ wx = w1)
  case first =>
    go_wp2_with fail
    go_loopw [15, 16] (fun q r wr => ∃ qn rn : Nat, q = .int .u64 qn ∧ r = .int .u64 rn ∧ Guess 4294967296 y1 y0 U u1 qn rn ∧ wr = w1) (fun q _ _ => (intOf q).toNat)
    case atStart =>
      obtain ⟨g1, g2⟩ := guess_first (K := 4294967296) (y1 := y1) (y0 := y0) (u := U) (d := u1) HSC.out.low HY0.out (by omega) (by rw [HYY.out]; omega)
      have hdm := Nat.div_add_mod U y1
      have hml := Nat.mod_lt U (show 0 < y1 by have := HSC.out.low; omega)
      rw [Nat.mul_comm] at hdm
      exact ⟨U / y1, U % y1, by rw [HQ1.out.1], by rw [HQ1.out.2], ⟨hdm, by rw [HYY.out] at g1 ⊢; exact g1, g2, by have := HSC.out.top; have := HSC.out.hy1; omega⟩, rfl⟩
    case round =>
      obtain ⟨qn, rn, rfl, rfl, hG, rfl⟩ := hrel
      have hqt := hG.top
      have hrt := hG.rem
      have hy09 := HY0.out
      have hm1 : qn * y0 ≤ 4294967297 * 4294967295 := Nat.mul_le_mul (by omega) (by omega)
      obtain ⟨KR, hKR⟩ : ∃ z, z = 4294967296 * rn := ⟨_, rfl⟩
      have hK1 : IntKind.u64.wrap (4294967296 * (rn : Int)) = (KR : Int) := by rw [IntKind.wrap_u64]; omega
      obtain ⟨M, hM⟩ : ∃ M, M = qn * y0 := ⟨_, rfl⟩
      have hMi : IntKind.u64.wrap ((qn : Int) * (y0 : Int)) = (M : Int) := by rw [← Int.natCast_mul, ← hM]; exact wrapN _ (by omega)
      obtain ⟨R, hR⟩ : ∃ R, R = 4294967296 * rn + u1 := ⟨_, rfl⟩
      have hRi : IntKind.u64.wrap ((KR : Int) + (u1 : Int)) = (R : Int) := by rw [IntKind.wrap_u64]; omega
      have HMR := Lib.hid (And.intro hM hR)
      have HG := Lib.hid hG
      by_cases hend : qn < 4294967296 ∧ M ≤ R
      · have c1 : ¬ ((4294967296 : Int) ≤ (qn : Int)) := by omega
        have c2 : ¬ ((R : Int) < (M : Int)) := by omega
        have hdone := hG.done (show 0 < y1 * 4294967296 + y0 by rw [HYY.out]; omega) (by rw [← hM, ← hR]; exact hend.2)
        rw [HYY.out] at hdone
        have HE := Lib.hid hdone
        clear hG hM hR hm1 hend hdone hKR
        go_wp2_with fail
        go_meet
        exact ⟨by rw [show qn = digitOf U u1 Y from HE.out], rfl⟩
      · obtain ⟨hq0, hinv, hlow, htop⟩ := hG.step HY0.out (by omega) (by rw [HYY.out]; omega) (by omega)
        obtain ⟨rp, hrp⟩ : ∃ z, z = rn + y1 := ⟨_, rfl⟩
        obtain ⟨qp, hqp⟩ : ∃ z, z = qn - 1 := ⟨_, rfl⟩
        rw [← hrp, ← hqp] at hinv
        rw [← hqp] at hlow htop
        have hr1 : IntKind.u64.wrap ((rn : Int) + (y1 : Int)) = (rp : Int) := by rw [IntKind.wrap_u64]; have := HSC.out.top; have := HSC.out.hy1; omega
        have hq1 : IntKind.u64.wrap ((qn : Int) - 1) = (qp : Int) := by rw [IntKind.wrap_u64]; omega
        have hlt : qp < qn := by omega
        by_cases hbr : 4294967296 ≤ rp
        · have c3 : (4294967296 : Int) ≤ (rp : Int) := by omega
          have hov := guess_over hinv hlow htop hbr HY0.out (by rw [HYY.out]; omega)
          rw [HYY.out] at hov
          have HE := Lib.hid hov
          clear hG hM hR hm1 hov hinv hlow htop hKR hrp hqp
          by_cases c1 : (4294967296 : Int) ≤ (qn : Int)
          · go_wp2_with fail
            go_meet
            exact ⟨by rw [show qp = digitOf U u1 Y from HE.out], rfl⟩
          · have c2 : (R : Int) < (M : Int) := by omega
            go_wp2_with fail
            go_meet
            exact ⟨by rw [show qp = digitOf U u1 Y from HE.out], rfl⟩
        · have c3 : ¬ ((4294967296 : Int) ≤ (rp : Int)) := by omega
          have HE := Lib.hid (show Guess 4294967296 y1 y0 U u1 qp rp from ⟨hinv, hlow, by omega, by omega⟩)
          clear hG hM hR hm1 hinv hlow htop hKR hrp hqp
          by_cases c1 : (4294967296 : Int) ≤ (qn : Int)
          · go_wp2_with fail
            go_roundw
            case rel => exact ⟨qp, rp, rfl, rfl, HE.out, by first | rfl | trivial⟩
            case measure => simp [intOf]; omega
          · have c2 : (R : Int) < (M : Int) := by omega
            go_wp2_with fail
            go_roundw
            case rel => exact ⟨qp, rp, rfl, rfl, HE.out, by first | rfl | trivial⟩
            case measure => simp [intOf]; omega
  case rest =>
    obtain ⟨rfl, rfl⟩ := hcut
    obtain ⟨d1, d2, P, hP, hPe⟩ := digit_facts hYp hUY hu1
    obtain ⟨q1, hq1⟩ : ∃ z, z = digitOf U u1 Y := ⟨_, rfl⟩
    obtain ⟨R1, hR1⟩ : ∃ z, z = restOfD U u1 Y := ⟨_, rfl⟩
    rw [← hq1] at d1 hP ⊢
    rw [← hR1] at d2 hPe
    obtain ⟨UK, hUK⟩ : ∃ z, z = U * 4294967296 % 18446744073709551616 := ⟨_, rfl⟩
    obtain ⟨UV, hUV⟩ : ∃ z, z = (UK + u1) % 18446744073709551616 := ⟨_, rfl⟩
    obtain ⟨PM, hPM⟩ : ∃ z, z = P % 18446744073709551616 := ⟨_, rfl⟩
    have k1 : IntKind.u64.wrap ((U : Int) * 4294967296) = (UK : Int) := by rw [IntKind.wrap_u64]; omega
    have k2 : IntKind.u64.wrap ((UK : Int) + (u1 : Int)) = (UV : Int) := by rw [IntKind.wrap_u64]; omega
    have k3 : IntKind.u64.wrap ((q1 : Int) * (Y : Int)) = (PM : Int) := by rw [← Int.natCast_mul, ← hP, wrapM, hPM]
    have k4 : IntKind.u64.wrap ((UV : Int) - (PM : Int)) = (R1 : Int) := by rw [IntKind.wrap_u64]; omega
    obtain ⟨m1, m2, m3⟩ := HGG.out R1 d2
    obtain ⟨a2, ha2⟩ : ∃ a, a = R1 / y1 := ⟨_, rfl⟩
    obtain ⟨b2, hb2⟩ : ∃ b, b = R1 / y1 * y1 := ⟨_, rfl⟩
    obtain ⟨c2, hc2⟩ : ∃ c, c = R1 % y1 := ⟨_, rfl⟩
    rw [← ha2] at m1
    rw [← hb2, ← ha2] at m2
    rw [← hb2, ← hc2] at m3
    have HQ1 := Lib.hid (And.intro ha2 hc2)
    have HD1 := Lib.hid (And.intro hq1 hR1)
    clear ha2 hb2 hc2 hq1 hR1 hPe hP hUK hUV hPM g1 g2 g3
    go_upto_block 2 with fail
    go_cut [18] from 102 to 120 (fun q wx => q = .int .u64 (digitOf R1 u0 Y) ∧ wx = wc)
    case first =>
      go_wp2_with fail
      go_loopw [18, 16] (fun q r wr => ∃ qn rn : Nat, q = .int .u64 qn ∧ r = .int .u64 rn ∧ Guess 4294967296 y1 y0 R1 u0 qn rn ∧ wr = wc) (fun q _ _ => (intOf q).toNat)
      case atStart =>
        obtain ⟨g1, g2⟩ := guess_first (K := 4294967296) (y1 := y1) (y0 := y0) (u := R1) (d := u0) HSC.out.low HY0.out (by omega) (by rw [HYY.out]; omega)
        have hdm := Nat.div_add_mod R1 y1
        have hml := Nat.mod_lt R1 (show 0 < y1 by have := HSC.out.low; omega)
        rw [Nat.mul_comm] at hdm
        exact ⟨R1 / y1, R1 % y1, by rw [HQ1.out.1], by rw [HQ1.out.2], ⟨hdm, by rw [HYY.out] at g1 ⊢; exact g1, g2, by have := HSC.out.top; have := HSC.out.hy1; omega⟩, rfl⟩
      case round =>
        obtain ⟨qn, rn, rfl, rfl, hG, rfl⟩ := hrel
        have hqt := hG.top
        have hrt := hG.rem
        have hy09 := HY0.out
        have hm1 : qn * y0 ≤ 4294967297 * 4294967295 := Nat.mul_le_mul (by omega) (by omega)
        obtain ⟨KR, hKR⟩ : ∃ z, z = 4294967296 * rn := ⟨_, rfl⟩
        have hK1 : IntKind.u64.wrap (4294967296 * (rn : Int)) = (KR : Int) := by rw [IntKind.wrap_u64]; omega
        obtain ⟨M, hM⟩ : ∃ M, M = qn * y0 := ⟨_, rfl⟩
        have hMi : IntKind.u64.wrap ((qn : Int) * (y0 : Int)) = (M : Int) := by rw [← Int.natCast_mul, ← hM]; exact wrapN _ (by omega)
        obtain ⟨R, hR⟩ : ∃ R, R = 4294967296 * rn + u0 := ⟨_, rfl⟩
        have hRi : IntKind.u64.wrap ((KR : Int) + (u0 : Int)) = (R : Int) := by rw [IntKind.wrap_u64]; omega
        have HMR := Lib.hid (And.intro hM hR)
        have HG := Lib.hid hG
        by_cases hend : qn < 4294967296 ∧ M ≤ R
        · have c1 : ¬ ((4294967296 : Int) ≤ (qn : Int)) := by omega
          have c2 : ¬ ((R : Int) < (M : Int)) := by omega
          have hdone := hG.done (show 0 < y1 * 4294967296 + y0 by rw [HYY.out]; omega) (by rw [← hM, ← hR]; exact hend.2)
          rw [HYY.out] at hdone
          have HE := Lib.hid hdone
          clear hG hM hR hm1 hend hdone hKR
          go_wp2_with fail
          go_meet
          exact ⟨by rw [show qn = digitOf R1 u0 Y from HE.out], rfl⟩
        · obtain ⟨hq0, hinv, hlow, htop⟩ := hG.step HY0.out (by omega) (by rw [HYY.out]; omega) (by omega)
          obtain ⟨rp, hrp⟩ : ∃ z, z = rn + y1 := ⟨_, rfl⟩
          obtain ⟨qp, hqp⟩ : ∃ z, z = qn - 1 := ⟨_, rfl⟩
          rw [← hrp, ← hqp] at hinv
          rw [← hqp] at hlow htop
          have hr1 : IntKind.u64.wrap ((rn : Int) + (y1 : Int)) = (rp : Int) := by rw [IntKind.wrap_u64]; have := HSC.out.top; have := HSC.out.hy1; omega
          have hq1 : IntKind.u64.wrap ((qn : Int) - 1) = (qp : Int) := by rw [IntKind.wrap_u64]; omega
          have hlt : qp < qn := by omega
          by_cases hbr : 4294967296 ≤ rp
          · have c3 : (4294967296 : Int) ≤ (rp : Int) := by omega
            have hov := guess_over hinv hlow htop hbr HY0.out (by rw [HYY.out]; omega)
            rw [HYY.out] at hov
            have HE := Lib.hid hov
            clear hG hM hR hm1 hov hinv hlow htop hKR hrp hqp
            by_cases c1 : (4294967296 : Int) ≤ (qn : Int)
            · go_wp2_with fail
              go_meet
              exact ⟨by rw [show qp = digitOf R1 u0 Y from HE.out], rfl⟩
            · have c2 : (R : Int) < (M : Int) := by omega
              go_wp2_with fail
              go_meet
              exact ⟨by rw [show qp = digitOf R1 u0 Y from HE.out], rfl⟩
          · have c3 : ¬ ((4294967296 : Int) ≤ (rp : Int)) := by omega
            have HE := Lib.hid (show Guess 4294967296 y1 y0 R1 u0 qp rp from ⟨hinv, hlow, by omega, by omega⟩)
            clear hG hM hR hm1 hinv hlow htop hKR hrp hqp
            by_cases c1 : (4294967296 : Int) ≤ (qn : Int)
            · go_wp2_with fail
              go_roundw
              case rel => exact ⟨qp, rp, rfl, rfl, HE.out, by first | rfl | trivial⟩
              case measure => simp [intOf]; omega
            · have c2 : (R : Int) < (M : Int) := by omega
              go_wp2_with fail
              go_roundw
              case rel => exact ⟨qp, rp, rfl, rfl, HE.out, by first | rfl | trivial⟩
              case measure => simp [intOf]; omega
    case rest =>
      obtain ⟨rfl, rfl⟩ := hcut
      obtain ⟨j1, j2, P2, hP2, hPe2⟩ := digit_facts hYp d2 hu0
      obtain ⟨q0, hq0⟩ : ∃ z, z = digitOf R1 u0 Y := ⟨_, rfl⟩
      obtain ⟨R0, hR0⟩ : ∃ z, z = restOfD R1 u0 Y := ⟨_, rfl⟩
      rw [← hq0] at j1 hP2 ⊢
      rw [← hR0] at j2 hPe2
      obtain ⟨QK, hQK⟩ : ∃ z, z = q1 * 4294967296 := ⟨_, rfl⟩
      obtain ⟨RK, hRK⟩ : ∃ z, z = R1 * 4294967296 % 18446744073709551616 := ⟨_, rfl⟩
      obtain ⟨RV, hRV⟩ : ∃ z, z = (RK + u0) % 18446744073709551616 := ⟨_, rfl⟩
      obtain ⟨PN, hPN⟩ : ∃ z, z = P2 % 18446744073709551616 := ⟨_, rfl⟩
      have n1 : IntKind.u64.wrap ((q1 : Int) * 4294967296) = (QK : Int) := by rw [IntKind.wrap_u64]; omega
      have n2 : IntKind.u64.wrap ((R1 : Int) * 4294967296) = (RK : Int) := by rw [IntKind.wrap_u64]; omega
      have n3 : IntKind.u64.wrap ((RK : Int) + (u0 : Int)) = (RV : Int) := by rw [IntKind.wrap_u64]; omega
      have n4 : IntKind.u64.wrap ((q0 : Int) * (Y : Int)) = (PN : Int) := by rw [← Int.natCast_mul, ← hP2, wrapM, hPN]
      have n5 : IntKind.u64.wrap ((RV : Int) - (PN : Int)) = (R0 : Int) := by rw [IntKind.wrap_u64]; omega
      obtain ⟨t1, t2⟩ := div_two (A := U * 4294967296 + u1) (K := 4294967296) (u0 := u0) hYp
      have hqe : q1 * 4294967296 + q0 = (hi * 18446744073709551616 + lo) / y := by
        rw [← (div_scaled (N := hi * 18446744073709551616 + lo) (y := y) (S := 2 ^ s) (Nat.pow_pos (by decide))).1, HSC.out.eq, ← HSC.out.hY, ← t1, HD1.out.1, hq0, HD1.out.2]
        rfl
      have hre : R0 / 2 ^ s = (hi * 18446744073709551616 + lo) % y := by
        rw [← (div_scaled (N := hi * 18446744073709551616 + lo) (y := y) (S := 2 ^ s) (Nat.pow_pos (by decide))).2, HSC.out.eq, ← HSC.out.hY, ← t2, hR0, HD1.out.2]
        rfl
      rw [← HR.out.1] at hqe
      rw [← HR.out.2] at hre
      have n6 : IntKind.u64.wrap ((QK : Int) + (q0 : Int)) = (QQ : Int) := by rw [IntKind.wrap_u64]; omega
      have n7 : (R0 : Int) / 2 ^ s = (RR : Int) := by
        rw [cast_pow, ← hre]
        exact (Int.natCast_ediv _ _).symm
      clear hq0 hR0 hPe2 hP2 hQK hRK hRV hPN hqe hre t1 t2
      go_wp2_with fail
      go_ret2
      exact ⟨rfl, Keep.refl _ _⟩
theorem div237 (hi lo y : Nat) (hlo : lo < 18446744073709551616) (hhi : hi < y) (hy : y < 18446744073709551616) (w : World) :
    Calls Tryz.prog 237 #[.int .u64 hi, .int .u64 lo, .int .u64 y] w fun e w' => e = .returned (.tuple #[.int .u64 (((hi * 18446744073709551616 + lo) / y : Nat) : Int), .int .u64 (((hi * 18446744073709551616 + lo) % y : Nat) : Int)]) ∧ Keep (fun _ => False) w w' := by
  rcases Nat.eq_zero_or_pos hi with rfl | h
  · rw [Nat.zero_mul, Nat.zero_add]
    exact div237_low lo y hlo (by omega) hy w
  · exact div237_high hi lo y hlo h hhi hy w
end Go.Proofs.YtamkglgiaiejkaaGreatDoor

/-! The reciprocal of a word; two words are divided by one with it. -/
namespace Go.Proofs.YtamkglgiaiejkaaGreatDoor
open Go.RowKit

set_option maxRecDepth 100000 in
set_option maxHeartbeats 4000000 in
theorem div206 (hi lo y : Nat) (hlo : lo < 18446744073709551616) (hhi : hi < y) (hy : y < 18446744073709551616) (w : World) :
    Calls Tryz.prog 206 #[.int .u64 hi, .int .u64 lo, .int .u64 y] w fun e w' => e = .returned (.tuple #[.int .u64 (((hi * 18446744073709551616 + lo) / y : Nat) : Int), .int .u64 (((hi * 18446744073709551616 + lo) % y : Nat) : Int)]) ∧ Keep (fun _ => False) w w' := by
  have HD := Lib.hid (div237 hi lo y hlo hhi hy w)
  generalize (hi * 18446744073709551616 + lo) / y = q at *
  generalize (hi * 18446744073709551616 + lo) % y = r at *
  go_enter Tryz.func206, Tryz.ntmps206
  go_wp2_with fail
  refine HD.out.mono ?_
  rintro e w1 ⟨rfl, hk⟩
  go_wp2_with fail
  go_ret2
  exact ⟨rfl, hk⟩
/-- The reciprocal of a word that is scaled: with the base added it is what the square of the base, less one, holds of it. -/
def Recip (D m : Nat) : Prop := m + 18446744073709551616 = (18446744073709551616 * 18446744073709551616 - 1) / D ∧ m < 18446744073709551616
theorem recip_at {D : Nat} (h1 : 9223372036854775808 ≤ D) (h2 : D < 18446744073709551616) : Recip D (((18446744073709551615 - D) * 18446744073709551616 + 18446744073709551615) / D) ∧ 18446744073709551615 - D < D := by
  have hx : 18446744073709551615 - D < D := by omega
  refine ⟨⟨?_, digit_lt (K := 18446744073709551616) (by omega) hx⟩, hx⟩
  rcases recip_val (B := 18446744073709551616) (D := D) (by omega) (by omega) (by omega) with h | h
  · exact h
  · omega
theorem not_word (D : Nat) (h : D < 18446744073709551616) : bits .xor .u64 IntKind.u64.max (D : Int) = ((18446744073709551615 - D : Nat) : Int) := by
  show IntKind.u64.wrap ((BitVec.ofInt 64 IntKind.u64.max ^^^ BitVec.ofInt 64 (D : Int)).toNat : Int) = _
  have e : BitVec.ofInt 64 IntKind.u64.max = BitVec.allOnes 64 := by decide
  rw [e, BitVec.allOnes_xor, BitVec.toNat_not, BitVec.ofInt_natCast, BitVec.toNat_ofNat, Nat.mod_eq_of_lt (show D < 2 ^ 64 by omega), IntKind.wrap_u64]
  omega
set_option maxRecDepth 100000 in
set_option maxHeartbeats 4000000 in
theorem recip207 (y : Nat) (hy0 : 0 < y) (hy : y < 18446744073709551616) (w : World) :
    Calls Tryz.prog 207 #[.int .u64 y] w fun e w' => ∃ s m : Nat, e = .returned (.int .u64 m) ∧ Scale y s ∧ Recip (y * 2 ^ s) m ∧ Keep (fun _ => False) w w' := by
  go_enter Tryz.func207, Tryz.ntmps207
  go_wp2_with fail
  refine (nlz163 y hy0 hy _).mono ?_
  rintro e w1 ⟨s, rfl, hs, rfl⟩
  have hs9 := hs.lt
  obtain ⟨D, hD⟩ : ∃ D, D = y * 2 ^ s := ⟨_, rfl⟩
  have h1 := hs.low
  have h2 := hs.top
  rw [← hD] at h1 h2
  have f1 : IntKind.u64.wrap ((y : Int) * 2 ^ s) = (D : Int) := by
    rw [cast_pow, ← Int.natCast_mul, ← hD]
    exact wrapN _ h2
  obtain ⟨hr, hx⟩ := recip_at h1 h2
  obtain ⟨X, hX⟩ : ∃ X, X = 18446744073709551615 - D := ⟨_, rfl⟩
  rw [← hX] at hr hx
  have HD := div206 X 18446744073709551615 D (by omega) hx h2 w1
  rw [show ((18446744073709551615 : Nat) : Int) = 18446744073709551615 by omega] at HD
  have HD := Lib.hid HD
  have hDs := hD
  obtain ⟨m, hm⟩ : ∃ m, m = (X * 18446744073709551616 + 18446744073709551615) / D := ⟨_, rfl⟩
  rw [← hm] at HD hr
  rw [hD] at hr
  have HR := Lib.hid (And.intro hs hr)
  have f2 : bits .xor .u64 IntKind.u64.max (D : Int) = (X : Int) := by rw [not_word D h2, hX]
  generalize (X * 18446744073709551616 + 18446744073709551615) % D = z at *
  clear hD hDs hm hr hX hx h1 hs
  go_wp2_with fail
  refine HD.out.mono ?_
  rintro e w2 ⟨rfl, hk⟩
  go_wp2_with fail
  go_ret
  exact ⟨s, m, rfl, HR.out.1, HR.out.2, hk⟩
end Go.Proofs.YtamkglgiaiejkaaGreatDoor

/-! Two words are divided by one with its reciprocal. -/
namespace Go.Proofs.YtamkglgiaiejkaaGreatDoor
open Go.RowKit

theorem Scale.le {y s t : Nat} (h : Scale y s) (h' : Scale y t) : ¬ s < t := fun hlt => by
  have h1 := h.low
  have h2 := h'.top
  obtain ⟨k, rfl⟩ : ∃ k, t = s + 1 + k := ⟨t - s - 1, by omega⟩
  have h3 : y * 2 ^ s * 2 ≤ y * 2 ^ (s + 1 + k) := by
    rw [Nat.pow_add, Nat.pow_succ, ← Nat.mul_assoc, ← Nat.mul_assoc]
    exact Nat.le_mul_of_pos_right _ (Nat.pow_pos (by decide))
  omega
theorem Scale.same {y s t : Nat} (h : Scale y s) (h' : Scale y t) : s = t := by
  have := h.le h'
  have := h'.le h
  omega
/-- What the walk meets when two words are scaled. -/
theorem scaled_words {hi lo y s : Nat} (hlo : lo < 18446744073709551616) (hhi : hi < y) (hs : Scale y s) :
    ∃ Y U un H L : Nat, Y = y * 2 ^ s ∧ U < Y ∧ un < 18446744073709551616 ∧ (hi * 18446744073709551616 + lo) * 2 ^ s = U * 18446744073709551616 + un ∧ IntKind.u64.wrap ((y : Int) * 2 ^ s) = (Y : Int) ∧
      IntKind.u64.wrap ((hi : Int) * 2 ^ s) = (H : Int) ∧ (lo : Int) / 2 ^ (64 - s) = (L : Int) ∧ bits .or .u64 (H : Int) (L : Int) = (U : Int) ∧ IntKind.u64.wrap ((lo : Int) * 2 ^ s) = (un : Int) := by
  obtain ⟨Y, y1, y0, U, un, u1, u0, H, L, hsc, f1, _, _, f4, f5, f6, f7, f8, f9⟩ := scaled_facts hlo hhi hs
  have hun : un < 18446744073709551616 := by
    have := hsc.hu1
    omega
  have h9 := maskN un hun
  rw [f9] at h9
  have he := hsc.eq
  exact ⟨Y, U, un, H, L, hsc.hY, hsc.lt, hun, by rw [he]; omega, f1, f4, f5, f6, f7⟩
/-- The numbers of the division, where the divisor is scaled. -/
theorem recip_walk {U un D m : Nat} (hD : 9223372036854775808 ≤ D) (hDB : D < 18446744073709551616) (hU : U < D) (hun : un < 18446744073709551616) (hm : Recip D m) :
    ∃ t P r : Nat, t < 18446744073709551616 ∧ P = D * t ∧ U * 18446744073709551616 + un = P + r ∧ r < 18446744073709551616 + D ∧ t = (m * U / 18446744073709551616 + U + (m * U % 18446744073709551616 + un + 0) / 18446744073709551616) % 18446744073709551616 ∧
      (r < D → t = (U * 18446744073709551616 + un) / D ∧ r = (U * 18446744073709551616 + un) % D) ∧ (D ≤ r → r < 2 * D → t + 1 = (U * 18446744073709551616 + un) / D ∧ r - D = (U * 18446744073709551616 + un) % D) ∧ (2 * D ≤ r → r < 3 * D → t + 2 = (U * 18446744073709551616 + un) / D ∧ r - 2 * D = (U * 18446744073709551616 + un) % D) := by
  obtain ⟨hm1, hm2⟩ := hm
  have hb := recip_bounds (B := 18446744073709551616) (D := D) (V := m + 18446744073709551616) (by omega) (by omega) hm1
  obtain ⟨g1, g2⟩ := recip_guess (B := 18446744073709551616) (D := D) (V := m + 18446744073709551616) (x1 := U) (x0 := un) (by omega) (by omega) hb.1 hb.2 hU hun
  have hlt : (U * 18446744073709551616 + un) / D < 18446744073709551616 := digit_lt hun hU
  have e : ((m + 18446744073709551616) * U + un) / 18446744073709551616 = m * U / 18446744073709551616 + U + (m * U % 18446744073709551616 + un + 0) / 18446744073709551616 := by
    rw [Nat.add_mul]
    generalize m * U = p
    omega
  obtain ⟨t, ht⟩ : ∃ t, t = ((m + 18446744073709551616) * U + un) / 18446744073709551616 := ⟨_, rfl⟩
  rw [← ht] at g1 g2 e
  have htq : t ≤ (U * 18446744073709551616 + un) / D := (Nat.le_div_iff_mul_le (by omega)).2 g1
  obtain ⟨h1, h2, h3⟩ := recip_done (D := D) (t := t) (N := U * 18446744073709551616 + un) (r := U * 18446744073709551616 + un - t * D) (by omega) g1 rfl
  refine ⟨t, D * t, U * 18446744073709551616 + un - t * D, by omega, rfl, ?_, by omega, ?_, h1, h2, h3⟩
  · rw [Nat.mul_comm D t]
    omega
  · rw [← e, Nat.mod_eq_of_lt (by omega)]
set_option maxRecDepth 100000 in
set_option maxHeartbeats 8000000 in
theorem divWW208 (x1 x0 y m s : Nat) (hx1 : x1 < y) (hx0 : x0 < 18446744073709551616) (hy : y < 18446744073709551616) (hs : Scale y s) (hm : Recip (y * 2 ^ s) m) (w : World) :
    Calls Tryz.prog 208 #[.int .u64 x1, .int .u64 x0, .int .u64 y, .int .u64 m] w fun e w' => e = .returned (.tuple #[.int .u64 (((x1 * 18446744073709551616 + x0) / y : Nat) : Int), .int .u64 (((x1 * 18446744073709551616 + x0) % y : Nat) : Int)]) ∧ Keep (fun _ => False) w w' := by
  obtain ⟨QQ, hQQ⟩ : ∃ z, z = (x1 * 18446744073709551616 + x0) / y := ⟨_, rfl⟩
  obtain ⟨RR, hRR⟩ : ∃ z, z = (x1 * 18446744073709551616 + x0) % y := ⟨_, rfl⟩
  have hds := div_scaled (N := x1 * 18446744073709551616 + x0) (y := y) (S := 2 ^ s) (Nat.pow_pos (by decide))
  rw [← hQQ, ← hRR] at hds ⊢
  clear hQQ hRR
  obtain ⟨Y, U, un, H, L, hY, hUY, hun, heq, f1, f2, f3, f4, f5⟩ := scaled_words hx0 hx1 hs
  rw [heq, ← hY] at hds
  rw [← hY] at hm
  have hY1 : 9223372036854775808 ≤ Y := by rw [hY]; exact hs.low
  have hY2 : Y < 18446744073709551616 := by rw [hY]; exact hs.top
  obtain ⟨t, P, r, ht9, hP, hPr, hr9, htv, r1, r2, r3⟩ := recip_walk hY1 hY2 hUY hun hm
  have hm9 := hm.2
  -- the calls
  have hmU : m * U < 18446744073709551616 * 18446744073709551616 := Nat.mul_lt_mul_of_lt_of_lt hm9 (by omega)
  have C1 := mul118 m U hm9 (by omega)
  obtain ⟨mh, hmh⟩ : ∃ z, z = m * U / 18446744073709551616 := ⟨_, rfl⟩
  obtain ⟨ml, hml⟩ : ∃ z, z = m * U % 18446744073709551616 := ⟨_, rfl⟩
  rw [← hmh, ← hml] at C1 htv
  have C2 := add172 ml un 0 (by decide)
  obtain ⟨cl, hcl⟩ : ∃ z, z = (ml + un + 0) % 18446744073709551616 := ⟨_, rfl⟩
  obtain ⟨cc, hcc⟩ : ∃ z, z = (ml + un + 0) / 18446744073709551616 := ⟨_, rfl⟩
  rw [← hcl, ← hcc] at C2
  rw [← hcc] at htv
  have hcc1 : cc ≤ 1 := by omega
  have C3 := add172 mh U cc hcc1
  rw [← htv] at C3
  obtain ⟨jj, hjj⟩ : ∃ z, z = (mh + U + cc) / 18446744073709551616 := ⟨_, rfl⟩
  rw [← hjj] at C3
  have C4 := mul118 Y t hY2 ht9
  rw [← hP] at C4
  obtain ⟨ph, hph⟩ : ∃ z, z = P / 18446744073709551616 := ⟨_, rfl⟩
  obtain ⟨pl, hpl⟩ : ∃ z, z = P % 18446744073709551616 := ⟨_, rfl⟩
  rw [← hph, ← hpl] at C4
  have C5 := sub174 un pl 0 (by decide)
  obtain ⟨ra, hra⟩ : ∃ z, z = (un + 18446744073709551616 - pl - 0) % 18446744073709551616 := ⟨_, rfl⟩
  obtain ⟨bb, hbb⟩ : ∃ z : Nat, z = (if un < pl + 0 then 1 else 0 : Nat) := ⟨_, rfl⟩
  rw [← hra, ← hbb] at C5
  have hbb1 : bb ≤ 1 := by rw [hbb]; split <;> omega
  have C6 := sub174 U ph bb hbb1
  obtain ⟨rb, hrb⟩ : ∃ z, z = (U + 18446744073709551616 - ph - bb) % 18446744073709551616 := ⟨_, rfl⟩
  obtain ⟨kk, hkk⟩ : ∃ z : Nat, z = (if U < ph + bb then 1 else 0 : Nat) := ⟨_, rfl⟩
  rw [← hrb, ← hkk] at C6
  have hrr : ra = r % 18446744073709551616 ∧ rb = r / 18446744073709551616 := by
    rw [hra, hrb]
    by_cases hlt : un < pl
    · rw [if_pos (by omega)] at hbb
      omega
    · rw [if_neg (by omega)] at hbb
      omega
  have HRA := Lib.hid hrr
  clear hrr
  -- what comes back
  have hfin : ∀ (q R : Nat), q = (U * 18446744073709551616 + un) / Y → R = (U * 18446744073709551616 + un) % Y → (q = QQ) ∧ ((R : Int) / 2 ^ s = (RR : Int)) := fun q R h1 h2 => by
    refine ⟨by rw [h1]; exact hds.1, ?_⟩
    rw [cast_pow, h2, ← hds.2]
    exact (Int.natCast_ediv _ _).symm
  have HC := Lib.hid (And.intro C1 (And.intro C2 (And.intro C3 (And.intro C4 (And.intro C5 C6)))))
  have HF := Lib.hid hfin
  have HR := Lib.hid (And.intro r1 (And.intro r2 r3))
  have HS0 := Lib.hid (show s = 0 → Y = y ∧ U = x1 ∧ un = x0 from fun h => by
    subst h
    rw [Nat.pow_zero, Nat.mul_one] at hY heq
    exact ⟨hY, by omega, by omega⟩)
  have HSC := Lib.hid hs
  have hs9 := hs.lt
  clear C1 C2 C3 C4 C5 C6 hfin r1 r2 r3 hds heq hm hmU hmh hml hcl hcc hjj hph hpl hra hrb hkk hbb htv hP hPr hY hs
  go_enter Tryz.func208, Tryz.ntmps208
  go_wp2_with fail
  refine (nlz163 y (by omega) hy _).mono ?_
  rintro e w1 ⟨s', rfl, hs', rfl⟩
  obtain rfl := HSC.out.same hs'
  clear hs'
  by_cases hs0 : s = 0
  · obtain ⟨rfl, rfl, rfl⟩ := HS0.out hs0
    subst hs0
    clear f1 f2 f3 f4 f5
    go_wp2_with fail
    refine (HC.out.1 _).mono ?_
    rintro e w1 ⟨rfl, rfl⟩
    go_wp2_with fail
    refine (HC.out.2.1 _).mono ?_
    rintro e w1 ⟨rfl, rfl⟩
    go_wp2_with fail
    refine (HC.out.2.2.1 _).mono ?_
    rintro e w1 ⟨rfl, rfl⟩
    go_wp2_with fail
    refine (HC.out.2.2.2.1 _).mono ?_
    rintro e w1 ⟨rfl, rfl⟩
    go_wp2_with fail
    refine (HC.out.2.2.2.2.1 _).mono ?_
    rintro e w1 ⟨rfl, rfl⟩
    go_wp2_with fail
    refine (HC.out.2.2.2.2.2 _).mono ?_
    rintro e w1 ⟨rfl, rfl⟩
    have hra' := HRA.out.1
    have hrb' := HRA.out.2
    by_cases hB : 18446744073709551616 ≤ r
    · have b1 : ((rb : Int) != 0) = true := by simp; omega
      have g1 : IntKind.u64.wrap ((t : Int) + 1) = ((t : Int) + 1) := by
        rw [IntKind.wrap_u64]
        have := HR.out.2.1
        have := HR.out.2.2
        have : (U * 18446744073709551616 + un) / Y < 18446744073709551616 := digit_lt (by omega) (by omega)
        omega
      obtain ⟨rc, hrc⟩ : ∃ z, z = r - Y := ⟨_, rfl⟩
      have g2 : IntKind.u64.wrap ((ra : Int) - (Y : Int)) = (rc : Int) := by rw [IntKind.wrap_u64]; omega
      by_cases h2 : Y ≤ rc
      · have b2 : ((Y : Int) ≤ (rc : Int)) := by omega
        obtain ⟨e1, e2⟩ := HR.out.2.2 (by omega) (by omega)
        obtain ⟨e3, e4⟩ := HF.out (t + 2) (r - 2 * Y) e1 e2
        have g3 : IntKind.u64.wrap ((t : Int) + 1 + 1) = (QQ : Int) := by
          rw [IntKind.wrap_u64]
          have : (U * 18446744073709551616 + un) / Y < 18446744073709551616 := digit_lt (by omega) (by omega)
          omega
        obtain ⟨rd, hrd⟩ : ∃ z, z = r - 2 * Y := ⟨_, rfl⟩
        have g4 : IntKind.u64.wrap ((rc : Int) - (Y : Int)) = (rd : Int) := by rw [IntKind.wrap_u64]; omega
        rw [← hrd] at e4
        clear e1 e2 e3 hrd hrc hra' hrb'
        go_wp2_with fail
        go_ret2
        exact ⟨by first | rfl | simp_all, Keep.refl _ _⟩
      · have b2 : ¬ ((Y : Int) ≤ (rc : Int)) := by omega
        obtain ⟨e1, e2⟩ := HR.out.2.1 (by omega) (by omega)
        obtain ⟨e3, e4⟩ := HF.out (t + 1) (r - Y) e1 e2
        rw [← hrc] at e4
        have g3 : IntKind.u64.wrap ((t : Int) + 1) = (QQ : Int) := by rw [g1]; omega
        clear e1 e2 e3 hrc hra' hrb' g1
        go_wp2_with fail
        go_ret2
        exact ⟨by first | rfl | simp_all, Keep.refl _ _⟩
    · have hrb0 : rb = 0 := by omega
      have hra0 : ra = r := by omega
      subst hrb0
      subst hra0
      by_cases h2 : Y ≤ ra
      · have b2 : ((Y : Int) ≤ (ra : Int)) := by omega
        obtain ⟨e1, e2⟩ := HR.out.2.1 (by omega) (by omega)
        obtain ⟨e3, e4⟩ := HF.out (t + 1) (ra - Y) e1 e2
        have g1 : IntKind.u64.wrap ((t : Int) + 1) = (QQ : Int) := by
          rw [IntKind.wrap_u64]
          have : (U * 18446744073709551616 + un) / Y < 18446744073709551616 := digit_lt (by omega) (by omega)
          omega
        obtain ⟨rd, hrd⟩ : ∃ z, z = ra - Y := ⟨_, rfl⟩
        have g4 : IntKind.u64.wrap ((ra : Int) - (Y : Int)) = (rd : Int) := by rw [IntKind.wrap_u64]; omega
        rw [← hrd] at e4
        clear e1 e2 e3 hrd hra' hrb'
        go_wp2_with fail
        go_ret2
        exact ⟨by first | rfl | simp_all, Keep.refl _ _⟩
      · have b2 : ¬ ((Y : Int) ≤ (ra : Int)) := by omega
        obtain ⟨e1, e2⟩ := HR.out.1 (by omega)
        obtain ⟨e3, e4⟩ := HF.out t ra e1 e2
        subst e3
        clear e1 e2 hra' hrb'
        go_wp2_with fail
        go_ret2
        exact ⟨by first | rfl | simp_all, Keep.refl _ _⟩
  · have hsb : ((s : Int) != 0) = true := by simp; omega
    go_wp2_with fail
    refine (HC.out.1 _).mono ?_
    rintro e w1 ⟨rfl, rfl⟩
    go_wp2_with fail
    refine (HC.out.2.1 _).mono ?_
    rintro e w1 ⟨rfl, rfl⟩
    go_wp2_with fail
    refine (HC.out.2.2.1 _).mono ?_
    rintro e w1 ⟨rfl, rfl⟩
    go_wp2_with fail
    refine (HC.out.2.2.2.1 _).mono ?_
    rintro e w1 ⟨rfl, rfl⟩
    go_wp2_with fail
    refine (HC.out.2.2.2.2.1 _).mono ?_
    rintro e w1 ⟨rfl, rfl⟩
    go_wp2_with fail
    refine (HC.out.2.2.2.2.2 _).mono ?_
    rintro e w1 ⟨rfl, rfl⟩
    have hra' := HRA.out.1
    have hrb' := HRA.out.2
    by_cases hB : 18446744073709551616 ≤ r
    · have b1 : ((rb : Int) != 0) = true := by simp; omega
      have g1 : IntKind.u64.wrap ((t : Int) + 1) = ((t : Int) + 1) := by
        rw [IntKind.wrap_u64]
        have := HR.out.2.1
        have := HR.out.2.2
        have : (U * 18446744073709551616 + un) / Y < 18446744073709551616 := digit_lt (by omega) (by omega)
        omega
      obtain ⟨rc, hrc⟩ : ∃ z, z = r - Y := ⟨_, rfl⟩
      have g2 : IntKind.u64.wrap ((ra : Int) - (Y : Int)) = (rc : Int) := by rw [IntKind.wrap_u64]; omega
      by_cases h2 : Y ≤ rc
      · have b2 : ((Y : Int) ≤ (rc : Int)) := by omega
        obtain ⟨e1, e2⟩ := HR.out.2.2 (by omega) (by omega)
        obtain ⟨e3, e4⟩ := HF.out (t + 2) (r - 2 * Y) e1 e2
        have g3 : IntKind.u64.wrap ((t : Int) + 1 + 1) = (QQ : Int) := by
          rw [IntKind.wrap_u64]
          have : (U * 18446744073709551616 + un) / Y < 18446744073709551616 := digit_lt (by omega) (by omega)
          omega
        obtain ⟨rd, hrd⟩ : ∃ z, z = r - 2 * Y := ⟨_, rfl⟩
        have g4 : IntKind.u64.wrap ((rc : Int) - (Y : Int)) = (rd : Int) := by rw [IntKind.wrap_u64]; omega
        rw [← hrd] at e4
        clear e1 e2 e3 hrd hrc hra' hrb'
        go_wp2_with fail
        go_ret2
        exact ⟨by first | rfl | simp_all, Keep.refl _ _⟩
      · have b2 : ¬ ((Y : Int) ≤ (rc : Int)) := by omega
        obtain ⟨e1, e2⟩ := HR.out.2.1 (by omega) (by omega)
        obtain ⟨e3, e4⟩ := HF.out (t + 1) (r - Y) e1 e2
        rw [← hrc] at e4
        have g3 : IntKind.u64.wrap ((t : Int) + 1) = (QQ : Int) := by rw [g1]; omega
        clear e1 e2 e3 hrc hra' hrb' g1
        go_wp2_with fail
        go_ret2
        exact ⟨by first | rfl | simp_all, Keep.refl _ _⟩
    · have hrb0 : rb = 0 := by omega
      have hra0 : ra = r := by omega
      subst hrb0
      subst hra0
      by_cases h2 : Y ≤ ra
      · have b2 : ((Y : Int) ≤ (ra : Int)) := by omega
        obtain ⟨e1, e2⟩ := HR.out.2.1 (by omega) (by omega)
        obtain ⟨e3, e4⟩ := HF.out (t + 1) (ra - Y) e1 e2
        have g1 : IntKind.u64.wrap ((t : Int) + 1) = (QQ : Int) := by
          rw [IntKind.wrap_u64]
          have : (U * 18446744073709551616 + un) / Y < 18446744073709551616 := digit_lt (by omega) (by omega)
          omega
        obtain ⟨rd, hrd⟩ : ∃ z, z = ra - Y := ⟨_, rfl⟩
        have g4 : IntKind.u64.wrap ((ra : Int) - (Y : Int)) = (rd : Int) := by rw [IntKind.wrap_u64]; omega
        rw [← hrd] at e4
        clear e1 e2 e3 hrd hra' hrb'
        go_wp2_with fail
        go_ret2
        exact ⟨by first | rfl | simp_all, Keep.refl _ _⟩
      · have b2 : ¬ ((Y : Int) ≤ (ra : Int)) := by omega
        obtain ⟨e1, e2⟩ := HR.out.1 (by omega)
        obtain ⟨e3, e4⟩ := HF.out t ra e1 e2
        subst e3
        clear e1 e2 hra' hrb'
        go_wp2_with fail
        go_ret2
        exact ⟨by first | rfl | simp_all, Keep.refl _ _⟩
end Go.Proofs.YtamkglgiaiejkaaGreatDoor
