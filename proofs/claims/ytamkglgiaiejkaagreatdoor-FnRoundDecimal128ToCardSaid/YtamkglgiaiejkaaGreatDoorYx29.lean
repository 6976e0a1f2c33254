import Derived.Test.YtamkglgiaiejkaaGreatDoorYx27
import Derived.Test.YtamkglgiaiejkaaGreatDoorYx28
/-! Decimals of 128 bits: whether they fit in a precision. -/
namespace Go.Proofs.YtamkglgiaiejkaaGreatDoor
open Go.RowKit

/-- The table of the powers of ten. -/
def Scales (w : World) : Prop := ∀ p : Nat, p ≤ 38 → w.cell? ⟨0, p * 2, none⟩ = some (.int .u64 ((10 ^ p % 18446744073709551616 : Nat) : Int)) ∧ w.cell? ⟨0, p * 2 + 1, none⟩ = some (.int .i64 ((10 ^ p / 18446744073709551616 : Nat) : Int))
theorem Scales.keep {S : Nat → Prop} {w w' : World} (h : Scales w) (hk : Keep S w w') (hS : ¬ S 0) : Scales w' := fun p hp => ⟨hk.cell (h p hp).1 hS, hk.cell (h p hp).2 hS⟩
set_option maxRecDepth 100000 in
set_option maxHeartbeats 4000000 in
theorem assert88 (b : Bool) (v : Value) (w : World) : Calls Tryz.prog 88 #[.bool b, v] w fun e w' => e = .returned (.tuple #[]) ∧ w' = w := by
  go_enter Tryz.func88, Tryz.ntmps88
  go_wp2_with fail
  go_end0
  exact ⟨rfl, rfl⟩
set_option maxRecDepth 100000 in
set_option maxHeartbeats 4000000 in
theorem fits48 (x : Int) (hx : Small x) (p : Nat) (h1 : 1 ≤ p) (h38 : p ≤ 38) (w : World) (hS : Scales w) : Calls Tryz.prog 48 #[numV x, .int .i32 p] w fun e w' => e = .returned (.bool (decide (x.natAbs < 10 ^ p))) ∧ Keep (fun _ => False) w w' := by
  have HA := Lib.hid (fun w => abs80 x hx w)
  have HL := Lib.hid (fun w => lessNum50 (if x < 0 then -x else x) ((10 ^ p : Nat) : Int) w)
  have hd : decide ((if x < 0 then -x else x) < ((10 ^ p : Nat) : Int)) = decide (x.natAbs < 10 ^ p) := by
    congr 1
    apply propext
    split <;> omega
  rw [hd] at HL
  obtain ⟨l0, hl0⟩ : ∃ z, z = (x % 18446744073709551616).toNat := ⟨_, rfl⟩
  obtain ⟨h0, hh0⟩ : ∃ z, z = x / 18446744073709551616 := ⟨_, rfl⟩
  have e0 : numV x = .agg #[.int .u64 l0, .int .i64 h0] := by rw [hl0, hh0]; rfl
  obtain ⟨l2, hl2⟩ : ∃ z, z = (10 ^ p % 18446744073709551616 : Nat) := ⟨_, rfl⟩
  obtain ⟨h2, hh2⟩ : ∃ z, z = (10 ^ p / 18446744073709551616 : Nat) := ⟨_, rfl⟩
  have e2 : numV ((10 ^ p : Nat) : Int) = .agg #[.int .u64 l2, .int .i64 h2] := by
    rw [hl2, hh2]
    show Value.agg #[.int .u64 ((((10 ^ p : Nat) : Int) % 18446744073709551616).toNat : Nat), .int .i64 (((10 ^ p : Nat) : Int) / 18446744073709551616)] = _
    congr 3
  rw [e0] at HA ⊢
  rw [e2] at HL
  obtain ⟨a, ha⟩ : ∃ a, a = (if x < 0 then -x else x) := ⟨_, rfl⟩
  rw [← ha] at HA HL
  generalize numV a = va at *
  obtain ⟨c1, c2⟩ := hS p h38
  rw [← hl2] at c1
  rw [← hh2] at c2
  generalize decide (x.natAbs < 10 ^ p) = c at *
  have hp1 : (0 : Int) < (p : Int) := by omega
  have hp2 : (p : Int) ≤ 38 := by omega
  have hp3 : (p : Int) < 39 := by omega
  have hp4 : p < 39 := by omega
  obtain ⟨hb0, hk0⟩ := box1 w (.cells #[.int .u64 l0, .int .i64 h0] 42)
  have c1 := hk0.cell c1 (fun h => h)
  have c2 := hk0.cell c2 (fun h => h)
  have HAS := Lib.hid (fun b v w => assert88 b v w)
  clear hd e0 e2 hl0 hh0 hl2 hh2 ha hS
  go_enter Tryz.func48, Tryz.ntmps48
  go_wp2_with fail
  refine (HAS.out _ _ _).mono ?_
  rintro e w1 ⟨rfl, rfl⟩
  go_wp2_with fail
  refine (HAS.out _ _ _).mono ?_
  rintro e w1 ⟨rfl, rfl⟩
  go_wp2_with fail
  refine wp_region_takesC (fun w' => w'.heap[w.heap.size]? = some (.cells #[.int .u64 l0, .int .i64 h0] 42 (0, 0)) ∧ w'.cell? ⟨0, p * 2, none⟩ = some (.int .u64 l2) ∧ w'.cell? ⟨0, p * 2 + 1, none⟩ = some (.int .i64 h2)) (by kernel_rfl) ?_
  go_simp
  refine wpC_take 0 (v := .agg #[.int .u64 l0, .int .i64 h0]) (by kernel_rfl) rfl rfl (fun _ _ _ h => h) (fun w' hC => by have d0 := blk_cell hC.1; go_simp) ?_
  go_simp
  refine wpC_take 2 (v := .int .i32 p) (by kernel_rfl) rfl rfl (fun _ _ _ h => h) (fun w' hC => by go_simp) ?_
  go_simp
  refine wpC_take 3 (v := .pointer (some ⟨0, p * 2, none⟩)) (by kernel_rfl) rfl rfl (fun _ _ _ h => h) (fun w' hC => by go_simp) ?_
  go_simp
  refine wpC_take 4 (v := .agg #[.int .u64 l2, .int .i64 h2]) (by kernel_rfl) rfl rfl (fun _ _ _ h => h) (fun w' hC => by have d0 := hC.2.1; have d1 := hC.2.2; go_simp) ?_
  go_simp
  refine wpC_only 1 (by kernel_rfl) ⟨blk_drew hb0, c1, c2⟩ rfl ?_
  go_wp2_with fail
  refine (HA.out _).mono ?_
  rintro e w1 ⟨rfl, hk1⟩
  have hb1 := hk1.blk (blk_drew hb0) (fun h => h)
  have c11 := hk1.cell (p := ⟨0, p * 2, none⟩) c1 (fun h => h)
  have c21 := hk1.cell (p := ⟨0, p * 2 + 1, none⟩) c2 (fun h => h)
  go_wp2_with fail
  refine wpC_only 5 (by kernel_rfl) ⟨hb1, c11, c21⟩ rfl ?_
  go_wp2_with fail
  refine (HL.out _).mono ?_
  rintro e w2 ⟨rfl, hk2⟩
  have hb2 := hk2.blk hb1 (fun h => h)
  have c12 := hk2.cell c11 (fun h => h)
  have c22 := hk2.cell c21 (fun h => h)
  go_wp2_with fail
  refine wpC_only 6 (by kernel_rfl) ⟨hb2, c12, c22⟩ rfl ?_
  go_wp2_with fail
  refine wpC_stop (by kernel_rfl) ⟨hb2, c12, c22⟩ ?_
  go_wp2_with fail
  go_ret
  exact ⟨rfl, (hk0.drew.trans hk1).trans hk2⟩
end Go.Proofs.YtamkglgiaiejkaaGreatDoor
