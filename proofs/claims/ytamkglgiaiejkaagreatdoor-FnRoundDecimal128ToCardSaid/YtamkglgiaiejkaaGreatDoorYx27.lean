import Derived.Test.YtamkglgiaiejkaaGreatDoorYx25
import Derived.Test.YtamkglgiaiejkaaGreatDoorYx26
/-! Decimals of 128 bits: quotient and rest. -/
namespace Go.Proofs.YtamkglgiaiejkaaGreatDoor
open Go.RowKit

theorem sgn_zero {b : Bool} {n : Nat} : (if (decide (0 < n) && b) = true then -(n : Int) else (n : Int)) = sgn b n := by
  unfold sgn
  cases b
  · simp
  · by_cases h : 0 < n
    · simp [h]
    · obtain rfl : n = 0 := by omega
      simp
theorem four_nums (w : World) (a b c d : Obj) : ((((w.alloc a).alloc b).alloc c).alloc d).heap[w.heap.size]? = some a ∧ ((((w.alloc a).alloc b).alloc c).alloc d).heap[w.heap.size + 1]? = some b ∧ ((((w.alloc a).alloc b).alloc c).alloc d).heap[w.heap.size + 1 + 1]? = some c ∧ ((((w.alloc a).alloc b).alloc c).alloc d).heap[w.heap.size + 1 + 1 + 1]? = some d ∧ Keep (fun _ => False) w ((((w.alloc a).alloc b).alloc c).alloc d) := by
  refine ⟨blk_alloc (blk_alloc (blk_alloc (blk_new w a) _) _) _, ?_, ?_, (box4 w a b c d).1, (box4 w a b c d).2⟩
  · exact blk_alloc (blk_alloc (box2 w a b).1 _) _
  · exact blk_alloc (box3 w a b c).1 _
set_option maxRecDepth 100000 in
set_option maxHeartbeats 8000000 in
theorem div46 (x y : Int) (hx : Small x) (hy : Small y) (hy0 : y ≠ 0) (w : World) (hG : w.cell? ⟨2, 0, none⟩ = some (.int .i64 40)) :
    Calls Tryz.prog 46 #[numV x, numV y] w fun e w' => e = .returned (.tuple #[numV (x.tdiv y), numV (x.tmod y)]) ∧ Keep (fun _ => False) w w' := by
  obtain ⟨lx, hlx⟩ : ∃ z, z = (x % 18446744073709551616).toNat := ⟨_, rfl⟩
  obtain ⟨hx', hhx⟩ : ∃ z, z = x / 18446744073709551616 := ⟨_, rfl⟩
  obtain ⟨ly, hly⟩ : ∃ z, z = (y % 18446744073709551616).toNat := ⟨_, rfl⟩
  obtain ⟨hy', hhy⟩ : ∃ z, z = y / 18446744073709551616 := ⟨_, rfl⟩
  have e1 : numV x = .agg #[.int .u64 lx, .int .i64 hx'] := by rw [hlx, hhx]; rfl
  have e2 : numV y = .agg #[.int .u64 ly, .int .i64 hy'] := by rw [hly, hhy]; rfl
  obtain ⟨lq, hlq⟩ : ∃ z, z = ((x.tdiv y) % 18446744073709551616).toNat := ⟨_, rfl⟩
  obtain ⟨hq', hhq⟩ : ∃ z, z = (x.tdiv y) / 18446744073709551616 := ⟨_, rfl⟩
  obtain ⟨lr, hlr⟩ : ∃ z, z = ((x.tmod y) % 18446744073709551616).toNat := ⟨_, rfl⟩
  obtain ⟨hr', hhr⟩ : ∃ z, z = (x.tmod y) / 18446744073709551616 := ⟨_, rfl⟩
  have e3 : numV (x.tdiv y) = .agg #[.int .u64 lq, .int .i64 hq'] := by rw [hlq, hhq]; rfl
  have e4 : numV (x.tmod y) = .agg #[.int .u64 lr, .int .i64 hr'] := by rw [hlr, hhr]; rfl
  have H1 := Lib.hid (fun w => bigInt85 x hx w)
  have H2 := Lib.hid (fun w => bigInt85 y hy w)
  rw [e1] at H1
  rw [e2] at H2
  have hym : 0 < y.natAbs := by omega
  have hyb : y.natAbs < 85070591730234615865843651857942052864 := by have := hy.1; have := hy.2; omega
  have hxb : x.natAbs < 85070591730234615865843651857942052864 := by have := hx.1; have := hx.2; omega
  have sq := sgn_div x y
  have sr := sgn_mod x y
  rw [← sgn_zero] at sq sr
  have hqb : x.natAbs / y.natAbs < 85070591730234615865843651857942052864 := Nat.lt_of_le_of_lt (Nat.div_le_self _ _) hxb
  have hrb : x.natAbs % y.natAbs < 85070591730234615865843651857942052864 := Nat.lt_of_le_of_lt (Nat.mod_le _ _) hxb
  have HQ := Lib.hid (fun (p : Nat) w h => fromBig87 p _ (x.natAbs / y.natAbs) (x.tdiv y) w h hqb sq.symm)
  have HR := Lib.hid (fun (p : Nat) w h => fromBig87 p _ (x.natAbs % y.natAbs) (x.tmod y) w h hrb sr.symm)
  rw [e3] at HQ
  rw [e4] at HR
  rw [e1, e2, e3, e4]
  obtain ⟨b0, b1, b2, b3, hk0⟩ := four_nums w (.cells #[.int .u64 lx, .int .i64 hx'] 42) (.cells #[.int .u64 ly, .int .i64 hy'] 42) (.cells #[.int .u64 0, .int .i64 0] 42) (.cells #[.int .u64 0, .int .i64 0] 42)
  have HB := Lib.hid (And.intro hym hyb)
  generalize hwx : wlen x.natAbs = kx at *
  generalize hwy : wlen y.natAbs = ky at *
  generalize decide (x < 0) = dx at *
  generalize decide (y < 0) = dy at *
  clear e1 e2 e3 e4 hlx hhx hly hhy hlq hhq hlr hhr sq sr hqb hrb hym hyb hxb hx hy hy0
  generalize x.natAbs = m at *
  generalize y.natAbs = n at *
  have HW := Lib.hid (And.intro hwx hwy)
  clear hwx hwy
  have c00 := blk_cell b0 0
  have c01 := blk_cell b0 1
  simp only [List.getElem?_toArray, List.getElem?_cons_zero, List.getElem?_cons_succ] at c00 c01
  go_enter Tryz.func46, Tryz.ntmps46
  have hl3 := blk_lt b3
  go_wp2_with fail
  generalize ((((w.alloc (.cells #[.int .u64 lx, .int .i64 hx'] 42)).alloc (.cells #[.int .u64 ly, .int .i64 hy'] 42)).alloc (.cells #[.int .u64 0, .int .i64 0] 42)).alloc (.cells #[.int .u64 0, .int .i64 0] 42)) = w0 at *
  refine (H1.out _).mono ?_
  rintro e w1 ⟨p, g, rfl, hp1, hg1, hpb, hgb, hk1⟩
  have hs0 := hk0.size
  have hs1 := hk1.size
  have b11 := hk1.blk b1 (fun h => h)
  have c10 := blk_cell b11 0
  have c11 := blk_cell b11 1
  simp only [List.getElem?_toArray, List.getElem?_cons_zero, List.getElem?_cons_succ] at c10 c11
  have hlp := blk_lt hpb
  have hlg : g < w1.heap.size := by
    obtain ⟨_, _, _, _, _, hb⟩ := hgb
    exact blk_lt hb
  have HG1 := Lib.hid (And.intro hpb hgb)
  clear hpb hgb c00 c01
  go_wp2_with fail
  refine (H2.out _).mono ?_
  rintro e w2 ⟨q2, g2, rfl, hp2, hg2, hqb, hg2b, hk2⟩
  have hlq := blk_lt hqb
  have hlg2 : g2 < w2.heap.size := by
    obtain ⟨_, _, _, _, _, hb⟩ := hg2b
    exact blk_lt hb
  have hs2 := hk2.size
  have hkr : Keep (fun _ => False) w2 (w2.alloc (.cells #[.bool false, .slice none 0 0] 128)) := (Keep.refl _ w2).alloc _
  have HK := Lib.hid (hk0.trans hk1 |>.trans hk2 |>.trans hkr)
  have HD := Lib.hid (quoRem86 p g q2 w2.heap.size m n dx dy (.slice (some ⟨g2, 0, none⟩) ky 2) (w2.alloc (.cells #[.bool false, .slice none 0 0] 128))
    (by rw [HW.out.1]; exact hkr.blk (hk2.blk HG1.out.1 (fun h => h)) (fun h => h)) (by
      obtain ⟨lo, hi, a1, a2, a3, hb⟩ := HG1.out.2
      exact ⟨lo, hi, a1, a2, a3, hkr.blk (hk2.blk hb (fun h => h)) (fun h => h)⟩)
    (hkr.blk hqb (fun h => h)) (by rw [← HW.out.2]; exact hg2b.nv.keep hkr) (blk_new w2 _) (by omega) (by omega) (by omega)
    (HK.out.cell hG (fun h => h)) HB.out.1 (by have := HB.out.2; omega))
  have hsr := hkr.size
  have hbb2 : (w2.alloc (.cells #[.bool false, .slice none 0 0] 128)).heap[w.heap.size + 1 + 1]? = some (.cells #[.int .u64 0, .int .i64 0] 42 (0, 0)) := hkr.blk (hk2.blk (hk1.blk b2 (fun h => h)) (fun h => h)) (fun h => h)
  have hbb3 : (w2.alloc (.cells #[.bool false, .slice none 0 0] 128)).heap[w.heap.size + 1 + 1 + 1]? = some (.cells #[.int .u64 0, .int .i64 0] 42 (0, 0)) := hkr.blk (hk2.blk (hk1.blk b3 (fun h => h)) (fun h => h)) (fun h => h)
  clear hqb hg2b hG HG1 H1 H2 c10 c11 b0 b1 b2 b3 b11 hk0 hk1 hk2 hkr
  go_wp2_with fail
  refine HD.out.mono ?_
  rintro e w3 ⟨rfl, hq3, hr3, hk3⟩
  have hn2 : ¬ (w.heap.size + 1 + 1 = p ∨ w.heap.size + 1 + 1 = w2.heap.size ∨ w.heap.size + 1 + 1 = g) := by omega
  have hn3 : ¬ (w.heap.size + 1 + 1 + 1 = p ∨ w.heap.size + 1 + 1 + 1 = w2.heap.size ∨ w.heap.size + 1 + 1 + 1 = g) := by omega
  have hb23 := hk3.blk hbb2 hn2
  have hb33 := hk3.blk hbb3 hn3
  have HIV := Lib.hid (And.intro hq3 hr3)
  have HK3 := Lib.hid (HK.out.step hk3 (fun b hb => .inr (by rcases hb with h | h | h <;> omega)))
  clear hq3 hr3 hk3 HD hbb2 hbb3 hn2 hn3
  go_wp2_with fail
  refine (HQ.out _ _ HIV.out.1).mono ?_
  rintro e w4 ⟨rfl, hk4⟩
  go_wp2_with fail
  refine (HR.out _ _ (HIV.out.2.keep hk4)).mono ?_
  rintro e w5 ⟨rfl, hk5⟩
  have hb25 := hk5.blk (hk4.blk hb23 (fun h => h)) (fun h => h)
  have hb35 := hk5.blk (hk4.blk hb33 (fun h => h)) (fun h => h)
  have r0 := blk_cell hb25 0
  have r1 := blk_cell hb25 1
  have rf := blk_frozen hb25
  have s0 := blk_cell hb35 0
  have s1 := blk_cell hb35 1
  have sf := blk_frozen hb35
  simp only [List.getElem?_toArray, List.getElem?_cons_zero, List.getElem?_cons_succ] at r0 r1 s0 s1
  have hkE : Keep (fun _ => False) w ((((w5.setCell ⟨w.heap.size + 1 + 1, 0, none⟩ (.int .u64 lq)).setCell ⟨w.heap.size + 1 + 1, 1, none⟩ (.int .i64 hq')).setCell ⟨w.heap.size + 1 + 1 + 1, 0, none⟩ (.int .u64 lr)).setCell ⟨w.heap.size + 1 + 1 + 1, 1, none⟩ (.int .i64 hr')) :=
    (((((HK3.out.trans hk4).trans hk5).setCell (.inr (by dsimp only; omega)) _).setCell (.inr (by dsimp only; omega)) _).setCell (.inr (by dsimp only; omega)) _).setCell (.inr (by dsimp only; omega)) _
  have hE2 := blk_far (p := ⟨w.heap.size + 1 + 1 + 1, 1, none⟩) (blk_far (p := ⟨w.heap.size + 1 + 1 + 1, 0, none⟩) (blk_set (blk_set hb25 0 (.int .u64 lq)) 1 (.int .i64 hq')) (by dsimp only; omega) (.int .u64 lr)) (by dsimp only; omega) (.int .i64 hr')
  have hE3 := blk_set (blk_set (blk_far (p := ⟨w.heap.size + 1 + 1, 1, none⟩) (blk_far (p := ⟨w.heap.size + 1 + 1, 0, none⟩) hb35 (by dsimp only; omega) (.int .u64 lq)) (by dsimp only; omega) (.int .i64 hq')) 0 (.int .u64 lr)) 1 (.int .i64 hr')
  have t0 := blk_cell hE2 0
  have t1 := blk_cell hE2 1
  have t2 := blk_cell hE3 0
  have t3 := blk_cell hE3 1
  simp at t0 t1 t2 t3
  have HF := Lib.hid hkE
  clear hkE hE2 hE3 hb25 hb35
  go_wp2_with fail
  exact bodyPost_ret (v := .tuple #[.agg #[.int .u64 lq, .int .i64 hq'], .agg #[.int .u64 lr, .int .i64 hr']]) (by simp [results, Tryz.results46, go_sem, t0, t1, t2, t3]) rfl ⟨rfl, HF.out⟩
end Go.Proofs.YtamkglgiaiejkaaGreatDoor
