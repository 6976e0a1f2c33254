import Derived.Test.YtamkglgiaiejkaaGreatDoorYx29
/-! The kernels' tables of operations. -/
namespace Go.Proofs.YtamkglgiaiejkaaGreatDoor
open Go.RowKit

set_option maxRecDepth 100000 in
set_option maxHeartbeats 4000000 in
theorem opDivide45 (x y : Int) (hx : Small x) (hy : Small y) (hy0 : y ≠ 0) (w : World) (hG : w.cell? ⟨2, 0, none⟩ = some (.int .i64 40)) : Calls Tryz.prog 45 #[numV x, numV y] w fun e w' => e = .returned (.tuple #[numV (x.tdiv y), numV (x.tmod y)]) ∧ Keep (fun _ => False) w w' := by
  have H := Lib.hid (fun w hG => div46 x y hx hy hy0 w hG)
  obtain ⟨l0, hl0⟩ : ∃ z, z = ((x) % 18446744073709551616).toNat := ⟨_, rfl⟩
  obtain ⟨h0, hh0⟩ : ∃ z, z = (x) / 18446744073709551616 := ⟨_, rfl⟩
  have e0 : numV (x) = .agg #[.int .u64 l0, .int .i64 h0] := by rw [hl0, hh0]; rfl
  obtain ⟨l1, hl1⟩ : ∃ z, z = ((y) % 18446744073709551616).toNat := ⟨_, rfl⟩
  obtain ⟨h1, hh1⟩ : ∃ z, z = (y) / 18446744073709551616 := ⟨_, rfl⟩
  have e1 : numV (y) = .agg #[.int .u64 l1, .int .i64 h1] := by rw [hl1, hh1]; rfl
  obtain ⟨l2, hl2⟩ : ∃ z, z = ((x.tdiv y) % 18446744073709551616).toNat := ⟨_, rfl⟩
  obtain ⟨h2, hh2⟩ : ∃ z, z = (x.tdiv y) / 18446744073709551616 := ⟨_, rfl⟩
  have e2 : numV (x.tdiv y) = .agg #[.int .u64 l2, .int .i64 h2] := by rw [hl2, hh2]; rfl
  obtain ⟨l3, hl3⟩ : ∃ z, z = ((x.tmod y) % 18446744073709551616).toNat := ⟨_, rfl⟩
  obtain ⟨h3, hh3⟩ : ∃ z, z = (x.tmod y) / 18446744073709551616 := ⟨_, rfl⟩
  have e3 : numV (x.tmod y) = .agg #[.int .u64 l3, .int .i64 h3] := by rw [hl3, hh3]; rfl
  rw [e0, e1, e2, e3] at H ⊢
  clear e0 hl0 hh0 e1 hl1 hh1 e2 hl2 hh2 e3 hl3 hh3
  obtain ⟨_, _, b2, b3, hk0⟩ := four_nums w (.cells #[.int .u64 l0, .int .i64 h0] 42) (.cells #[.int .u64 l1, .int .i64 h1] 42) (.cells #[.int .u64 0, .int .i64 0] 42) (.cells #[.int .u64 0, .int .i64 0] 42)
  have hG0 := hk0.cell hG (fun h => h)
  have HG := Lib.hid hG0
  clear hG hG0
  go_enter Tryz.func45, Tryz.ntmps45
  go_wp2_with fail
  refine (H.out _ HG.out).mono ?_
  rintro e w1 ⟨rfl, hk1⟩
  have b21 := hk1.blk b2 (fun h => h)
  have b31 := hk1.blk b3 (fun h => h)
  have r0 := blk_cell b21 0
  have r1 := blk_cell b21 1
  have rf := blk_frozen b21
  have s0 := blk_cell b31 0
  have s1 := blk_cell b31 1
  have sf := blk_frozen b31
  simp only [List.getElem?_toArray, List.getElem?_cons_zero, List.getElem?_cons_succ] at r0 r1 s0 s1
  have hkE : Keep (fun _ => False) w ((((w1.setCell ⟨w.heap.size + 1 + 1, 0, none⟩ (.int .u64 l2)).setCell ⟨w.heap.size + 1 + 1, 1, none⟩ (.int .i64 h2)).setCell ⟨w.heap.size + 1 + 1 + 1, 0, none⟩ (.int .u64 l3)).setCell ⟨w.heap.size + 1 + 1 + 1, 1, none⟩ (.int .i64 h3)) :=
    (((((hk0.trans hk1)).setCell (.inr (by dsimp only; omega)) _).setCell (.inr (by dsimp only; omega)) _).setCell (.inr (by dsimp only; omega)) _).setCell (.inr (by dsimp only; omega)) _
  have hE2 := blk_far (p := ⟨w.heap.size + 1 + 1 + 1, 1, none⟩) (blk_far (p := ⟨w.heap.size + 1 + 1 + 1, 0, none⟩) (blk_set (blk_set b21 0 (.int .u64 l2)) 1 (.int .i64 h2)) (by dsimp only; omega) (.int .u64 l3)) (by dsimp only; omega) (.int .i64 h3)
  have hE3 := blk_set (blk_set (blk_far (p := ⟨w.heap.size + 1 + 1, 1, none⟩) (blk_far (p := ⟨w.heap.size + 1 + 1, 0, none⟩) b31 (by dsimp only; omega) (.int .u64 l2)) (by dsimp only; omega) (.int .i64 h2)) 0 (.int .u64 l3)) 1 (.int .i64 h3)
  have t0 := blk_cell hE2 0
  have t1 := blk_cell hE2 1
  have t2 := blk_cell hE3 0
  have t3 := blk_cell hE3 1
  simp at t0 t1 t2 t3
  have HF := Lib.hid hkE
  clear hkE hE2 hE3
  go_wp2_with fail
  exact bodyPost_ret (v := .tuple #[.agg #[.int .u64 l2, .int .i64 h2], .agg #[.int .u64 l3, .int .i64 h3]]) (by simp [results, Tryz.results45, go_sem, t0, t1, t2, t3]) rfl ⟨rfl, HF.out⟩
set_option maxRecDepth 100000 in
set_option maxHeartbeats 4000000 in
theorem opDiv78 (x y : Int) (hx : Small x) (hy : Small y) (hy0 : y ≠ 0) (w : World) (hG : w.cell? ⟨2, 0, none⟩ = some (.int .i64 40)) : Calls Tryz.prog 78 #[numV x, numV y] w fun e w' => e = .returned (numV (x.tdiv y)) ∧ Keep (fun _ => False) w w' := by
  have H := Lib.hid (fun w hG => div46 x y hx hy hy0 w hG)
  obtain ⟨l0, hl0⟩ : ∃ z, z = ((x) % 18446744073709551616).toNat := ⟨_, rfl⟩
  obtain ⟨h0, hh0⟩ : ∃ z, z = (x) / 18446744073709551616 := ⟨_, rfl⟩
  have e0 : numV (x) = .agg #[.int .u64 l0, .int .i64 h0] := by rw [hl0, hh0]; rfl
  obtain ⟨l1, hl1⟩ : ∃ z, z = ((y) % 18446744073709551616).toNat := ⟨_, rfl⟩
  obtain ⟨h1, hh1⟩ : ∃ z, z = (y) / 18446744073709551616 := ⟨_, rfl⟩
  have e1 : numV (y) = .agg #[.int .u64 l1, .int .i64 h1] := by rw [hl1, hh1]; rfl
  obtain ⟨l2, hl2⟩ : ∃ z, z = ((x.tdiv y) % 18446744073709551616).toNat := ⟨_, rfl⟩
  obtain ⟨h2, hh2⟩ : ∃ z, z = (x.tdiv y) / 18446744073709551616 := ⟨_, rfl⟩
  have e2 : numV (x.tdiv y) = .agg #[.int .u64 l2, .int .i64 h2] := by rw [hl2, hh2]; rfl
  rw [e0, e1, e2] at H
  rw [e0, e1, e2]
  generalize numV (x.tmod y) = vr at *
  clear e0 hl0 hh0 e1 hl1 hh1 e2 hl2 hh2
  obtain ⟨b2, hk0⟩ := box3 w (.cells #[.int .u64 l0, .int .i64 h0] 42) (.cells #[.int .u64 l1, .int .i64 h1] 42) (.cells #[.int .u64 0, .int .i64 0] 42)
  have b0 : (((w.alloc (.cells #[.int .u64 l0, .int .i64 h0] 42)).alloc (.cells #[.int .u64 l1, .int .i64 h1] 42)).alloc (.cells #[.int .u64 0, .int .i64 0] 42)).heap[w.heap.size]? = some (.cells #[.int .u64 l0, .int .i64 h0] 42) := blk_alloc (blk_alloc (blk_new w _) _) _
  have HG := Lib.hid (hk0.cell hG (fun h => h))
  clear hG
  go_enter Tryz.func78, Tryz.ntmps78
  go_wp2_with fail
  refine (H.out _ HG.out).mono ?_
  rintro e w1 ⟨rfl, hk1⟩
  have b01 := hk1.blk b0 (fun h => h)
  have b21 := hk1.blk b2 (fun h => h)
  have r0 := blk_cell b01 0
  have r1 := blk_cell b01 1
  have rf := blk_frozen b01
  have s0 := blk_cell b21 0
  have s1 := blk_cell b21 1
  have sf := blk_frozen b21
  simp only [List.getElem?_toArray, List.getElem?_cons_zero, List.getElem?_cons_succ] at r0 r1 s0 s1
  have hkE : Keep (fun _ => False) w ((((w1.setCell ⟨w.heap.size, 0, none⟩ (.int .u64 l2)).setCell ⟨w.heap.size, 1, none⟩ (.int .i64 h2)).setCell ⟨w.heap.size + 1 + 1, 0, none⟩ (.int .u64 l2)).setCell ⟨w.heap.size + 1 + 1, 1, none⟩ (.int .i64 h2)) := (((((hk0.trans hk1)).setCell (.inr (by dsimp only; omega)) _).setCell (.inr (by dsimp only; omega)) _).setCell (.inr (by dsimp only; omega)) _).setCell (.inr (by dsimp only; omega)) _
  have hE := blk_set (blk_set (blk_far (p := ⟨w.heap.size, 1, none⟩) (blk_far (p := ⟨w.heap.size, 0, none⟩) b21 (by dsimp only; omega) (.int .u64 l2)) (by dsimp only; omega) (.int .i64 h2)) 0 (.int .u64 l2)) 1 (.int .i64 h2)
  have t0 := blk_cell hE 0
  have t1 := blk_cell hE 1
  simp at t0 t1
  have HF := Lib.hid hkE
  clear hkE hE
  go_wp2_with fail
  exact bodyPost_ret (v := .agg #[.int .u64 l2, .int .i64 h2]) (by simp [results, Tryz.results78, go_sem, t0, t1]) rfl ⟨rfl, HF.out⟩
set_option maxRecDepth 100000 in
set_option maxHeartbeats 4000000 in
theorem opFits47 (x : Int) (hx : Small x) (p : Nat) (h1 : 1 ≤ p) (h38 : p ≤ 38) (w : World) (hS : Scales w) : Calls Tryz.prog 47 #[numV x, .int .i32 p] w fun e w' => e = .returned (.bool (decide (x.natAbs < 10 ^ p))) ∧ Keep (fun _ => False) w w' := by
  have H := Lib.hid (fun w hS => fits48 x hx p h1 h38 w hS)
  obtain ⟨l0, hl0⟩ : ∃ z, z = ((x) % 18446744073709551616).toNat := ⟨_, rfl⟩
  obtain ⟨h0, hh0⟩ : ∃ z, z = (x) / 18446744073709551616 := ⟨_, rfl⟩
  have e0 : numV (x) = .agg #[.int .u64 l0, .int .i64 h0] := by rw [hl0, hh0]; rfl
  rw [e0] at H ⊢
  generalize decide (x.natAbs < 10 ^ p) = c at *
  clear e0 hl0 hh0
  obtain ⟨b0, hk0⟩ := box1 w (.cells #[.int .u64 l0, .int .i64 h0] 42)
  have HS := Lib.hid (hS.keep hk0 (fun h => h))
  clear hS
  go_enter Tryz.func47, Tryz.ntmps47
  go_wp2_with fail
  refine (H.out _ HS.out).mono ?_
  rintro e w1 ⟨rfl, hk1⟩
  go_wp2_with fail
  go_ret
  exact ⟨rfl, hk0.trans hk1⟩
/-- A value that is a function of the program. -/
def opsCells : Array Value := #[.func (.func 72) #[] #[], .func (.func 74) #[] #[], .func (.func 78) #[] #[], .func (.func 76) #[] #[], .func (.func 79) #[] #[], .func (.func 81) #[] #[], .func (.func 83) #[] #[]]
def implCells (ob : Nat) : Array Value := #[.pointer (some ⟨ob, 0, none⟩), .func (.func 43) #[] #[], .func (.func 44) #[] #[], .func (.func 45) #[] #[], .func (.func 47) #[] #[], .func (.func 49) #[] #[], .func (.func 51) #[] #[], .func (.func 53) #[] #[], .func (.func 55) #[] #[], .func (.func 56) #[] #[], .func (.func 58) #[] #[]]
/-- The table of operations lies at a pointer. -/
def Impl (w : World) (ib ob : Nat) : Prop := w.heap[ib]? = some (.cells (implCells ob) 99 (0, 0)) ∧ w.heap[ob]? = some (.cells opsCells 104 (0, 0))
theorem Impl.keep {S : Nat → Prop} {w w' : World} {ib ob : Nat} (h : Impl w ib ob) (hk : Keep S w w') (h1 : ¬ S ib) (h2 : ¬ S ob) : Impl w' ib ob := ⟨hk.blk h.1 h1, hk.blk h.2 h2⟩
set_option maxRecDepth 100000 in
set_option maxHeartbeats 4000000 in
theorem ops42 (w : World) : Calls Tryz.prog 42 #[] w fun e w' => e = .returned (.pointer (some ⟨w.heap.size, 0, none⟩)) ∧ w' = w.alloc (.cells opsCells 104) := by
  unfold opsCells
  go_enter Tryz.func42, Tryz.ntmps42
  go_wp2_with fail
  go_ret
  exact ⟨rfl, rfl⟩
set_option maxRecDepth 100000 in
set_option maxHeartbeats 4000000 in
theorem impl30 (w : World) : Calls Tryz.prog 30 #[] w fun e w' => e = .returned (.pointer (some ⟨w.heap.size + 1, 0, none⟩)) ∧ Impl w' (w.heap.size + 1) w.heap.size ∧ Keep (fun _ => False) w w' := by
  have HI := Lib.hid (box2 w (.cells opsCells 104) (.cells (implCells w.heap.size) 99))
  have HI1 := Lib.hid (blk_alloc (blk_new w (.cells opsCells 104)) (.cells (implCells w.heap.size) 99))
  have HO := Lib.hid (ops42 w)
  unfold implCells at HI HI1
  unfold Impl implCells
  generalize opsCells = oc at *
  go_enter Tryz.func30, Tryz.ntmps30
  go_wp2_with fail
  refine HO.out.mono ?_
  rintro e w1 ⟨rfl, rfl⟩
  go_wp2_with fail
  go_ret
  exact ⟨by simp, ⟨HI.out.1, HI1.out⟩, HI.out.2⟩
set_option maxRecDepth 100000 in
set_option maxHeartbeats 4000000 in
theorem chosen40 (mode : Int) (h0 : 0 ≤ mode) (h9 : mode ≤ 9) (ib ob : Nat) (w : World) (hI : Impl w ib ob) : Calls Tryz.prog 40 #[.int .i8 mode, .pointer (some ⟨ib, 0, none⟩)] w fun e w' => (∃ f a c, e = .returned (.func f a c)) ∧ Keep (fun _ => False) w w' := by
  have H1 := Lib.hid (fun w => opFrom56 1 (by decide) (by decide) w)
  have H2 := Lib.hid (fun w => opFrom56 (-1) (by decide) (by decide) w)
  rw [show numV 1 = .agg #[.int .u64 1, .int .i64 0] from rfl] at H1
  rw [show numV (-1) = .agg #[.int .u64 18446744073709551615, .int .i64 (-1)] from rfl] at H2
  obtain ⟨b1, hk0⟩ := box2 w (.cells #[.pointer (some ⟨ib, 0, none⟩)] 68) (.cells #[.int .u64 0, .int .i64 0] 42)
  have b0 := blk_alloc (blk_new w (.cells #[.pointer (some ⟨ib, 0, none⟩)] 68)) (.cells #[.int .u64 0, .int .i64 0] 42)
  have i0 := hk0.blk hI.1 (fun h => h)
  have c9 := blk_cell i0 9
  have f9 := blk_frozen i0
  unfold implCells at c9
  simp only [List.getElem?_toArray, List.getElem?_cons_zero, List.getElem?_cons_succ] at c9
  have HK0 := Lib.hid hk0
  obtain rfl | rfl | rfl | rfl | rfl | rfl | rfl | rfl | rfl | rfl : mode = 0 ∨ mode = 1 ∨ mode = 2 ∨ mode = 3 ∨ mode = 4 ∨ mode = 5 ∨ mode = 6 ∨ mode = 7 ∨ mode = 8 ∨ mode = 9 := by omega
  · go_enter Tryz.func40, Tryz.ntmps40
    go_wp2_with fail
    refine (H1.out _).mono ?_
    rintro e w1 ⟨rfl, hk1⟩
    have b01 := blk_alloc (hk1.blk b0 (fun h => h)) (.cells #[.int .u64 1, .int .i64 0] 42)
    have p0 := blk_cell b01 0
    have hka := (HK0.out.trans hk1).alloc (.cells #[.int .u64 1, .int .i64 0] 42)
    have c91 := (hk1.alloc (.cells #[.int .u64 1, .int .i64 0] 42)).cell c9 (fun h => h)
    simp only [List.getElem?_toArray, List.getElem?_cons_zero] at p0
    go_wp2_with fail
    refine (H2.out _).mono ?_
    rintro e w2 ⟨rfl, hk2⟩
    have hkb := (hka.trans hk2).alloc (.cells #[.int .u64 18446744073709551615, .int .i64 (-1)] 42)
    go_wp2_with fail
    go_ret
    exact ⟨⟨_, _, _, rfl⟩, hkb⟩
  · go_enter Tryz.func40, Tryz.ntmps40
    go_wp2_with fail
    refine (H1.out _).mono ?_
    rintro e w1 ⟨rfl, hk1⟩
    have b01 := blk_alloc (hk1.blk b0 (fun h => h)) (.cells #[.int .u64 1, .int .i64 0] 42)
    have p0 := blk_cell b01 0
    have hka := (HK0.out.trans hk1).alloc (.cells #[.int .u64 1, .int .i64 0] 42)
    have c91 := (hk1.alloc (.cells #[.int .u64 1, .int .i64 0] 42)).cell c9 (fun h => h)
    simp only [List.getElem?_toArray, List.getElem?_cons_zero] at p0
    go_wp2_with fail
    refine (H2.out _).mono ?_
    rintro e w2 ⟨rfl, hk2⟩
    have hkb := (hka.trans hk2).alloc (.cells #[.int .u64 18446744073709551615, .int .i64 (-1)] 42)
    go_wp2_with fail
    go_ret
    exact ⟨⟨_, _, _, rfl⟩, hkb⟩
  · go_enter Tryz.func40, Tryz.ntmps40
    go_wp2_with fail
    refine (H1.out _).mono ?_
    rintro e w1 ⟨rfl, hk1⟩
    have b01 := blk_alloc (hk1.blk b0 (fun h => h)) (.cells #[.int .u64 1, .int .i64 0] 42)
    have p0 := blk_cell b01 0
    have hka := (HK0.out.trans hk1).alloc (.cells #[.int .u64 1, .int .i64 0] 42)
    have c91 := (hk1.alloc (.cells #[.int .u64 1, .int .i64 0] 42)).cell c9 (fun h => h)
    simp only [List.getElem?_toArray, List.getElem?_cons_zero] at p0
    go_wp2_with fail
    refine (H2.out _).mono ?_
    rintro e w2 ⟨rfl, hk2⟩
    have hkb := (hka.trans hk2).alloc (.cells #[.int .u64 18446744073709551615, .int .i64 (-1)] 42)
    go_wp2_with fail
    go_ret
    exact ⟨⟨_, _, _, rfl⟩, hkb⟩
  · go_enter Tryz.func40, Tryz.ntmps40
    go_wp2_with fail
    refine (H1.out _).mono ?_
    rintro e w1 ⟨rfl, hk1⟩
    have b01 := blk_alloc (hk1.blk b0 (fun h => h)) (.cells #[.int .u64 1, .int .i64 0] 42)
    have p0 := blk_cell b01 0
    have hka := (HK0.out.trans hk1).alloc (.cells #[.int .u64 1, .int .i64 0] 42)
    have c91 := (hk1.alloc (.cells #[.int .u64 1, .int .i64 0] 42)).cell c9 (fun h => h)
    simp only [List.getElem?_toArray, List.getElem?_cons_zero] at p0
    go_wp2_with fail
    refine (H2.out _).mono ?_
    rintro e w2 ⟨rfl, hk2⟩
    have hkb := (hka.trans hk2).alloc (.cells #[.int .u64 18446744073709551615, .int .i64 (-1)] 42)
    go_wp2_with fail
    go_ret
    exact ⟨⟨_, _, _, rfl⟩, hkb⟩
  · go_enter Tryz.func40, Tryz.ntmps40
    go_wp2_with fail
    refine (H1.out _).mono ?_
    rintro e w1 ⟨rfl, hk1⟩
    have b01 := blk_alloc (hk1.blk b0 (fun h => h)) (.cells #[.int .u64 1, .int .i64 0] 42)
    have p0 := blk_cell b01 0
    have hka := (HK0.out.trans hk1).alloc (.cells #[.int .u64 1, .int .i64 0] 42)
    have c91 := (hk1.alloc (.cells #[.int .u64 1, .int .i64 0] 42)).cell c9 (fun h => h)
    simp only [List.getElem?_toArray, List.getElem?_cons_zero] at p0
    go_wp2_with fail
    refine (H2.out _).mono ?_
    rintro e w2 ⟨rfl, hk2⟩
    have hkb := (hka.trans hk2).alloc (.cells #[.int .u64 18446744073709551615, .int .i64 (-1)] 42)
    go_wp2_with fail
    go_ret
    exact ⟨⟨_, _, _, rfl⟩, hkb⟩
  · go_enter Tryz.func40, Tryz.ntmps40
    go_wp2_with fail
    refine (H1.out _).mono ?_
    rintro e w1 ⟨rfl, hk1⟩
    have b01 := blk_alloc (hk1.blk b0 (fun h => h)) (.cells #[.int .u64 1, .int .i64 0] 42)
    have p0 := blk_cell b01 0
    have hka := (HK0.out.trans hk1).alloc (.cells #[.int .u64 1, .int .i64 0] 42)
    have c91 := (hk1.alloc (.cells #[.int .u64 1, .int .i64 0] 42)).cell c9 (fun h => h)
    simp only [List.getElem?_toArray, List.getElem?_cons_zero] at p0
    go_wp2_with fail
    refine (H2.out _).mono ?_
    rintro e w2 ⟨rfl, hk2⟩
    have hkb := (hka.trans hk2).alloc (.cells #[.int .u64 18446744073709551615, .int .i64 (-1)] 42)
    go_wp2_with fail
    go_ret
    exact ⟨⟨_, _, _, rfl⟩, hkb⟩
  · go_enter Tryz.func40, Tryz.ntmps40
    go_wp2_with fail
    refine (H1.out _).mono ?_
    rintro e w1 ⟨rfl, hk1⟩
    have b01 := blk_alloc (hk1.blk b0 (fun h => h)) (.cells #[.int .u64 1, .int .i64 0] 42)
    have p0 := blk_cell b01 0
    have hka := (HK0.out.trans hk1).alloc (.cells #[.int .u64 1, .int .i64 0] 42)
    have c91 := (hk1.alloc (.cells #[.int .u64 1, .int .i64 0] 42)).cell c9 (fun h => h)
    simp only [List.getElem?_toArray, List.getElem?_cons_zero] at p0
    go_wp2_with fail
    refine (H2.out _).mono ?_
    rintro e w2 ⟨rfl, hk2⟩
    have hkb := (hka.trans hk2).alloc (.cells #[.int .u64 18446744073709551615, .int .i64 (-1)] 42)
    go_wp2_with fail
    go_ret
    exact ⟨⟨_, _, _, rfl⟩, hkb⟩
  · go_enter Tryz.func40, Tryz.ntmps40
    go_wp2_with fail
    refine (H1.out _).mono ?_
    rintro e w1 ⟨rfl, hk1⟩
    have b01 := blk_alloc (hk1.blk b0 (fun h => h)) (.cells #[.int .u64 1, .int .i64 0] 42)
    have p0 := blk_cell b01 0
    have hka := (HK0.out.trans hk1).alloc (.cells #[.int .u64 1, .int .i64 0] 42)
    have c91 := (hk1.alloc (.cells #[.int .u64 1, .int .i64 0] 42)).cell c9 (fun h => h)
    simp only [List.getElem?_toArray, List.getElem?_cons_zero] at p0
    go_wp2_with fail
    refine (H2.out _).mono ?_
    rintro e w2 ⟨rfl, hk2⟩
    have hkb := (hka.trans hk2).alloc (.cells #[.int .u64 18446744073709551615, .int .i64 (-1)] 42)
    go_wp2_with fail
    go_ret
    exact ⟨⟨_, _, _, rfl⟩, hkb⟩
  · go_enter Tryz.func40, Tryz.ntmps40
    go_wp2_with fail
    refine (H1.out _).mono ?_
    rintro e w1 ⟨rfl, hk1⟩
    have b01 := blk_alloc (hk1.blk b0 (fun h => h)) (.cells #[.int .u64 1, .int .i64 0] 42)
    have p0 := blk_cell b01 0
    have hka := (HK0.out.trans hk1).alloc (.cells #[.int .u64 1, .int .i64 0] 42)
    have c91 := (hk1.alloc (.cells #[.int .u64 1, .int .i64 0] 42)).cell c9 (fun h => h)
    simp only [List.getElem?_toArray, List.getElem?_cons_zero] at p0
    go_wp2_with fail
    refine (H2.out _).mono ?_
    rintro e w2 ⟨rfl, hk2⟩
    have hkb := (hka.trans hk2).alloc (.cells #[.int .u64 18446744073709551615, .int .i64 (-1)] 42)
    go_wp2_with fail
    go_ret
    exact ⟨⟨_, _, _, rfl⟩, hkb⟩
  · go_enter Tryz.func40, Tryz.ntmps40
    go_wp2_with fail
    refine (H1.out _).mono ?_
    rintro e w1 ⟨rfl, hk1⟩
    have b01 := blk_alloc (hk1.blk b0 (fun h => h)) (.cells #[.int .u64 1, .int .i64 0] 42)
    have p0 := blk_cell b01 0
    have hka := (HK0.out.trans hk1).alloc (.cells #[.int .u64 1, .int .i64 0] 42)
    have c91 := (hk1.alloc (.cells #[.int .u64 1, .int .i64 0] 42)).cell c9 (fun h => h)
    simp only [List.getElem?_toArray, List.getElem?_cons_zero] at p0
    go_wp2_with fail
    refine (H2.out _).mono ?_
    rintro e w2 ⟨rfl, hk2⟩
    have hkb := (hka.trans hk2).alloc (.cells #[.int .u64 18446744073709551615, .int .i64 (-1)] 42)
    go_wp2_with fail
    go_ret
    exact ⟨⟨_, _, _, rfl⟩, hkb⟩
end Go.Proofs.YtamkglgiaiejkaaGreatDoor
