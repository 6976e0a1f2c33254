import Derived.Test.YtamkglgiaiejkaaGreatDoorYx22
/-! Decimals of 128 bits: which is less. -/
namespace Go.Proofs.YtamkglgiaiejkaaGreatDoor
open Go.RowKit

set_option maxRecDepth 100000 in
set_option maxHeartbeats 4000000 in
theorem lessNum50 (x y : Int) (w : World) : Calls Tryz.prog 50 #[numV x, numV y] w fun e w' => e = .returned (.bool (decide (x < y))) ∧ Keep (fun _ => False) w w' := by
  obtain ⟨lx, hlx⟩ : ∃ z, z = (x % 18446744073709551616).toNat := ⟨_, rfl⟩
  obtain ⟨hx, hhx⟩ : ∃ z, z = x / 18446744073709551616 := ⟨_, rfl⟩
  obtain ⟨ly, hly⟩ : ∃ z, z = (y % 18446744073709551616).toNat := ⟨_, rfl⟩
  obtain ⟨hy, hhy⟩ : ∃ z, z = y / 18446744073709551616 := ⟨_, rfl⟩
  have e1 : numV x = .agg #[.int .u64 lx, .int .i64 hx] := by rw [hlx, hhx]; rfl
  have e2 : numV y = .agg #[.int .u64 ly, .int .i64 hy] := by rw [hly, hhy]; rfl
  rw [e1, e2]
  have hk : Keep (fun _ => False) w ((w.alloc (.cells #[.int .u64 lx, .int .i64 hx] 42)).alloc (.cells #[.int .u64 ly, .int .i64 hy] 42)) := ((Keep.refl _ w).alloc _).alloc _
  by_cases h1 : hx < hy
  · rw [show decide (x < y) = true by simpa using (by omega : x < y)]
    clear e1 e2 hlx hhx hly hhy
    go_enter Tryz.func50, Tryz.ntmps50
    go_wp2_with fail
    go_ret
    exact ⟨rfl, hk⟩
  · by_cases h2 : hx = hy
    · by_cases h3 : lx < ly
      · rw [show decide (x < y) = true by simpa using (by omega : x < y)]
        have h3' : (lx : Int) < (ly : Int) := by omega
        clear e1 e2 hlx hhx hly hhy h3
        subst h2
        go_enter Tryz.func50, Tryz.ntmps50
        go_wp2_with fail
        go_ret
        exact ⟨rfl, hk⟩
      · rw [show decide (x < y) = false by simpa using (by omega : ¬ x < y)]
        have h3' : ¬ (lx : Int) < (ly : Int) := by omega
        clear e1 e2 hlx hhx hly hhy h3
        subst h2
        go_enter Tryz.func50, Tryz.ntmps50
        go_wp2_with fail
        go_ret
        exact ⟨rfl, hk⟩
    · rw [show decide (x < y) = false by simpa using (by omega : ¬ x < y)]
      have h2' : (hx == hy) = false := beq_eq_false_iff_ne.2 h2
      clear e1 e2 hlx hhx hly hhy
      go_enter Tryz.func50, Tryz.ntmps50
      go_wp2_with fail
      go_ret
      exact ⟨rfl, hk⟩
end Go.Proofs.YtamkglgiaiejkaaGreatDoor

/-! Decimals of 128 bits: made of a word. -/
namespace Go.Proofs.YtamkglgiaiejkaaGreatDoor
open Go.RowKit

set_option maxRecDepth 100000 in
set_option maxHeartbeats 4000000 in
theorem new14 (h : Int) (l : Nat) (w : World) : Calls Tryz.prog 14 #[.int .i64 h, .int .u64 l] w fun e w' => e = .returned (.agg #[.int .u64 l, .int .i64 h]) ∧ Keep (fun _ => False) w w' := by
  go_enter Tryz.func14, Tryz.ntmps14
  go_wp2_with fail
  exact bodyPost_ret (v := .agg #[.int .u64 l, .int .i64 h]) (by simp [results, Tryz.results14, go_sem]) rfl ⟨rfl, by repeat (first | exact Keep.refl _ _ | refine Keep.setCell ?_ (.inr (Nat.le_refl _)) _ | refine Keep.alloc ?_ _)⟩
set_option maxRecDepth 100000 in
set_option maxHeartbeats 4000000 in
theorem fromI57 (n : Int) (h1 : -9223372036854775808 ≤ n) (h2 : n < 9223372036854775808) (w : World) : Calls Tryz.prog 57 #[.int .i64 n] w fun e w' => e = .returned (numV n) ∧ Keep (fun _ => False) w w' := by
  have hk0 : Keep (fun _ => False) w (w.alloc (.cells #[.int .u64 0, .int .i64 0] 42)) := (Keep.refl _ w).alloc _
  have hb0 := blk_new w (.cells #[.int .u64 0, .int .i64 0] 42)
  have hr0 := blk_cell hb0 0
  have hr1 := blk_cell hb0 1
  have hrf := blk_frozen hb0
  simp only [List.getElem?_toArray, List.getElem?_cons_zero, List.getElem?_cons_succ] at hr0 hr1
  obtain ⟨l, hl⟩ : ∃ z, z = (n % 18446744073709551616).toNat := ⟨_, rfl⟩
  have hw : IntKind.u64.wrap n = (l : Int) := by rw [IntKind.wrap_u64]; omega
  have e : numV n = .agg #[.int .u64 l, .int .i64 (n / 18446744073709551616)] := by rw [hl]; rfl
  rw [e]
  by_cases hp : 0 < n
  · rw [show n / 18446744073709551616 = 0 by omega]
    have HN := Lib.hid (fun w => new14 0 l w)
    clear hl e
    go_enter Tryz.func57, Tryz.ntmps57
    go_wp2_with fail
    refine (HN.out _).mono ?_
    rintro e w1 ⟨rfl, hk1⟩
    have hb1 := hk1.blk hb0 (fun h => h)
    have hr0 := hk1.cell hr0 (fun h => h)
    have hr1 := hk1.cell hr1 (fun h => h)
    have hrf := blk_frozen hb1
    go_wp2_with fail
    exact bodyPost_ret (v := .agg #[.int .u64 l, .int .i64 0]) (by simp [results, Tryz.results57, go_sem, hr0, hr1]) rfl ⟨rfl, ((hk0.trans hk1).setCell (.inr (Nat.le_refl _)) _).setCell (.inr (Nat.le_refl _)) _⟩
  · by_cases hn : n < 0
    · rw [show n / 18446744073709551616 = -1 by omega]
      have HN := Lib.hid (fun w => new14 (-1) l w)
      clear hl e
      go_enter Tryz.func57, Tryz.ntmps57
      go_wp2_with fail
      refine (HN.out _).mono ?_
      rintro e w1 ⟨rfl, hk1⟩
      have hb1 := hk1.blk hb0 (fun h => h)
      have hr0 := hk1.cell hr0 (fun h => h)
      have hr1 := hk1.cell hr1 (fun h => h)
      have hrf := blk_frozen hb1
      go_wp2_with fail
      exact bodyPost_ret (v := .agg #[.int .u64 l, .int .i64 (-1)]) (by simp [results, Tryz.results57, go_sem, hr0, hr1]) rfl ⟨rfl, ((hk0.trans hk1).setCell (.inr (Nat.le_refl _)) _).setCell (.inr (Nat.le_refl _)) _⟩
    · obtain rfl : n = 0 := by omega
      obtain rfl : l = 0 := by omega
      clear hl e
      go_enter Tryz.func57, Tryz.ntmps57
      go_wp2_with fail
      exact bodyPost_ret (v := .agg #[.int .u64 (0 : Nat), .int .i64 0]) (by simp [results, Tryz.results57, go_sem]) rfl ⟨rfl, by repeat (first | exact Keep.refl _ _ | refine Keep.setCell ?_ (.inr (Nat.le_refl _)) _ | refine Keep.alloc ?_ _)⟩
end Go.Proofs.YtamkglgiaiejkaaGreatDoor

/-! Decimals of 128 bits: without their sign. -/
namespace Go.Proofs.YtamkglgiaiejkaaGreatDoor
open Go.RowKit

theorem signNum84' (x : Int) (hx : Small x) (w : World) : Calls Tryz.prog 84 #[numV x] w fun e w' => ∃ s : Int, e = .returned (.int .i64 s) ∧ (s == -1) = decide (x < 0) ∧ Keep (fun _ => False) w w' := by
  obtain ⟨h1, h2⟩ := hx
  refine (sign84 (x % 18446744073709551616).toNat (x / 18446744073709551616) w (by omega) (by omega)).mono ?_
  rintro e w' ⟨rfl, hk⟩
  refine ⟨_, rfl, ?_, hk⟩
  by_cases hn : x < 0
  · rw [if_pos (by omega), decide_eq_true hn]; rfl
  · rw [if_neg (by omega), decide_eq_false hn]
    split <;> rfl
set_option maxRecDepth 100000 in
set_option maxHeartbeats 4000000 in
theorem abs80 (x : Int) (hx : Small x) (w : World) : Calls Tryz.prog 80 #[numV x] w fun e w' => e = .returned (numV (if x < 0 then -x else x)) ∧ Keep (fun _ => False) w w' := by
  obtain ⟨l, hl⟩ : ∃ z, z = (x % 18446744073709551616).toNat := ⟨_, rfl⟩
  obtain ⟨h, hh⟩ : ∃ z, z = x / 18446744073709551616 := ⟨_, rfl⟩
  have e1 : numV x = .agg #[.int .u64 l, .int .i64 h] := by rw [hl, hh]; rfl
  obtain ⟨l', hl'⟩ : ∃ z, z = ((-x) % 18446744073709551616).toNat := ⟨_, rfl⟩
  obtain ⟨h', hh'⟩ : ∃ z, z = (-x) / 18446744073709551616 := ⟨_, rfl⟩
  have e2 : numV (-x) = .agg #[.int .u64 l', .int .i64 h'] := by rw [hl', hh']; rfl
  have HS := Lib.hid (fun w => signNum84' x hx w)
  have HN := Lib.hid (fun w => negNum82 x hx w)
  rw [e1] at HS
  rw [e1, e2] at HN
  have hk0 : Keep (fun _ => False) w ((w.alloc (.cells #[.int .u64 l, .int .i64 h] 42)).alloc (.cells #[.int .u64 0, .int .i64 0] 42)) := ((Keep.refl _ w).alloc _).alloc _
  have hba := blk_alloc (blk_new w (.cells #[.int .u64 l, .int .i64 h] 42)) (.cells #[.int .u64 0, .int .i64 0] 42)
  have hbr : ((w.alloc (.cells #[.int .u64 l, .int .i64 h] 42)).alloc (.cells #[.int .u64 0, .int .i64 0] 42)).heap[w.heap.size + 1]? = some (.cells #[.int .u64 0, .int .i64 0] 42 (0, 0)) := by
    have := blk_new (w.alloc (.cells #[.int .u64 l, .int .i64 h] 42)) (.cells #[.int .u64 0, .int .i64 0] 42)
    simpa using this
  by_cases hn : x < 0
  · rw [if_pos hn, e1, e2]
    rw [decide_eq_true hn] at HS
    clear hl hh hl' hh' e1 e2 hn
    go_enter Tryz.func80, Tryz.ntmps80
    go_wp2_with fail
    refine (HS.out _).mono ?_
    rintro e w1 ⟨s, rfl, hs, hk1⟩
    have hba1 := hk1.blk hba (fun h => h)
    have c0 := blk_cell hba1 0
    have c1 := blk_cell hba1 1
    simp only [List.getElem?_toArray, List.getElem?_cons_zero, List.getElem?_cons_succ] at c0 c1
    go_wp2_with fail
    refine (HN.out _).mono ?_
    rintro e w2 ⟨rfl, hk2⟩
    have hbr2 := hk2.blk (hk1.blk hbr (fun h => h)) (fun h => h)
    have r0 := blk_cell hbr2 0
    have r1 := blk_cell hbr2 1
    have rf := blk_frozen hbr2
    simp only [List.getElem?_toArray, List.getElem?_cons_zero, List.getElem?_cons_succ] at r0 r1
    go_wp2_with fail
    exact bodyPost_ret (v := .agg #[.int .u64 l', .int .i64 h']) (by simp [results, Tryz.results80, go_sem, r0, r1]) rfl ⟨rfl, (((hk0.trans hk1).trans hk2).setCell (.inr (Nat.le_succ _)) _).setCell (.inr (Nat.le_succ _)) _⟩
  · rw [if_neg hn, e1]
    rw [decide_eq_false hn] at HS
    clear hl hh hl' hh' e1 e2 hn
    go_enter Tryz.func80, Tryz.ntmps80
    go_wp2_with fail
    refine (HS.out _).mono ?_
    rintro e w1 ⟨s, rfl, hs, hk1⟩
    have hba1 := hk1.blk hba (fun h => h)
    have c0 := blk_cell hba1 0
    have c1 := blk_cell hba1 1
    have hbr2 := hk1.blk hbr (fun h => h)
    have r0 := blk_cell hbr2 0
    have r1 := blk_cell hbr2 1
    have rf := blk_frozen hbr2
    simp only [List.getElem?_toArray, List.getElem?_cons_zero, List.getElem?_cons_succ] at c0 c1 r0 r1
    go_wp2_with fail
    exact bodyPost_ret (v := .agg #[.int .u64 l, .int .i64 h]) (by simp [results, Tryz.results80, go_sem, r0, r1]) rfl ⟨rfl, ((hk0.trans hk1).setCell (.inr (Nat.le_succ _)) _).setCell (.inr (Nat.le_succ _)) _⟩
end Go.Proofs.YtamkglgiaiejkaaGreatDoor

/-! Decimals of 128 bits: products. -/
namespace Go.Proofs.YtamkglgiaiejkaaGreatDoor
open Go.RowKit

theorem mul_words (lx hx ly hy : Int) : (hx * 18446744073709551616 + lx) * (hy * 18446744073709551616 + ly) % 18446744073709551616 = lx * ly % 18446744073709551616 ∧
    (hx * 18446744073709551616 + lx) * (hy * 18446744073709551616 + ly) / 18446744073709551616 = hx * hy * 18446744073709551616 + hx * ly + lx * hy + lx * ly / 18446744073709551616 := by
  have e : (hx * 18446744073709551616 + lx) * (hy * 18446744073709551616 + ly) = lx * ly + 18446744073709551616 * (hx * hy * 18446744073709551616 + hx * ly + lx * hy) := by
    simp only [Int.mul_add, Int.add_mul]
    have a1 : hx * 18446744073709551616 * (hy * 18446744073709551616) = 18446744073709551616 * (hx * hy * 18446744073709551616) := by ac_rfl
    have a2 : lx * (hy * 18446744073709551616) = 18446744073709551616 * (lx * hy) := by ac_rfl
    have a3 : hx * 18446744073709551616 * ly = 18446744073709551616 * (hx * ly) := by ac_rfl
    omega
  constructor
  · rw [e, Int.add_mul_emod_self_left]
  · rw [e, Int.add_mul_ediv_left _ _ (by decide)]
    omega
theorem mul_high (p q r t : Int) (hx ly lx hy : Int) (hp : p = hx * ly) (hq : q = lx * hy) : (r + (hx % 18446744073709551616 * ly % 18446744073709551616 + lx * (hy % 18446744073709551616) % 18446744073709551616) % 18446744073709551616) % 18446744073709551616 = (t * 18446744073709551616 + p + q + r) % 18446744073709551616 := by
  have h1 : hx % 18446744073709551616 * ly % 18446744073709551616 = p % 18446744073709551616 := by
    rw [hp, Int.mul_emod, Int.emod_emod_of_dvd _ (Int.dvd_refl _), ← Int.mul_emod]
  have h2 : lx * (hy % 18446744073709551616) % 18446744073709551616 = q % 18446744073709551616 := by
    rw [hq, Int.mul_emod, Int.emod_emod_of_dvd _ (Int.dvd_refl _), ← Int.mul_emod]
  rw [h1, h2]
  omega
set_option maxRecDepth 100000 in
set_option maxHeartbeats 4000000 in
theorem mulNum77 (x y : Int) (hz : Small (x * y)) (w : World) : Calls Tryz.prog 77 #[numV x, numV y] w fun e w' => e = .returned (numV (x * y)) ∧ Keep (fun _ => False) w w' := by
  obtain ⟨z1, z2⟩ := hz
  obtain ⟨lx, hlx⟩ : ∃ z, z = (x % 18446744073709551616).toNat := ⟨_, rfl⟩
  obtain ⟨hx, hhx⟩ : ∃ z, z = x / 18446744073709551616 := ⟨_, rfl⟩
  obtain ⟨ly, hly⟩ : ∃ z, z = (y % 18446744073709551616).toNat := ⟨_, rfl⟩
  obtain ⟨hy, hhy⟩ : ∃ z, z = y / 18446744073709551616 := ⟨_, rfl⟩
  have e1 : numV x = .agg #[.int .u64 lx, .int .i64 hx] := by rw [hlx, hhx]; rfl
  have e2 : numV y = .agg #[.int .u64 ly, .int .i64 hy] := by rw [hly, hhy]; rfl
  have ex : x = hx * 18446744073709551616 + lx := by omega
  have ey : y = hy * 18446744073709551616 + ly := by omega
  obtain ⟨m1, m2⟩ := mul_words lx hx ly hy
  rw [← ex, ← ey] at m1 m2
  have m3 := mul_high (hx * ly) (lx * hy) (lx * ly / 18446744073709551616) (hx * hy) hx ly lx hy rfl rfl
  rw [← m2] at m3
  obtain ⟨A, hA⟩ : ∃ z : Nat, z = (hx % 18446744073709551616).toNat := ⟨_, rfl⟩
  obtain ⟨C, hC⟩ : ∃ z : Nat, z = (hy % 18446744073709551616).toNat := ⟨_, rfl⟩
  rw [show hx % 18446744073709551616 = (A : Int) by omega, show hy % 18446744073709551616 = (C : Int) by omega] at m3
  obtain ⟨pp, hpp⟩ : ∃ z : Int, z = (A : Int) * ly := ⟨_, rfl⟩
  obtain ⟨qq, hqq⟩ : ∃ z : Int, z = (lx : Int) * C := ⟨_, rfl⟩
  obtain ⟨mh, hmh⟩ : ∃ z : Nat, z = lx * ly / 18446744073709551616 := ⟨_, rfl⟩
  obtain ⟨ml, hml⟩ : ∃ z : Nat, z = lx * ly % 18446744073709551616 := ⟨_, rfl⟩
  have hmh' : (lx : Int) * ly / 18446744073709551616 = mh := by rw [hmh]; simp
  have hml' : (lx : Int) * ly % 18446744073709551616 = ml := by rw [hml]; simp
  rw [← hpp, ← hqq, hmh'] at m3
  rw [hml'] at m1
  obtain ⟨P, hP⟩ : ∃ z : Nat, z = (pp % 18446744073709551616).toNat := ⟨_, rfl⟩
  obtain ⟨Q, hQ⟩ : ∃ z : Nat, z = (qq % 18446744073709551616).toNat := ⟨_, rfl⟩
  obtain ⟨S, hS⟩ : ∃ z : Nat, z = (((P : Int) + Q) % 18446744073709551616).toNat := ⟨_, rfl⟩
  obtain ⟨H, hH⟩ : ∃ z : Nat, z = (((mh : Int) + S) % 18446744073709551616).toNat := ⟨_, rfl⟩
  have wA : IntKind.u64.wrap hx = (A : Int) := by rw [IntKind.wrap_u64]; omega
  have wC : IntKind.u64.wrap hy = (C : Int) := by rw [IntKind.wrap_u64]; omega
  have wP : IntKind.u64.wrap ((A : Int) * (ly : Int)) = (P : Int) := by rw [IntKind.wrap_u64, ← hpp]; omega
  have wQ : IntKind.u64.wrap ((lx : Int) * (C : Int)) = (Q : Int) := by rw [IntKind.wrap_u64, ← hqq]; omega
  have wS : IntKind.u64.wrap ((P : Int) + (Q : Int)) = (S : Int) := by rw [IntKind.wrap_u64]; omega
  have wH : IntKind.u64.wrap ((mh : Int) + (S : Int)) = (H : Int) := by rw [IntKind.wrap_u64]; omega
  have wR : IntKind.i64.wrap (H : Int) = x * y / 18446744073709551616 := by rw [IntKind.wrap_i64]; omega
  have e3 : numV (x * y) = .agg #[.int .u64 ml, .int .i64 (x * y / 18446744073709551616)] := by
    unfold numV
    rw [show (x * y % 18446744073709551616).toNat = ml by omega]
  have HM := Lib.hid (fun w => mul100 lx ly (by omega) (by omega) w)
  rw [← hmh, ← hml] at HM
  rw [e1, e2, e3]
  generalize x * y / 18446744073709551616 = R at *
  clear e1 e2 e3 hlx hhx hly hhy ex ey m1 m2 m3 hA hC hpp hqq hmh hml hmh' hml' hP hQ hS hH z1 z2
  go_enter Tryz.func77, Tryz.ntmps77
  go_wp2_with fail
  refine (HM.out _).mono ?_
  rintro e w1 ⟨rfl, rfl⟩
  go_wp2_with fail
  exact bodyPost_ret (v := .agg #[.int .u64 ml, .int .i64 R]) (by simp [results, Tryz.results77, go_sem]) rfl ⟨rfl, by repeat (first | exact Keep.refl _ _ | refine Keep.setCell ?_ (.inr (Nat.le_refl _)) _ | refine Keep.alloc ?_ _)⟩
end Go.Proofs.YtamkglgiaiejkaaGreatDoor

/-! The kernels' operations: small functions that hand on to the decimals' methods. -/
namespace Go.Proofs.YtamkglgiaiejkaaGreatDoor
open Go.RowKit

theorem box1 (w : World) (a : Obj) : (w.alloc a).heap[w.heap.size]? = some a ∧ Keep (fun _ => False) w (w.alloc a) := by
  constructor
  · have := blk_new w a
    simpa using this
  · exact (Keep.refl _ w).alloc _
theorem box2 (w : World) (a : Obj) (b : Obj) : ((w.alloc a).alloc b).heap[w.heap.size + 1]? = some b ∧ Keep (fun _ => False) w ((w.alloc a).alloc b) := by
  constructor
  · have := blk_new (w.alloc a) b
    simpa using this
  · exact ((Keep.refl _ w).alloc _).alloc _
theorem box3 (w : World) (a : Obj) (b : Obj) (c : Obj) : (((w.alloc a).alloc b).alloc c).heap[w.heap.size + 1 + 1]? = some c ∧ Keep (fun _ => False) w (((w.alloc a).alloc b).alloc c) := by
  constructor
  · have := blk_new ((w.alloc a).alloc b) c
    simpa using this
  · exact (((Keep.refl _ w).alloc _).alloc _).alloc _
theorem box4 (w : World) (a : Obj) (b : Obj) (c : Obj) (d : Obj) : ((((w.alloc a).alloc b).alloc c).alloc d).heap[w.heap.size + 1 + 1 + 1]? = some d ∧ Keep (fun _ => False) w ((((w.alloc a).alloc b).alloc c).alloc d) := by
  constructor
  · have := blk_new (((w.alloc a).alloc b).alloc c) d
    simpa using this
  · exact ((((Keep.refl _ w).alloc _).alloc _).alloc _).alloc _
set_option maxRecDepth 100000 in
set_option maxHeartbeats 4000000 in
theorem opAdd72 (x y : Int) (hx : Small x) (hy : Small y) (w : World) : Calls Tryz.prog 72 #[numV x, numV y] w fun e w' => e = .returned (numV (x + y)) ∧ Keep (fun _ => False) w w' := by
  have H := Lib.hid (fun w => addNum73 x y hx hy w)
  obtain ⟨l0, hl0⟩ : ∃ z, z = ((x + y) % 18446744073709551616).toNat := ⟨_, rfl⟩
  obtain ⟨h0, hh0⟩ : ∃ z, z = (x + y) / 18446744073709551616 := ⟨_, rfl⟩
  have e0 : numV (x + y) = .agg #[.int .u64 l0, .int .i64 h0] := by rw [hl0, hh0]; rfl
  obtain ⟨l1, hl1⟩ : ∃ z, z = ((x) % 18446744073709551616).toNat := ⟨_, rfl⟩
  obtain ⟨h1, hh1⟩ : ∃ z, z = (x) / 18446744073709551616 := ⟨_, rfl⟩
  have e1 : numV (x) = .agg #[.int .u64 l1, .int .i64 h1] := by rw [hl1, hh1]; rfl
  obtain ⟨l2, hl2⟩ : ∃ z, z = ((y) % 18446744073709551616).toNat := ⟨_, rfl⟩
  obtain ⟨h2, hh2⟩ : ∃ z, z = (y) / 18446744073709551616 := ⟨_, rfl⟩
  have e2 : numV (y) = .agg #[.int .u64 l2, .int .i64 h2] := by rw [hl2, hh2]; rfl
  rw [e0, e1, e2] at H ⊢
  clear e0 hl0 hh0 e1 hl1 hh1 e2 hl2 hh2
  obtain ⟨hb0, hk0⟩ := box3 w (.cells #[.int .u64 l1, .int .i64 h1] 42) (.cells #[.int .u64 l2, .int .i64 h2] 42) (.cells #[.int .u64 0, .int .i64 0] 42)
  go_enter Tryz.func72, Tryz.ntmps72
  go_wp2_with fail
  refine (H.out _).mono ?_
  rintro e w1 ⟨rfl, hk1⟩
  have hb1 := hk1.blk hb0 (fun h => h)
  have r0 := blk_cell hb1 0
  have r1 := blk_cell hb1 1
  have rf := blk_frozen hb1
  simp only [List.getElem?_toArray, List.getElem?_cons_zero, List.getElem?_cons_succ] at r0 r1
  go_wp2_with fail
  exact bodyPost_ret (v := .agg #[.int .u64 l0, .int .i64 h0]) (by simp [results, Tryz.results72, go_sem, r0, r1]) rfl ⟨rfl, ((hk0.trans hk1).setCell (.inr (by simp; try omega)) _).setCell (.inr (by simp; try omega)) _⟩
set_option maxRecDepth 100000 in
set_option maxHeartbeats 4000000 in
theorem opSub74 (x y : Int) (hx : Small x) (hy : Small y) (w : World) : Calls Tryz.prog 74 #[numV x, numV y] w fun e w' => e = .returned (numV (x - y)) ∧ Keep (fun _ => False) w w' := by
  have H := Lib.hid (fun w => subNum75 x y hx hy w)
  obtain ⟨l0, hl0⟩ : ∃ z, z = ((x - y) % 18446744073709551616).toNat := ⟨_, rfl⟩
  obtain ⟨h0, hh0⟩ : ∃ z, z = (x - y) / 18446744073709551616 := ⟨_, rfl⟩
  have e0 : numV (x - y) = .agg #[.int .u64 l0, .int .i64 h0] := by rw [hl0, hh0]; rfl
  obtain ⟨l1, hl1⟩ : ∃ z, z = ((x) % 18446744073709551616).toNat := ⟨_, rfl⟩
  obtain ⟨h1, hh1⟩ : ∃ z, z = (x) / 18446744073709551616 := ⟨_, rfl⟩
  have e1 : numV (x) = .agg #[.int .u64 l1, .int .i64 h1] := by rw [hl1, hh1]; rfl
  obtain ⟨l2, hl2⟩ : ∃ z, z = ((y) % 18446744073709551616).toNat := ⟨_, rfl⟩
  obtain ⟨h2, hh2⟩ : ∃ z, z = (y) / 18446744073709551616 := ⟨_, rfl⟩
  have e2 : numV (y) = .agg #[.int .u64 l2, .int .i64 h2] := by rw [hl2, hh2]; rfl
  rw [e0, e1, e2] at H ⊢
  clear e0 hl0 hh0 e1 hl1 hh1 e2 hl2 hh2
  obtain ⟨hb0, hk0⟩ := box3 w (.cells #[.int .u64 l1, .int .i64 h1] 42) (.cells #[.int .u64 l2, .int .i64 h2] 42) (.cells #[.int .u64 0, .int .i64 0] 42)
  go_enter Tryz.func74, Tryz.ntmps74
  go_wp2_with fail
  refine (H.out _).mono ?_
  rintro e w1 ⟨rfl, hk1⟩
  have hb1 := hk1.blk hb0 (fun h => h)
  have r0 := blk_cell hb1 0
  have r1 := blk_cell hb1 1
  have rf := blk_frozen hb1
  simp only [List.getElem?_toArray, List.getElem?_cons_zero, List.getElem?_cons_succ] at r0 r1
  go_wp2_with fail
  exact bodyPost_ret (v := .agg #[.int .u64 l0, .int .i64 h0]) (by simp [results, Tryz.results74, go_sem, r0, r1]) rfl ⟨rfl, ((hk0.trans hk1).setCell (.inr (by simp; try omega)) _).setCell (.inr (by simp; try omega)) _⟩
set_option maxRecDepth 100000 in
set_option maxHeartbeats 4000000 in
theorem opMul76 (x y : Int) (hz : Small (x * y)) (w : World) : Calls Tryz.prog 76 #[numV x, numV y] w fun e w' => e = .returned (numV (x * y)) ∧ Keep (fun _ => False) w w' := by
  have H := Lib.hid (fun w => mulNum77 x y hz w)
  obtain ⟨l0, hl0⟩ : ∃ z, z = ((x * y) % 18446744073709551616).toNat := ⟨_, rfl⟩
  obtain ⟨h0, hh0⟩ : ∃ z, z = (x * y) / 18446744073709551616 := ⟨_, rfl⟩
  have e0 : numV (x * y) = .agg #[.int .u64 l0, .int .i64 h0] := by rw [hl0, hh0]; rfl
  obtain ⟨l1, hl1⟩ : ∃ z, z = ((x) % 18446744073709551616).toNat := ⟨_, rfl⟩
  obtain ⟨h1, hh1⟩ : ∃ z, z = (x) / 18446744073709551616 := ⟨_, rfl⟩
  have e1 : numV (x) = .agg #[.int .u64 l1, .int .i64 h1] := by rw [hl1, hh1]; rfl
  obtain ⟨l2, hl2⟩ : ∃ z, z = ((y) % 18446744073709551616).toNat := ⟨_, rfl⟩
  obtain ⟨h2, hh2⟩ : ∃ z, z = (y) / 18446744073709551616 := ⟨_, rfl⟩
  have e2 : numV (y) = .agg #[.int .u64 l2, .int .i64 h2] := by rw [hl2, hh2]; rfl
  rw [e0, e1, e2] at H ⊢
  clear e0 hl0 hh0 e1 hl1 hh1 e2 hl2 hh2
  obtain ⟨hb0, hk0⟩ := box3 w (.cells #[.int .u64 l1, .int .i64 h1] 42) (.cells #[.int .u64 l2, .int .i64 h2] 42) (.cells #[.int .u64 0, .int .i64 0] 42)
  go_enter Tryz.func76, Tryz.ntmps76
  go_wp2_with fail
  refine (H.out _).mono ?_
  rintro e w1 ⟨rfl, hk1⟩
  have hb1 := hk1.blk hb0 (fun h => h)
  have r0 := blk_cell hb1 0
  have r1 := blk_cell hb1 1
  have rf := blk_frozen hb1
  simp only [List.getElem?_toArray, List.getElem?_cons_zero, List.getElem?_cons_succ] at r0 r1
  go_wp2_with fail
  exact bodyPost_ret (v := .agg #[.int .u64 l0, .int .i64 h0]) (by simp [results, Tryz.results76, go_sem, r0, r1]) rfl ⟨rfl, ((hk0.trans hk1).setCell (.inr (by simp; try omega)) _).setCell (.inr (by simp; try omega)) _⟩
set_option maxRecDepth 100000 in
set_option maxHeartbeats 4000000 in
theorem opNeg81 (x : Int) (hx : Small x) (w : World) : Calls Tryz.prog 81 #[numV x] w fun e w' => e = .returned (numV (-x)) ∧ Keep (fun _ => False) w w' := by
  have H := Lib.hid (fun w => negNum82 x hx w)
  obtain ⟨l0, hl0⟩ : ∃ z, z = ((-x) % 18446744073709551616).toNat := ⟨_, rfl⟩
  obtain ⟨h0, hh0⟩ : ∃ z, z = (-x) / 18446744073709551616 := ⟨_, rfl⟩
  have e0 : numV (-x) = .agg #[.int .u64 l0, .int .i64 h0] := by rw [hl0, hh0]; rfl
  obtain ⟨l1, hl1⟩ : ∃ z, z = ((x) % 18446744073709551616).toNat := ⟨_, rfl⟩
  obtain ⟨h1, hh1⟩ : ∃ z, z = (x) / 18446744073709551616 := ⟨_, rfl⟩
  have e1 : numV (x) = .agg #[.int .u64 l1, .int .i64 h1] := by rw [hl1, hh1]; rfl
  rw [e0, e1] at H ⊢
  clear e0 hl0 hh0 e1 hl1 hh1
  obtain ⟨hb0, hk0⟩ := box2 w (.cells #[.int .u64 l1, .int .i64 h1] 42) (.cells #[.int .u64 0, .int .i64 0] 42)
  go_enter Tryz.func81, Tryz.ntmps81
  go_wp2_with fail
  refine (H.out _).mono ?_
  rintro e w1 ⟨rfl, hk1⟩
  have hb1 := hk1.blk hb0 (fun h => h)
  have r0 := blk_cell hb1 0
  have r1 := blk_cell hb1 1
  have rf := blk_frozen hb1
  simp only [List.getElem?_toArray, List.getElem?_cons_zero, List.getElem?_cons_succ] at r0 r1
  go_wp2_with fail
  exact bodyPost_ret (v := .agg #[.int .u64 l0, .int .i64 h0]) (by simp [results, Tryz.results81, go_sem, r0, r1]) rfl ⟨rfl, ((hk0.trans hk1).setCell (.inr (by simp; try omega)) _).setCell (.inr (by simp; try omega)) _⟩
set_option maxRecDepth 100000 in
set_option maxHeartbeats 4000000 in
theorem opLess49 (x y : Int) (w : World) : Calls Tryz.prog 49 #[numV x, numV y] w fun e w' => e = .returned (.bool (decide (x < y))) ∧ Keep (fun _ => False) w w' := by
  have H := Lib.hid (fun w => lessNum50 x y w)
  obtain ⟨l0, hl0⟩ : ∃ z, z = ((x) % 18446744073709551616).toNat := ⟨_, rfl⟩
  obtain ⟨h0, hh0⟩ : ∃ z, z = (x) / 18446744073709551616 := ⟨_, rfl⟩
  have e0 : numV (x) = .agg #[.int .u64 l0, .int .i64 h0] := by rw [hl0, hh0]; rfl
  obtain ⟨l1, hl1⟩ : ∃ z, z = ((y) % 18446744073709551616).toNat := ⟨_, rfl⟩
  obtain ⟨h1, hh1⟩ : ∃ z, z = (y) / 18446744073709551616 := ⟨_, rfl⟩
  have e1 : numV (y) = .agg #[.int .u64 l1, .int .i64 h1] := by rw [hl1, hh1]; rfl
  rw [e0, e1] at H ⊢
  clear e0 hl0 hh0 e1 hl1 hh1
  generalize decide (x < y) = c at *
  obtain ⟨hb0, hk0⟩ := box2 w (.cells #[.int .u64 l0, .int .i64 h0] 42) (.cells #[.int .u64 l1, .int .i64 h1] 42)
  go_enter Tryz.func49, Tryz.ntmps49
  go_wp2_with fail
  refine (H.out _).mono ?_
  rintro e w1 ⟨rfl, hk1⟩
  go_wp2_with fail
  go_ret
  exact ⟨rfl, hk0.trans hk1⟩
set_option maxRecDepth 100000 in
set_option maxHeartbeats 4000000 in
theorem opFrom56 (n : Int) (h1 : -9223372036854775808 ≤ n) (h2 : n < 9223372036854775808) (w : World) : Calls Tryz.prog 56 #[.int .i64 n] w fun e w' => e = .returned (numV n) ∧ Keep (fun _ => False) w w' := by
  have H := Lib.hid (fun w => fromI57 n h1 h2 w)
  obtain ⟨l0, hl0⟩ : ∃ z, z = ((n) % 18446744073709551616).toNat := ⟨_, rfl⟩
  obtain ⟨h0, hh0⟩ : ∃ z, z = (n) / 18446744073709551616 := ⟨_, rfl⟩
  have e0 : numV (n) = .agg #[.int .u64 l0, .int .i64 h0] := by rw [hl0, hh0]; rfl
  rw [e0] at H ⊢
  clear e0 hl0 hh0
  obtain ⟨hb0, hk0⟩ := box1 w  (.cells #[.int .u64 0, .int .i64 0] 42)
  go_enter Tryz.func56, Tryz.ntmps56
  go_wp2_with fail
  refine (H.out _).mono ?_
  rintro e w1 ⟨rfl, hk1⟩
  have hb1 := hk1.blk hb0 (fun h => h)
  have r0 := blk_cell hb1 0
  have r1 := blk_cell hb1 1
  have rf := blk_frozen hb1
  simp only [List.getElem?_toArray, List.getElem?_cons_zero, List.getElem?_cons_succ] at r0 r1
  go_wp2_with fail
  exact bodyPost_ret (v := .agg #[.int .u64 l0, .int .i64 h0]) (by simp [results, Tryz.results56, go_sem, r0, r1]) rfl ⟨rfl, ((hk0.trans hk1).setCell (.inr (by simp; try omega)) _).setCell (.inr (by simp; try omega)) _⟩
set_option maxRecDepth 100000 in
set_option maxHeartbeats 4000000 in
theorem opSign83 (x : Int) (hx : Small x) (w : World) : Calls Tryz.prog 83 #[numV x] w fun e w' => ∃ s : Int, e = .returned (.int .i64 s) ∧ (s < 0 ↔ x < 0) ∧ (s = 0 ↔ x = 0) ∧ (0 < s ↔ 0 < x) ∧ Keep (fun _ => False) w w' := by
  have H := Lib.hid (fun w => signNum84 x hx w)
  obtain ⟨l, hl⟩ : ∃ z, z = (x % 18446744073709551616).toNat := ⟨_, rfl⟩
  obtain ⟨h, hh⟩ : ∃ z, z = x / 18446744073709551616 := ⟨_, rfl⟩
  have e1 : numV x = .agg #[.int .u64 l, .int .i64 h] := by rw [hl, hh]; rfl
  obtain ⟨hb0, hk0⟩ := box1 w (.cells #[.int .u64 l, .int .i64 h] 42)
  rw [e1] at H ⊢
  clear hl hh e1
  go_enter Tryz.func83, Tryz.ntmps83
  go_wp2_with fail
  refine (H.out _).mono ?_
  rintro e w1 ⟨s, rfl, h1, h2, h3, hk1⟩
  have HH := Lib.hid (And.intro h1 (And.intro h2 h3))
  clear h1 h2 h3
  go_wp2_with fail
  go_ret
  exact ⟨s, rfl, HH.out.1, HH.out.2.1, HH.out.2.2, hk0.trans hk1⟩
set_option maxRecDepth 100000 in
set_option maxHeartbeats 4000000 in
theorem lowBits15 (x : Int) (w : World) : Calls Tryz.prog 15 #[numV x] w fun e w' => e = .returned (.int .u64 ((x % 18446744073709551616).toNat : Nat)) ∧ Keep (fun _ => False) w w' := by
  obtain ⟨l, hl⟩ : ∃ z, z = (x % 18446744073709551616).toNat := ⟨_, rfl⟩
  obtain ⟨h, hh⟩ : ∃ z, z = x / 18446744073709551616 := ⟨_, rfl⟩
  have e1 : numV x = .agg #[.int .u64 l, .int .i64 h] := by rw [hl, hh]; rfl
  obtain ⟨hb0, hk0⟩ := box1 w (.cells #[.int .u64 l, .int .i64 h] 42)
  rw [e1, ← hl]
  clear hl hh e1 hb0
  go_enter Tryz.func15, Tryz.ntmps15
  go_wp2_with fail
  go_ret
  exact ⟨rfl, hk0⟩
set_option maxRecDepth 100000 in
set_option maxHeartbeats 4000000 in
theorem highBits16 (x : Int) (w : World) : Calls Tryz.prog 16 #[numV x] w fun e w' => e = .returned (.int .i64 (x / 18446744073709551616)) ∧ Keep (fun _ => False) w w' := by
  obtain ⟨l, hl⟩ : ∃ z, z = (x % 18446744073709551616).toNat := ⟨_, rfl⟩
  obtain ⟨h, hh⟩ : ∃ z, z = x / 18446744073709551616 := ⟨_, rfl⟩
  have e1 : numV x = .agg #[.int .u64 l, .int .i64 h] := by rw [hl, hh]; rfl
  obtain ⟨hb0, hk0⟩ := box1 w (.cells #[.int .u64 l, .int .i64 h] 42)
  rw [e1, ← hh]
  clear hl hh e1 hb0
  go_enter Tryz.func16, Tryz.ntmps16
  go_wp2_with fail
  go_ret
  exact ⟨rfl, hk0⟩
set_option maxRecDepth 100000 in
set_option maxHeartbeats 4000000 in
theorem opLow55 (x : Int) (w : World) : Calls Tryz.prog 55 #[numV x] w fun e w' => e = .returned (.int .u64 ((x % 18446744073709551616).toNat : Nat)) ∧ Keep (fun _ => False) w w' := by
  have H := Lib.hid (fun w => lowBits15 x w)
  obtain ⟨l, hl⟩ : ∃ z, z = (x % 18446744073709551616).toNat := ⟨_, rfl⟩
  obtain ⟨h, hh⟩ : ∃ z, z = x / 18446744073709551616 := ⟨_, rfl⟩
  have e1 : numV x = .agg #[.int .u64 l, .int .i64 h] := by rw [hl, hh]; rfl
  obtain ⟨hb0, hk0⟩ := box1 w (.cells #[.int .u64 l, .int .i64 h] 42)
  rw [e1, ← hl] at H
  rw [e1, ← hl]
  clear hl hh e1 hb0
  go_enter Tryz.func55, Tryz.ntmps55
  go_wp2_with fail
  refine (H.out _).mono ?_
  rintro e w1 ⟨rfl, hk1⟩
  go_wp2_with fail
  go_ret
  exact ⟨rfl, hk0.trans hk1⟩
end Go.Proofs.YtamkglgiaiejkaaGreatDoor
