import Derived.Test.YtamkglgiaiejkaaGreatDoorYx42
import Derived.Test.YtamkglgiaiejkaaGreatDoorYx43
import Derived.Test.YtamkglgiaiejkaaGreatDoorYx44
/-! The law on decimals that are rounded to a multiple. -/
namespace Go.Proofs.YtamkglgiaiejkaaGreatDoor
open Go.RowKit

theorem due_awake : dueOf 7 5 0 = 5 := by decide
theorem words_new (w : World) (a b : Nat) (o : Obj) : Words2 ((w.alloc (.cells #[.int .u64 a, .int .u64 b] 25)).alloc o) (.slice (some ⟨w.heap.size, 0, none⟩) 2 2) a b := by
  have h := blk_alloc (blk_new w (.cells #[.int .u64 a, .int .u64 b] 25)) o
  exact ⟨_, 0, 2, rfl, by rw [blk_cell h]; rfl, by rw [blk_cell h]; rfl⟩
theorem words_last (w : World) (a b : Nat) : Words2 (w.alloc (.cells #[.int .u64 a, .int .u64 b] 25)) (.slice (some ⟨w.heap.size, 0, none⟩) 2 2) a b := by
  have h := blk_new w (.cells #[.int .u64 a, .int .u64 b] 25)
  exact ⟨_, 0, 2, rfl, by rw [blk_cell h]; rfl, by rw [blk_cell h]; rfl⟩
/-- The program is awake. -/
theorem awake4 (w : World) (hG : w.cell? ⟨2, 0, none⟩ = some (.int .i64 40)) (hS : Scales w) :
    Calls Tryz.prog 4 #[.slice (some ⟨w.heap.size, 0, none⟩) 2 2, .slice (some ⟨w.heap.size + 1, 0, none⟩) 2 2, .int .i64 5, .int .i64 2, .int .i64 0] ((w.alloc (.cells #[.int .u64 7, .int .u64 0] 25)).alloc (.cells #[.int .u64 5, .int .u64 0] 25)) fun e w' =>
      Keep (fun _ => False) w w' ∧ ∃ out, e = .returned (.tuple #[out, .bool true]) ∧ Words2 w' out 5 0 := by
  have hk : Keep (fun _ => False) w ((w.alloc (.cells #[.int .u64 7, .int .u64 0] 25)).alloc (.cells #[.int .u64 5, .int .u64 0] 25)) := ((Keep.refl _ w).alloc _).alloc _
  have h2 : Words2 ((w.alloc (.cells #[.int .u64 7, .int .u64 0] 25)).alloc (.cells #[.int .u64 5, .int .u64 0] 25)) (.slice (some ⟨w.heap.size + 1, 0, none⟩) 2 2) 5 0 := by
    have := words_last (w.alloc (.cells #[.int .u64 7, .int .u64 0] 25)) 5 0
    simpa using this
  refine (round4 7 0 5 0 (by decide) (by decide) (by decide) (by decide) 7 5 0 rfl rfl (by decide) (by decide) (by decide) (by decide) (by decide) 5 (by decide) (by decide) (by decide) 2 _ _ _ (words_new w 7 0 _) h2 (hk.cell hG (fun h => h)) (hS.keep hk (fun h => h))).mono ?_
  rintro e w' ⟨hk', h | h⟩
  · obtain ⟨_, out, h3, h4⟩ := h
    rw [due_awake] at h4
    exact ⟨hk.trans hk', out, h3, h4⟩
  · exact absurd (by rw [due_awake]; decide) h.1
theorem small_of {n : Nat} (h : ¬ (36 : Int) < (declen n : Int)) : n < 1000000000000000000000000000000000000 := by
  have := (declen_lt (n := n) (p := 36) (by decide)).1 (by omega)
  exact this
set_option maxRecDepth 100000 in
set_option maxHeartbeats 8000000 in
theorem law3_any (l l2 : List Nat) (u v : Value) (P S M : Int) (w : World) (hu : WordsV w u l) (hv : WordsV w v l2) (hG : w.cell? ⟨2, 0, none⟩ = some (.int .i64 40)) (hS : Scales w) :
    Calls Tryz.prog 3 #[u, v, .int .i64 P, .int .i64 S, .int .i64 M] w fun e w' => e = .returned (.bool true) ∧ Keep (fun _ => False) w w' := by
  have hu0 := hu
  have hv0 := hv
  obtain ⟨A, c, rfl, _, _⟩ := hu
  obtain ⟨B, d, rfl, _, _⟩ := hv
  by_cases h1 : (2147483647 : Int) < (l.length : Int)
  · clear hu0 hv0 hG hS
    go_enter Tryz.func3, Tryz.ntmps3
    go_wp2_with fail
    go_ret
    exact ⟨rfl, Keep.refl _ _⟩
  by_cases h2 : (2147483647 : Int) < (l2.length : Int)
  · clear hu0 hv0 hG hS
    go_enter Tryz.func3, Tryz.ntmps3
    go_wp2_with fail
    go_ret
    exact ⟨rfl, Keep.refl _ _⟩
  have HA := Lib.hid (awake4 w hG hS)
  have HU := Lib.hid (And.intro hu0 (And.intro hv0 (And.intro hG hS)))
  clear hu0 hv0 hG hS
  generalize hn : l.length = n at *
  generalize hn' : l2.length = n' at *
  have HN := Lib.hid (And.intro hn hn')
  clear hn hn'
  go_enter Tryz.func3, Tryz.ntmps3
  go_wp2_with fail
  refine HA.out.mono ?_
  rintro e w1 ⟨hk1, out, rfl, hout⟩
  have hk1a := hk1.alloc (.cells #[.int .u64 5, .int .u64 0] 25)
  have HSW := Lib.hid (sameWords5 out _ 5 0 (w1.alloc (.cells #[.int .u64 5, .int .u64 0] 25)) (hout.keep ((Keep.refl _ w1).alloc _)) (words_last w1 5 0))
  obtain ⟨go, oo, co, rfl, _, _⟩ := hout
  clear HA
  go_wp2_with fail
  refine HSW.out.mono ?_
  rintro e w2 ⟨rfl, hk2⟩
  have hkw2 := hk1a.trans hk2
  have HF1 := Lib.hid (fitsIn6 _ l P S w2 (HU.out.1.keep hkw2))
  rw [HN.out.1] at HF1
  clear HSW hk1 hk1a hk2
  go_wp2_with fail
  refine HF1.out.mono ?_
  rintro e w3 ⟨b1, ok1, A1, n1, c1, rfl, hk3, hP1⟩
  have hkw3 := hkw2.trans hk3
  have hk3a : Keep (fun _ => False) w3 (w3.alloc (.cells #[.bool b1, .slice A1 n1 c1] 29)) := (Keep.refl _ w3).alloc _
  have hX := blk_new w3 (.cells #[.bool b1, .slice A1 n1 c1] 29)
  have HP1 := Lib.hid hP1
  have HF2 := Lib.hid (fitsIn6 _ l2 P S _ ((HU.out.2.1.keep hkw3).keep hk3a))
  rw [HN.out.2] at HF2
  clear hP1 HF1
  go_wp2_with fail
  refine HF2.out.mono ?_
  rintro e w4 ⟨b2, ok2, A2, n2, c2, rfl, hk4, hP2⟩
  have hkw4 := (hkw3.trans hk3a).trans hk4
  have hk4a : Keep (fun _ => False) w4 (w4.alloc (.cells #[.bool b2, .slice A2 n2 c2] 29)) := (Keep.refl _ w4).alloc _
  have hM := blk_new w4 (.cells #[.bool b2, .slice A2 n2 c2] 29)
  have hX4 := hk4a.blk (hk4.blk hX (fun h => h)) (fun h => h)
  have HP2 := Lib.hid hP2
  have hkE := hkw4.trans hk4a
  have x0 := blk_cell hX4 0
  have x1 := blk_cell hX4 1
  have m0 := blk_cell hM 0
  have m1 := blk_cell hM 1
  simp only [List.getElem?_toArray, List.getElem?_cons_zero, List.getElem?_cons_succ] at x0 x1 m0 m1
  have HK34 := Lib.hid ((hk3a.trans hk4).trans hk4a)
  have HK44 := Lib.hid hk4a
  clear hP2 HF2 hk3 hkw3 hk3a hX hk4 hkw4 hk4a
  cases ok1
  · go_wp2_with fail
    go_ret
    exact ⟨rfl, hkE⟩
  cases ok2
  · go_wp2_with fail
    go_ret
    exact ⟨rfl, hkE⟩
  obtain ⟨hl1, hp1, hp38, hw1, hd1⟩ := HP1.out rfl
  obtain ⟨hl2, _, _, hw2, hd2⟩ := HP2.out rfl
  have HWX := hw1.keep HK34.out (fun _ _ h => h)
  have HWM := hw2.keep HK44.out (fun _ _ h => h)
  obtain ⟨hq1, hlo, hhi⟩ := HU.out.1.two (HN.out.1.trans hl1)
  obtain ⟨hq2, hlo2, hhi2⟩ := HU.out.2.1.two (HN.out.2.trans hl2)
  obtain ⟨x, hx⟩ : ∃ x, x = toI (l.getD 0 0) (l.getD 1 0) := ⟨_, rfl⟩
  obtain ⟨m, hm⟩ : ∃ m, m = toI (l2.getD 0 0) (l2.getD 1 0) := ⟨_, rfl⟩
  rw [← hx] at HWX hd1
  rw [← hm] at HWM hd2
  have hx4 : (digs x.natAbs).length ≤ 4 := digs_length_le (by rw [hx]; unfold toI; split <;> omega)
  have hm4 : (digs m.natAbs).length ≤ 4 := digs_length_le (by rw [hm]; unfold toI; split <;> omega)
  obtain ⟨p, hp⟩ : ∃ p : Nat, (p : Int) = P := ⟨P.toNat, by omega⟩
  subst hp
  have HXP := Lib.hid ((declen_lt (n := x.natAbs) (p := p) (by omega)).1 (by omega))
  have HQ := Lib.hid (And.intro (And.intro hq1 (And.intro hlo hhi)) (And.intro (And.intro hq2 (And.intro hlo2 hhi2)) (And.intro hx (And.intro hm (And.intro hp1 (And.intro hp38 hd1))))))
  have HLN := Lib.hid (And.intro hl1 hl2)
  clear HP1 HP2 hl1 hp1 hp38 hw1 hd1 hl2 hw2 hd2 hq1 hlo hhi hq2 hlo2 hhi2 hx hm HK34 HK44
  have HSg := Lib.hid (sign7S _ m _ HWM)
  by_cases hm0 : m ≤ 0
  · have hs : sgI m ≤ 0 := by unfold sgI; split <;> (try split) <;> omega
    generalize sgI m = sg at *
    clear HWX HWM
    go_wp2_with fail
    refine HSg.out.mono ?_
    rintro e w5 ⟨rfl, hk5⟩
    go_wp2_with fail
    go_ret
    exact ⟨rfl, hkE.trans hk5⟩
  have hs : ¬ sgI m ≤ 0 := by unfold sgI; split <;> (try split) <;> omega
  by_cases hM0 : M < 0
  · generalize sgI m = sg at *
    clear HWX HWM
    go_wp2_with fail
    refine HSg.out.mono ?_
    rintro e w5 ⟨rfl, hk5⟩
    go_wp2_with fail
    go_ret
    exact ⟨rfl, hkE.trans hk5⟩
  by_cases hM9 : (9 : Int) < M
  · generalize sgI m = sg at *
    clear HWX HWM
    go_wp2_with fail
    refine HSg.out.mono ?_
    rintro e w5 ⟨rfl, hk5⟩
    go_wp2_with fail
    go_ret
    exact ⟨rfl, hkE.trans hk5⟩
  have HDX := Lib.hid (fun w' hk => digits8 _ x w' (HWX.keep hk (fun _ _ h => h)) (by omega))
  have HDM := Lib.hid (fun w' hk => digits8 _ m w' (HWM.keep hk (fun _ _ h => h)) (by omega))
  have HW := Lib.hid (And.intro HWX HWM)
  have HLE := Lib.hid (And.intro hx4 hm4)
  have HMM := Lib.hid (And.intro (show 0 < m by omega) (And.intro (show 0 ≤ M by omega) (show M ≤ 9 by omega)))
  clear HWX HWM hx4 hm4 hm0
  by_cases hdx : (36 : Int) < (declen x.natAbs : Int)
  · generalize declen x.natAbs = dx at *
    generalize sgI m = sg at *
    go_wp2_with fail
    refine HSg.out.mono ?_
    rintro e w5 ⟨rfl, hk5⟩
    have x0 := hk5.cell x0 (fun h => h)
    have x1 := hk5.cell x1 (fun h => h)
    have HDX := Lib.hid (HDX.out w5 hk5)
    go_wp2_with fail
    refine HDX.out.mono ?_
    rintro e w6 ⟨rfl, hk6⟩
    go_wp2_with fail
    go_ret
    exact ⟨rfl, (hkE.trans hk5).trans hk6⟩
  have HX36 := Lib.hid (small_of hdx)
  by_cases hdm : (36 : Int) < (declen m.natAbs : Int)
  · generalize declen x.natAbs = dx at *
    generalize declen m.natAbs = dm at *
    generalize sgI m = sg at *
    go_wp2_with fail
    refine HSg.out.mono ?_
    rintro e w5 ⟨rfl, hk5⟩
    have x0 := hk5.cell x0 (fun h => h)
    have x1 := hk5.cell x1 (fun h => h)
    have m0 := hk5.cell m0 (fun h => h)
    have m1 := hk5.cell m1 (fun h => h)
    have HDX := Lib.hid (HDX.out w5 hk5)
    go_wp2_with fail
    refine HDX.out.mono ?_
    rintro e w6 ⟨rfl, hk6⟩
    have m0 := hk6.cell m0 (fun h => h)
    have m1 := hk6.cell m1 (fun h => h)
    have HDM := Lib.hid (HDM.out w6 (hk5.trans hk6))
    go_wp2_with fail
    refine HDM.out.mono ?_
    rintro e w7 ⟨rfl, hk7⟩
    go_wp2_with fail
    go_ret
    exact ⟨rfl, ((hkE.trans hk5).trans hk6).trans hk7⟩
  have HM36 := Lib.hid (small_of hdm)
  generalize declen x.natAbs = dx at *
  generalize declen m.natAbs = dm at *
  generalize sgI m = sg at *
  go_wp2_with fail
  refine HSg.out.mono ?_
  rintro e w5 ⟨rfl, hk5⟩
  have x0 := hk5.cell x0 (fun h => h)
  have x1 := hk5.cell x1 (fun h => h)
  have m0 := hk5.cell m0 (fun h => h)
  have m1 := hk5.cell m1 (fun h => h)
  have HDX := Lib.hid (HDX.out w5 hk5)
  go_wp2_with fail
  refine HDX.out.mono ?_
  rintro e w6 ⟨rfl, hk6⟩
  have m0 := hk6.cell m0 (fun h => h)
  have m1 := hk6.cell m1 (fun h => h)
  have HDM := Lib.hid (HDM.out w6 (hk5.trans hk6))
  go_wp2_with fail
  refine HDM.out.mono ?_
  rintro e w7 ⟨rfl, hk7⟩
  have hk7E := (hk5.trans hk6).trans hk7
  have hkw7 := hkE.trans hk7E
  have H4 := round4 (l.getD 0 0) (l.getD 1 0) (l2.getD 0 0) (l2.getD 1 0) HQ.out.1.2.1 HQ.out.1.2.2 HQ.out.2.1.2.1 HQ.out.2.1.2.2 x m M HQ.out.2.2.1 HQ.out.2.2.2.1 HMM.out.1 HX36.out (by have := HM36.out; have := HMM.out.1; omega) HMM.out.2.1 HMM.out.2.2 p (by have := HQ.out.2.2.2.2.1; omega) (by have := HQ.out.2.2.2.2.2.1; omega) HXP.out S _ _ w7 (HQ.out.1.1.keep hkw7) (HQ.out.2.1.1.keep hkw7) (hkw7.cell HU.out.2.2.1 (fun h => h)) (HU.out.2.2.2.keep hkw7 (fun h => h))
  have hdb := due_bound (x := x) (m := m) (mode := M) HMM.out.1 HMM.out.2.1 HMM.out.2.2
  have hq9 : (roundQ (x.tdiv m) (x.tmod m) m M (decide (x < 0))).natAbs ≤ (dueOf x m M).natAbs := by
    unfold dueOf
    rw [Int.natAbs_mul]
    exact Nat.le_mul_of_pos_right _ (by have := HMM.out.1; omega)
  have hd9 : (dueOf x m M).natAbs < 4294967296 ^ 4 := by have := HX36.out; have := HM36.out; have := HMM.out.1; omega
  have hdI : -170141183460469231731687303715884105728 ≤ dueOf x m M ∧ dueOf x m M < 170141183460469231731687303715884105728 := by have := HX36.out; have := HM36.out; have := HMM.out.1; omega
  have hq4 : (digs (roundQ (x.tdiv m) (x.tmod m) m M (decide (x < 0))).natAbs).length ≤ 1000 := Nat.le_trans (digs_length_le (Nat.lt_of_le_of_lt hq9 hd9)) (by decide)
  have hWX := HW.out.1.keep hk7E (fun _ _ h => h)
  have hWM := HW.out.2.keep hk7E (fun _ _ h => h)
  have HRW := Lib.hid (fun w' hk => roundWide11 _ _ x m M w' (hWX.keep hk (fun _ _ h => h)) (hWM.keep hk (fun _ _ h => h)) HMM.out.1 ⟨HMM.out.2.1, HMM.out.2.2⟩ (by have := HLE.out.1; omega) (by have := HLE.out.2; omega))
  have HML := Lib.hid (fun w' hk r h => wideMul10 r _ (roundQ (x.tdiv m) (x.tmod m) m M (decide (x < 0))) m w' h (hWM.keep hk (fun _ _ h => h)) hq4 (by have := HLE.out.2; omega))
  rw [show roundQ (x.tdiv m) (x.tmod m) m M (decide (x < 0)) * m = dueOf x m M from rfl] at HML
  generalize roundQ (x.tdiv m) (x.tmod m) m M (decide (x < 0)) = rq at *
  generalize dueOf x m M = du at *
  have HFI := Lib.hid (declen_lt (n := du.natAbs) (p := p) (by have := HQ.out.2.2.2.2.1; omega))
  have HDI := Lib.hid hdI
  have HH4 := Lib.hid H4
  have x0 := hk7.cell (hk6.cell x0 (fun h => h)) (fun h => h)
  have x1 := hk7.cell (hk6.cell x1 (fun h => h)) (fun h => h)
  have m0 := hk7.cell m0 (fun h => h)
  have m1 := hk7.cell m1 (fun h => h)
  clear H4 hdb hq9 hd9 hdI hq4 hWX hWM HDX HDM HSg hk5 hk6 hk7 hX4 hM
  have HKW := Lib.hid hkw7
  clear hkw7 hkE hk7E
  go_wp2_with fail
  refine HH4.out.mono ?_
  rintro e w8 ⟨hk8, hcase⟩
  have x0 := hk8.cell x0 (fun h => h)
  have x1 := hk8.cell x1 (fun h => h)
  have m0 := hk8.cell m0 (fun h => h)
  have m1 := hk8.cell m1 (fun h => h)
  have HK8 := Lib.hid hk8
  clear HH4 hk8
  rcases hcase with ⟨hfit, out2, rfl, hout2⟩ | ⟨hfit, rfl⟩
  · have HO := Lib.hid hout2
    have HNF := Lib.hid (show ¬ (p : Int) < declen du.natAbs by have := HFI.out.2 hfit; omega)
    obtain ⟨g2, o2, cc, rfl, _, _⟩ := hout2
    clear hfit
    go_wp2_with fail
    have hkd : Keep (fun _ => False) w8 w8.drew := (Keep.refl _ w8).drew
    refine wp_region_takesC (fun w' => Keep (fun _ => False) w8 w') (by kernel_rfl) ?_
    generalize w8.drew = wd at *
    go_simp
    refine wpC_take 0 (v := .agg #[.bool b1, .slice A1 n1 c1]) (by kernel_rfl) rfl rfl (fun _ _ _ h => h) (fun w' hC => by have d0 := hC.cell x0 (fun h => h); have d1 := hC.cell x1 (fun h => h); go_simp) ?_
    go_simp
    refine wpC_take 1 (v := .agg #[.bool b2, .slice A2 n2 c2]) (by kernel_rfl) rfl rfl (fun _ _ _ h => h) (fun w' hC => by have d0 := hC.cell m0 (fun h => h); have d1 := hC.cell m1 (fun h => h); go_simp) ?_
    go_simp
    refine wpC_take 2 (v := .int .i64 M) (by kernel_rfl) rfl rfl (fun _ _ _ h => h) (fun w' hC => by go_simp) ?_
    go_simp
    refine wpC_take 4 (v := .agg #[.bool b2, .slice A2 n2 c2]) (by kernel_rfl) rfl rfl (fun _ _ _ h => h) (fun w' hC => by have d0 := hC.cell m0 (fun h => h); have d1 := hC.cell m1 (fun h => h); go_simp) ?_
    go_simp
    refine wpC_take 6 (v := .int .i64 p) (by kernel_rfl) rfl rfl (fun _ _ _ h => h) (fun w' hC => by go_simp) ?_
    go_simp
    refine wpC_take 7 (v := .slice (some ⟨g2, o2, none⟩) 2 cc) (by kernel_rfl) rfl rfl (fun _ _ _ h => h) (fun w' hC => by go_simp) ?_
    go_simp
    refine wpC_take 8 (v := .bool true) (by kernel_rfl) rfl rfl (fun _ _ _ h => h) (fun w' hC => by go_simp) ?_
    go_simp
    refine wpC_only 3 (by kernel_rfl) hkd rfl ?_
    go_wp2_with fail
    refine (HRW.out wd (HK8.out.trans hkd)).mono ?_
    rintro e w9 ⟨r, rfl, hr, hk9⟩
    have hr0 := Lib.hid hr
    have hkA := hkd.trans hk9
    obtain ⟨mr, rfl, hmr⟩ := hr
    obtain ⟨Ar, cr, rfl, _, _⟩ := hmr
    generalize (digs rq.natAbs).length = lr at *
    generalize decide (rq < 0) = br at *
    go_wp2_with fail
    refine wpC_only 5 (by kernel_rfl) hkA rfl ?_
    go_wp2_with fail
    refine (HML.out w9 (HK8.out.trans hkA) _ hr0.out).mono ?_
    rintro e w10 ⟨r2, rfl, hr2, hk10⟩
    have HR2 := Lib.hid hr2
    have hkB := hkA.trans hk10
    obtain ⟨mr2, rfl, hmr2⟩ := hr2
    obtain ⟨Ar2, cr2, rfl, _, _⟩ := hmr2
    have HC := Lib.hid (roundsTo9_done _ du p _ w10 HR2.out HDI.out (by have := HNF.out; omega) (HO.out.keep hkB))
    generalize (digs du.natAbs).length = lr2 at *
    generalize decide (du < 0) = br2 at *
    go_wp2_with fail
    refine wpC_only 9 (by kernel_rfl) hkB rfl ?_
    go_wp2_with fail
    refine HC.out.mono ?_
    rintro e w11 ⟨rfl, hk11⟩
    have hkC := hkB.trans hk11
    go_wp2_with fail
    refine wpC_take 10 (v := .bool true) (by kernel_rfl) rfl rfl (fun _ _ _ h => h) (fun w' hC => by go_simp) ?_
    go_simp
    refine wpC_takeG 11 (v := .bool true) (by kernel_rfl) rfl rfl (fun _ _ _ h => h) (fun w' hC => by go_simp) ?_
    go_simp
    refine wpC_take 12 (v := .bool true) (by kernel_rfl) rfl rfl (fun _ _ _ h => h) (fun w' hC => by go_simp) ?_
    go_simp
    refine wpC_only 13 (by kernel_rfl) hkC rfl ?_
    go_wp2_with fail
    refine wpC_stop (by kernel_rfl) hkC ?_
    go_wp2_with fail
    go_ret
    exact ⟨rfl, (HKW.out.trans HK8.out).trans hkC⟩
  · have HNF := Lib.hid (show (p : Int) < declen du.natAbs by
      have := HFI.out
      rcases Nat.lt_or_ge p (declen du.natAbs) with h | h
      · omega
      · exact absurd (this.1 h) hfit)
    clear hfit
    go_wp2_with fail
    have hkd : Keep (fun _ => False) w8 w8.drew := (Keep.refl _ w8).drew
    refine wp_region_takesC (fun w' => Keep (fun _ => False) w8 w') (by kernel_rfl) ?_
    generalize w8.drew = wd at *
    go_simp
    refine wpC_take 0 (v := .agg #[.bool b1, .slice A1 n1 c1]) (by kernel_rfl) rfl rfl (fun _ _ _ h => h) (fun w' hC => by have d0 := hC.cell x0 (fun h => h); have d1 := hC.cell x1 (fun h => h); go_simp) ?_
    go_simp
    refine wpC_take 1 (v := .agg #[.bool b2, .slice A2 n2 c2]) (by kernel_rfl) rfl rfl (fun _ _ _ h => h) (fun w' hC => by have d0 := hC.cell m0 (fun h => h); have d1 := hC.cell m1 (fun h => h); go_simp) ?_
    go_simp
    refine wpC_take 2 (v := .int .i64 M) (by kernel_rfl) rfl rfl (fun _ _ _ h => h) (fun w' hC => by go_simp) ?_
    go_simp
    refine wpC_take 4 (v := .agg #[.bool b2, .slice A2 n2 c2]) (by kernel_rfl) rfl rfl (fun _ _ _ h => h) (fun w' hC => by have d0 := hC.cell m0 (fun h => h); have d1 := hC.cell m1 (fun h => h); go_simp) ?_
    go_simp
    refine wpC_take 6 (v := .int .i64 p) (by kernel_rfl) rfl rfl (fun _ _ _ h => h) (fun w' hC => by go_simp) ?_
    go_simp
    refine wpC_take 7 (v := .slice none 0 0) (by kernel_rfl) rfl rfl (fun _ _ _ h => h) (fun w' hC => by go_simp) ?_
    go_simp
    refine wpC_take 8 (v := .bool false) (by kernel_rfl) rfl rfl (fun _ _ _ h => h) (fun w' hC => by go_simp) ?_
    go_simp
    refine wpC_only 3 (by kernel_rfl) hkd rfl ?_
    go_wp2_with fail
    refine (HRW.out wd (HK8.out.trans hkd)).mono ?_
    rintro e w9 ⟨r, rfl, hr, hk9⟩
    have hr0 := Lib.hid hr
    have hkA := hkd.trans hk9
    obtain ⟨mr, rfl, hmr⟩ := hr
    obtain ⟨Ar, cr, rfl, _, _⟩ := hmr
    generalize (digs rq.natAbs).length = lr at *
    generalize decide (rq < 0) = br at *
    go_wp2_with fail
    refine wpC_only 5 (by kernel_rfl) hkA rfl ?_
    go_wp2_with fail
    refine (HML.out w9 (HK8.out.trans hkA) _ hr0.out).mono ?_
    rintro e w10 ⟨r2, rfl, hr2, hk10⟩
    have HR2 := Lib.hid hr2
    have hkB := hkA.trans hk10
    obtain ⟨mr2, rfl, hmr2⟩ := hr2
    obtain ⟨Ar2, cr2, rfl, _, _⟩ := hmr2
    have HC := Lib.hid (roundsTo9_refused _ du p (.slice none 0 0) w10 HR2.out HDI.out HNF.out)
    generalize (digs du.natAbs).length = lr2 at *
    generalize decide (du < 0) = br2 at *
    go_wp2_with fail
    refine wpC_only 9 (by kernel_rfl) hkB rfl ?_
    go_wp2_with fail
    refine HC.out.mono ?_
    rintro e w11 ⟨rfl, hk11⟩
    have hkC := hkB.trans hk11
    go_wp2_with fail
    refine wpC_take 10 (v := .bool true) (by kernel_rfl) rfl rfl (fun _ _ _ h => h) (fun w' hC => by go_simp) ?_
    go_simp
    refine wpC_takeG 11 (v := .bool true) (by kernel_rfl) rfl rfl (fun _ _ _ h => h) (fun w' hC => by go_simp) ?_
    go_simp
    refine wpC_take 12 (v := .bool true) (by kernel_rfl) rfl rfl (fun _ _ _ h => h) (fun w' hC => by go_simp) ?_
    go_simp
    refine wpC_only 13 (by kernel_rfl) hkC rfl ?_
    go_wp2_with fail
    refine wpC_stop (by kernel_rfl) hkC ?_
    go_wp2_with fail
    go_ret
    exact ⟨rfl, (HKW.out.trans HK8.out).trans hkC⟩
end Go.Proofs.YtamkglgiaiejkaaGreatDoor
