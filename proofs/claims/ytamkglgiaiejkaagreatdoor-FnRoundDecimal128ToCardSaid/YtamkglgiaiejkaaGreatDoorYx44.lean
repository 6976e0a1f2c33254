import Derived.Test.YtamkglgiaiejkaaGreatDoorYx37
import Derived.Test.YtamkglgiaiejkaaGreatDoorYx38
/-! The reference's rounding. -/
namespace Go.Proofs.YtamkglgiaiejkaaGreatDoor
open Go.RowKit

theorem two_alike (w : World) (z : Obj) (b : Nat) (h : b = w.heap.size ∨ b = w.heap.size + 1) : ((w.alloc z).alloc z).heap[b]? = some z := by
  rcases h with rfl | rfl
  · exact blk_alloc (blk_new w z) z
  · have := blk_new (w.alloc z) z
    simpa using this
theorem two_len {r : Int} {k : Nat} (h : (digs r.natAbs).length ≤ k) : (digs (r + r).natAbs).length ≤ k + 1 := by
  refine digs_length_le ?_
  have h1 := val_lt (digs_digs r.natAbs)
  rw [val_digs] at h1
  have h2 : 4294967296 ^ (digs r.natAbs).length ≤ 4294967296 ^ k := Nat.pow_le_pow_right (by decide) h
  rw [Nat.pow_succ]
  omega
def sgI (x : Int) : Int := if x < 0 then -1 else if x = 0 then 0 else 1
theorem sgI_neg (x : Int) : (sgI x < 0) ↔ x < 0 := by unfold sgI; split <;> (try split) <;> omega
theorem sgI_zero (x : Int) : sgI x = 0 ↔ x = 0 := by unfold sgI; split <;> (try split) <;> omega
theorem sign7S (v : Value) (x : Int) (w : World) (hv : WV w v x) : Calls Tryz.prog 7 #[v] w fun e w' => e = .returned (.int .i64 (sgI x)) ∧ Keep (fun _ => False) w w' := sign7 v x w hv
set_option maxRecDepth 100000 in
set_option maxHeartbeats 4000000 in
theorem roundWide11 (u v : Value) (x m : Int) (mode : Int) (w : World) (hu : WV w u x) (hv : WV w v m) (hm0 : 0 < m) (hmode : 0 ≤ mode ∧ mode ≤ 9) (hx9 : (digs x.natAbs).length ≤ 100) (hm9 : (digs m.natAbs).length ≤ 100) : Calls Tryz.prog 11 #[u, v, .int .i64 mode] w fun e w' => ∃ r, e = .returned r ∧ WV w' r (roundQ (x.tdiv m) (x.tmod m) m mode (decide (x < 0))) ∧ Keep (fun _ => False) w w' := by
  have hu0 := hu
  have hv0 := hv
  obtain ⟨m1, rfl, hm⟩ := hu
  obtain ⟨m2, rfl, hm'⟩ := hv
  have hma := hm
  have hmb := hm'
  obtain ⟨A, c, rfl, _, _⟩ := hma
  obtain ⟨B, d, rfl, _, _⟩ := hmb
  obtain ⟨h0, h1, h2, hk0⟩ := two_boxes w #[.bool (decide (x < 0)), .slice A (digs x.natAbs).length c] #[.bool (decide (m < 0)), .slice B (digs m.natAbs).length d] #[.bool false, .slice none 0 0]
  have HD := Lib.hid (wideDiv23 _ _ x m (((w.alloc (.cells #[.bool (decide (x < 0)), .slice A (digs x.natAbs).length c] 29)).alloc (.cells #[.bool (decide (m < 0)), .slice B (digs m.natAbs).length d] 29)).alloc (.cells #[.bool false, .slice none 0 0] 29)) (hu0.keep hk0 (fun _ _ h => h)) (hv0.keep hk0 (fun _ _ h => h)) (by omega) (by omega) (by omega))
  obtain ⟨q, hq⟩ : ∃ q, q = x.tdiv m := ⟨_, rfl⟩
  obtain ⟨r, hr⟩ : ∃ r, r = x.tmod m := ⟨_, rfl⟩
  have hq9 : (digs q.natAbs).length ≤ 100 := by
    rw [hq, Int.natAbs_tdiv]
    exact Nat.le_trans (digs_length_mono (Nat.div_le_self _ _)) hx9
  have hr9 : (digs r.natAbs).length ≤ 100 := by
    rw [hr, Int.natAbs_tmod]
    exact Nat.le_trans (digs_length_mono (Nat.mod_le _ _)) hx9
  rw [← hq, ← hr] at HD ⊢
  have hrm : -m < r ∧ r < m := by
    rw [hr]
    exact ⟨by have := Int.natAbs_tmod x m; have := Nat.mod_lt x.natAbs (show 0 < m.natAbs by omega); omega, by have := Int.natAbs_tmod x m; have := Nat.mod_lt x.natAbs (show 0 < m.natAbs by omega); omega⟩
  clear hq hr
  have HU := Lib.hid (And.intro hu0 hv0)
  clear hu0 hv0 hm hm'
  go_enter Tryz.func11, Tryz.ntmps11
  go_wp2_with fail
  generalize (((w.alloc (.cells #[.bool (decide (x < 0)), .slice A (digs x.natAbs).length c] 29)).alloc (.cells #[.bool (decide (m < 0)), .slice B (digs m.natAbs).length d] 29)).alloc (.cells #[.bool false, .slice none 0 0] 29)) = w0 at *
  refine HD.out.mono ?_
  rintro e w1 ⟨v1, v2, rfl, hv1, hv2, hk1⟩
  have h01 := hk1.blk h0 (fun h => h)
  have h11 := hk1.blk h1 (fun h => h)
  have h21 := hk1.blk h2 (fun h => h)
  have hka := hk0.trans hk1
  obtain ⟨m3, rfl, hm3⟩ := hv1
  obtain ⟨m4, rfl, hm4⟩ := hv2
  have hm3' := hm3
  have hm4' := hm4
  obtain ⟨A3, c3, rfl, _, _⟩ := hm3'
  obtain ⟨A4, c4, rfl, _, _⟩ := hm4'
  have hl2 : w.heap.size + 2 < w1.heap.size := blk_lt h21
  have hw2 := (two_boxes w1 #[.bool (decide (q < 0)), .slice A3 (digs q.natAbs).length c3] #[.bool (decide (r < 0)), .slice A4 (digs r.natAbs).length c4] #[])
  have h32 := blk_alloc (blk_new w1 (.cells #[.bool (decide (q < 0)), .slice A3 (digs q.natAbs).length c3] 29)) (.cells #[.bool (decide (r < 0)), .slice A4 (digs r.natAbs).length c4] 29)
  have h42 : ((w1.alloc (.cells #[.bool (decide (q < 0)), .slice A3 (digs q.natAbs).length c3] 29)).alloc (.cells #[.bool (decide (r < 0)), .slice A4 (digs r.natAbs).length c4] 29)).heap[w1.heap.size + 1]? = some (.cells #[.bool (decide (r < 0)), .slice A4 (digs r.natAbs).length c4] 29 (0, 0)) := by
    have := blk_new (w1.alloc (.cells #[.bool (decide (q < 0)), .slice A3 (digs q.natAbs).length c3] 29)) (.cells #[.bool (decide (r < 0)), .slice A4 (digs r.natAbs).length c4] 29)
    simpa using this
  have hk2 : Keep (fun _ => False) w1 ((w1.alloc (.cells #[.bool (decide (q < 0)), .slice A3 (digs q.natAbs).length c3] 29)).alloc (.cells #[.bool (decide (r < 0)), .slice A4 (digs r.natAbs).length c4] 29)) := ((Keep.refl _ w1).alloc _).alloc _
  have h02 := hk2.blk h01 (fun h => h)
  have h12 := hk2.blk h11 (fun h => h)
  have h22 := hk2.blk h21 (fun h => h)
  have hkb := hka.trans hk2
  have hm32 := hm3.keep hk2 (fun _ _ h => h)
  have hm42 := hm4.keep hk2 (fun _ _ h => h)
  have HS := Lib.hid (sign7S (.agg #[.bool (decide (r < 0)), .slice A4 (digs r.natAbs).length c4]) r _ ⟨_, rfl, hm42⟩)
  clear HD h0 h1 h2 hk0 hw2 h01 h11 h21 hka hk2 hm3 hm4 hk1
  go_wp2_with fail
  generalize (w1.alloc (.cells #[.bool (decide (q < 0)), .slice A3 (digs q.natAbs).length c3] 29)).alloc (.cells #[.bool (decide (r < 0)), .slice A4 (digs r.natAbs).length c4] 29) = w2 at *
  refine HS.out.mono ?_
  rintro e w3 ⟨rfl, hk3⟩
  have h03 := hk3.blk h02 (fun h => h)
  have h13 := hk3.blk h12 (fun h => h)
  have h23 := hk3.blk h22 (fun h => h)
  have h33 := hk3.blk h32 (fun h => h)
  have h43 := hk3.blk h42 (fun h => h)
  have hkc := hkb.trans hk3
  have hm33 := hm32.keep hk3 (fun _ _ h => h)
  have hm43 := hm42.keep hk3 (fun _ _ h => h)
  clear HS h02 h12 h22 h32 h42 hkb hm32 hm42 hk3
  have hc33 := blk_cell h33
  have hc23 := blk_cell h23
  have hf23 := blk_frozen h23
  by_cases hr0 : r = 0
  · have hrq : roundQ q r m mode (decide (x < 0)) = q := by unfold roundQ; rw [if_pos hr0]
    have hs : sgI r = 0 := (sgI_zero r).2 hr0
    rw [hs]
    obtain ⟨hl1, hl2, hl3⟩ := wide_laid h23 hm33 (decide (q < 0))
    have hkE := hkc.step hl2 (fun b hb => .inr (by have h' : b = w.heap.size + 2 := hb; omega))
    have HL := Lib.hid (And.intro hl1 hkE)
    clear hl1 hkE hkc hm33 hm43 hs
    go_wp2_with fail
    exact bodyPost_ret (v := .agg #[.bool (decide (q < 0)), .slice A3 (digs q.natAbs).length c3]) (by simp [results, Tryz.results11, go_sem, hl3]) rfl ⟨_, rfl, by rw [hrq]; exact ⟨_, rfl, HL.out.1⟩, HL.out.2⟩
  · have hs : (sgI r == 0) = false := beq_eq_false_iff_ne.2 (fun e => hr0 ((sgI_zero r).1 e))
    obtain ⟨sg, hsg⟩ : ∃ sg, sg = sgI r := ⟨_, rfl⟩
    rw [← hsg] at hs ⊢
    have HSG := Lib.hid (And.intro hsg (show sg < 0 ↔ r < 0 by rw [hsg]; exact sgI_neg r))
    clear hsg
    -- REGION4
    go_wp2_with fail
    refine wp_region_takesC (fun w' => w'.heap[w1.heap.size]? = some (.cells #[.bool (decide (q < 0)), .slice A3 (digs q.natAbs).length c3] 29 (0, 0)) ∧ w'.heap[w1.heap.size + 1]? = some (.cells #[.bool (decide (r < 0)), .slice A4 (digs r.natAbs).length c4] 29 (0, 0))) (by kernel_rfl) ?_
    go_simp
    refine wpC_take 0 (v := .agg #[.bool (decide (q < 0)), .slice A3 (digs q.natAbs).length c3]) (by kernel_rfl) rfl rfl (fun _ _ _ h => h) (fun w' hC => by have hc := blk_cell hC.1; go_simp) ?_
    go_simp
    refine wpC_take 1 (v := .agg #[.bool (decide (r < 0)), .slice A4 (digs r.natAbs).length c4]) (by kernel_rfl) rfl rfl (fun _ _ _ h => h) (fun w' hC => by have hc := blk_cell hC.2; go_simp) ?_
    go_simp
    refine wpC_allocs2 (d1 := 9) (d2 := 10) (z := .cells #[.bool false, .slice none 0 0] 29) 2 3 (by kernel_rfl) (by kernel_rfl) (by kernel_rfl) (by decide) rfl rfl rfl rfl rfl rfl (by decide) (fun ρ w' => by go_simp) (fun ρ w' => by go_simp) ⟨blk_drew h33, blk_drew h43⟩ ⟨blk_alloc (blk_drew h33) _, blk_alloc (blk_drew h43) _⟩ ?_
    intro b9 b10 hbb
    have hsd : w3.drew.heap.size = w3.heap.size := rfl
    rw [hsd] at hbb
    have h9a : ((w3.alloc (.cells #[.bool false, .slice none 0 0] 29)).alloc (.cells #[.bool false, .slice none 0 0] 29)).drew.heap[b9]? = some (.cells #[.bool false, .slice none 0 0] 29 (0, 0)) := two_alike w3.drew _ b9 (by rw [hsd]; omega)
    have h10a : ((w3.alloc (.cells #[.bool false, .slice none 0 0] 29)).alloc (.cells #[.bool false, .slice none 0 0] 29)).drew.heap[b10]? = some (.cells #[.bool false, .slice none 0 0] 29 (0, 0)) := two_alike w3.drew _ b10 (by rw [hsd]; omega)
    have hk4 : Keep (fun _ => False) w3 ((w3.alloc (.cells #[.bool false, .slice none 0 0] 29)).alloc (.cells #[.bool false, .slice none 0 0] 29)).drew := (((Keep.refl (fun _ => False) w3).alloc _).alloc _).drew
    have hl43 := blk_lt h43
    have hb910 : b9 ≠ b10 ∧ w1.heap.size + 1 < b9 ∧ w1.heap.size + 1 < b10 := by omega
    have h04 := hk4.blk h03 (fun h => h)
    have h14 := hk4.blk h13 (fun h => h)
    have h24 := hk4.blk h23 (fun h => h)
    have h34 := hk4.blk h33 (fun h => h)
    have h44 := hk4.blk h43 (fun h => h)
    have hm34 := hm33.keep hk4 (fun _ _ h => h)
    have hm44 := hm43.keep hk4 (fun _ _ h => h)
    have hkd := hkc.trans hk4
    clear hk4 hm33 hm43 hkc h03 h13 h23 h33 h43 hc33 hc23 hf23 hsd hbb
    go_simp
    generalize ((w3.alloc (.cells #[.bool false, .slice none 0 0] 29)).alloc (.cells #[.bool false, .slice none 0 0] 29)).drew = w4 at *
    have hc9 := blk_cell h9a
    have hf9 := blk_frozen h9a
    obtain ⟨hl1, hl2, hl3⟩ := wide_laid h9a hm34 (decide (q < 0))
    have h9b := blk_set (blk_set h9a 0 (.bool (decide (q < 0)))) 1 (.slice A3 (digs q.natAbs).length c3)
    have hm45 := hm44.off hc9 (wide_cells _ _ _ _) hl2
    have h05 := hl2.blk h04 (by show ¬ w.heap.size = b9; omega)
    have h15 := hl2.blk h14 (by show ¬ w.heap.size + 1 = b9; omega)
    have h25 := hl2.blk h24 (by show ¬ w.heap.size + 2 = b9; omega)
    have h35 := hl2.blk h34 (by show ¬ w1.heap.size = b9; omega)
    have h45 := hl2.blk h44 (by show ¬ w1.heap.size + 1 = b9; omega)
    have h105 := hl2.blk h10a (by show ¬ b10 = b9; omega)
    have hke := hkd.step hl2 (fun b hb => .inr (by have h' : b = b9 := hb; omega))
    have HA := Lib.hid (And.intro hl1 (And.intro hm45 hke))
    clear hl1 hl3 hm34 hm44 hm45 hke hkd h04 h14 h24 h10a hl2 h9a
    refine wpC_only 4 (by kernel_rfl) ⟨h34, h44⟩ rfl ?_
    clear h34 h44
    go_wp2_with fail
    generalize (w4.setCell ⟨b9, 0, none⟩ (.bool (decide (q < 0)))).setCell ⟨b9, 1, none⟩ (.slice A3 (digs q.natAbs).length c3) = w5 at *
    clear hc9 hf9
    have hc10 := blk_cell h105
    have hf10 := blk_frozen h105
    obtain ⟨hl1, hl2, hl3⟩ := wide_laid h105 HA.out.2.1 (decide (r < 0))
    have h10b := blk_set (blk_set h105 0 (.bool (decide (r < 0)))) 1 (.slice A4 (digs r.natAbs).length c4)
    have hm36 := HA.out.1.off hc10 (wide_cells _ _ _ _) hl2
    have h06 := hl2.blk h05 (by show ¬ w.heap.size = b10; omega)
    have h16 := hl2.blk h15 (by show ¬ w.heap.size + 1 = b10; omega)
    have h26 := hl2.blk h25 (by show ¬ w.heap.size + 2 = b10; omega)
    have h36 := hl2.blk h35 (by show ¬ w1.heap.size = b10; omega)
    have h46 := hl2.blk h45 (by show ¬ w1.heap.size + 1 = b10; omega)
    have h96 := hl2.blk h9b (by show ¬ b9 = b10; omega)
    have hkf := HA.out.2.2.step hl2 (fun b hb => .inr (by have h' : b = b10 := hb; omega))
    have HB := Lib.hid (And.intro hm36 (And.intro hl1 hkf))
    clear hl1 hl3 hm36 hkf h05 h15 h25 h9b h105 hl2 HA
    refine wpC_only 5 (by kernel_rfl) ⟨h35, h45⟩ rfl ?_
    clear h35 h45
    go_wp2_with fail
    generalize (w5.setCell ⟨b10, 0, none⟩ (.bool (decide (r < 0)))).setCell ⟨b10, 1, none⟩ (.slice A4 (digs r.natAbs).length c4) = w6 at *
    clear hc10 hf10
    refine wpC_stop (by kernel_rfl) ⟨h36, h46⟩ ?_
    have HS2 := Lib.hid (sign7S (.agg #[.bool (decide (r < 0)), .slice A4 (digs r.natAbs).length c4]) r w6 ⟨_, rfl, HB.out.2.1⟩)
    rw [← HSG.out.1] at HS2
    have hc46 := blk_cell h46
    go_wp2_with fail
    refine HS2.out.mono ?_
    rintro e w7 ⟨rfl, hk7⟩
    have h07 := hk7.blk h06 (fun h => h)
    have h17 := hk7.blk h16 (fun h => h)
    have h27 := hk7.blk h26 (fun h => h)
    have h37 := hk7.blk h36 (fun h => h)
    have h47 := hk7.blk h46 (fun h => h)
    have h97 := hk7.blk h96 (fun h => h)
    have h107 := hk7.blk h10b (fun h => h)
    have HC := Lib.hid (And.intro (HB.out.1.keep hk7 (fun _ _ h => h)) (And.intro (HB.out.2.1.keep hk7 (fun _ _ h => h)) (HB.out.2.2.trans hk7)))
    clear HS2 HB h06 h16 h26 h36 h46 h96 h10b hk7 hc46 hs
    by_cases hr : r < 0
    · have hsg : sg < 0 := HSG.out.2.2 hr
      have hl2w : w.heap.size + 2 < b9 ∧ w.heap.size + 2 < b10 := by omega
      obtain ⟨lw, hlw⟩ : ∃ z, z = q - 1 := ⟨_, rfl⟩
      obtain ⟨rs, hrs⟩ : ∃ z, z = r + m := ⟨_, rfl⟩
      have HLR := Lib.hid (show lowOf q r = lw ∧ restOf r m = rs from ⟨by rw [hlw]; exact if_pos hr, by rw [hrs]; exact if_pos hr⟩)
      have hr9 : (digs rs.natAbs).length ≤ 100 := Nat.le_trans (digs_length_mono (show rs.natAbs ≤ m.natAbs by omega)) hm9
      have hlw9 : (digs lw.natAbs).length ≤ 101 := by
        refine Nat.le_trans (digs_length_mono (show lw.natAbs ≤ (q + q).natAbs + 1 by omega)) ?_
        refine digs_length_le ?_
        have h1 := val_lt (digs_digs q.natAbs)
        rw [val_digs] at h1
        have h2 : 4294967296 ^ (digs q.natAbs).length ≤ 4294967296 ^ 100 := Nat.pow_le_pow_right (by decide) hq9
        rw [Nat.pow_succ]
        omega
      have HRN := Lib.hid hr
      clear hr
      obtain ⟨one, hone⟩ : ∃ z : Int, z = 1 := ⟨_, rfl⟩
      have ho9 : (digs one.natAbs).length ≤ 10000 := by rw [hone]; exact Nat.le_trans (digs_length_le (k := 1) (by decide)) (by decide)
      have H1 := Lib.hid (wideOne25 w7.drew)
      have HO := Lib.hid (And.intro hone (And.intro hlw hrs))
      clear hone hlw hrs
      go_wp2_with fail
      refine wp_region_takesC (fun w' => w'.heap[w1.heap.size]? = some (.cells #[.bool (decide (q < 0)), .slice A3 (digs q.natAbs).length c3] 29 (0, 0)) ∧ w'.heap[w1.heap.size + 1]? = some (.cells #[.bool (decide (r < 0)), .slice A4 (digs r.natAbs).length c4] 29 (0, 0)) ∧ w'.heap[w.heap.size + 1]? = some (.cells #[.bool (decide (m < 0)), .slice B (digs m.natAbs).length d] 29 (0, 0))) (by kernel_rfl) ?_
      go_simp
      refine wpC_take 0 (v := .agg #[.bool (decide (q < 0)), .slice A3 (digs q.natAbs).length c3]) (by kernel_rfl) rfl rfl (fun _ _ _ h => h) (fun w' hC => by have hc := blk_cell hC.1; go_simp) ?_
      go_simp
      refine wpC_take 3 (v := .agg #[.bool (decide (r < 0)), .slice A4 (digs r.natAbs).length c4]) (by kernel_rfl) rfl rfl (fun _ _ _ h => h) (fun w' hC => by have hc := blk_cell hC.2.1; go_simp) ?_
      go_simp
      refine wpC_take 4 (v := .agg #[.bool (decide (m < 0)), .slice B (digs m.natAbs).length d]) (by kernel_rfl) rfl rfl (fun _ _ _ h => h) (fun w' hC => by have hc := blk_cell hC.2.2; go_simp) ?_
      go_simp
      refine wpC_only 1 (by kernel_rfl) ⟨blk_drew h37, blk_drew h47, blk_drew h17⟩ rfl ?_
      go_wp2_with fail
      refine H1.out.mono ?_
      rintro e wp ⟨vp, rfl, hvp, hkp⟩
      have hkp := (Keep.refl (fun _ => False) w7).drew.trans hkp
      rw [← HO.out.1] at hvp
      have xp := hkp.blk h07 (fun h => h)
      have mp := hkp.blk h17 (fun h => h)
      have sp := hkp.blk h27 (fun h => h)
      have qp := hkp.blk h37 (fun h => h)
      have rp := hkp.blk h47 (fun h => h)
      have lp := hkp.blk h97 (fun h => h)
      have tp := hkp.blk h107 (fun h => h)
      have HSb := wideSub24 (.agg #[.bool (decide (q < 0)), .slice A3 (digs q.natAbs).length c3]) vp q one wp ⟨_, rfl, HC.out.1.keep hkp (fun _ _ h => h)⟩ hvp (by omega) ho9
      rw [show q - one = lw by rw [HO.out.1, HO.out.2.1]] at HSb
      have HSb := Lib.hid HSb
      have HCp := Lib.hid (And.intro (HC.out.2.1.keep hkp (fun _ _ h => h)) (HC.out.2.2.trans hkp))
      obtain ⟨mvp, rfl, hmvp⟩ := hvp
      obtain ⟨Ap, cp, rfl, _, _⟩ := hmvp
      generalize decide (one < 0) = bo at *
      generalize (digs one.natAbs).length = no at *
      clear H1 hkp h07 h17 h27 h37 h47 h97 h107 HC
      go_wp2_with fail
      refine wpC_only 2 (by kernel_rfl) ⟨qp, rp, mp⟩ rfl ?_
      go_wp2_with fail
      refine HSb.out.mono ?_
      rintro e ws ⟨vs, rfl, hvs, hks⟩
      have xs := hks.blk xp (fun h => h)
      have ms := hks.blk mp (fun h => h)
      have ss := hks.blk sp (fun h => h)
      have qs := hks.blk qp (fun h => h)
      have rs_ := hks.blk rp (fun h => h)
      have ls := hks.blk lp (fun h => h)
      have ts := hks.blk tp (fun h => h)
      obtain ⟨mvs, rfl, hmvs⟩ := hvs
      have hmvs' := hmvs
      obtain ⟨As, cs, rfl, _, _⟩ := hmvs'
      have hrs' := HCp.out.1.keep hks (fun _ _ h => h)
      have HAd := wideAdd26 (.agg #[.bool (decide (r < 0)), .slice A4 (digs r.natAbs).length c4]) (.agg #[.bool (decide (m < 0)), .slice B (digs m.natAbs).length d]) r m ws ⟨_, rfl, hrs'⟩ (HU.out.2.keep (HCp.out.2.trans hks) (fun _ _ h => h)) (by omega) (by omega)
      rw [← HO.out.2.2] at HAd
      have HAd := Lib.hid HAd
      have HCs := Lib.hid (And.intro hmvs (HCp.out.2.trans hks))
      clear HSb hks xp mp sp qp rp lp tp HCp hmvs hrs'
      go_wp2_with fail
      refine wpC_only 5 (by kernel_rfl) ⟨qs, rs_, ms⟩ rfl ?_
      go_wp2_with fail
      refine HAd.out.mono ?_
      rintro e wt ⟨vt, rfl, hvt, hkt⟩
      have xt := hkt.blk xs (fun h => h)
      have mt := hkt.blk ms (fun h => h)
      have st := hkt.blk ss (fun h => h)
      have qt := hkt.blk qs (fun h => h)
      have rt := hkt.blk rs_ (fun h => h)
      have lt := hkt.blk ls (fun h => h)
      have tt := hkt.blk ts (fun h => h)
      obtain ⟨mvt, rfl, hmvt⟩ := hvt
      have hmvt' := hmvt
      obtain ⟨At, ct, rfl, _, _⟩ := hmvt'
      have hmt := HCs.out.1.keep hkt (fun _ _ h => h)
      have hkT := HCs.out.2.trans hkt
      have hc9 := blk_cell lt
      have hf9 := blk_frozen lt
      obtain ⟨hl1, hl2, hl3⟩ := wide_laid lt hmt (decide (lw < 0))
      have lu := blk_set (blk_set lt 0 (.bool (decide (lw < 0)))) 1 (.slice As (digs lw.natAbs).length cs)
      have hmu := hmvt.off hc9 (wide_cells _ _ _ _) hl2
      have xu := hl2.blk xt (by show ¬ w.heap.size = b9; omega)
      have mu := hl2.blk mt (by show ¬ w.heap.size + 1 = b9; omega)
      have su := hl2.blk st (by show ¬ w.heap.size + 2 = b9; omega)
      have qu := hl2.blk qt (by show ¬ w1.heap.size = b9; omega)
      have ru := hl2.blk rt (by show ¬ w1.heap.size + 1 = b9; omega)
      have tu := hl2.blk tt (by show ¬ b10 = b9; omega)
      have hku := hkT.step hl2 (fun b hb => .inr (by have h' : b = b9 := hb; omega))
      have HA2 := Lib.hid (And.intro hl1 (And.intro hmu hku))
      clear hl1 hl3 hmt hmvt hmu hku hkT hkt xs ms ss qs rs_ ls ts hl2 HCs HAd xt st tt
      go_wp2_with fail
      refine wpC_only 6 (by kernel_rfl) ⟨qt, rt, mt⟩ rfl ?_
      go_wp2_with fail
      generalize (wt.setCell ⟨b9, 0, none⟩ (.bool (decide (lw < 0)))).setCell ⟨b9, 1, none⟩ (.slice As (digs lw.natAbs).length cs) = w8 at *
      clear hc9 hf9 qt rt mt
      have hc10 := blk_cell tu
      have hf10 := blk_frozen tu
      obtain ⟨hl1, hl2, hl3⟩ := wide_laid tu HA2.out.2.1 (decide (rs < 0))
      have tv := blk_set (blk_set tu 0 (.bool (decide (rs < 0)))) 1 (.slice At (digs rs.natAbs).length ct)
      have hmv := HA2.out.1.off hc10 (wide_cells _ _ _ _) hl2
      have xv := hl2.blk xu (by show ¬ w.heap.size = b10; omega)
      have mv := hl2.blk mu (by show ¬ w.heap.size + 1 = b10; omega)
      have sv := hl2.blk su (by show ¬ w.heap.size + 2 = b10; omega)
      have qv := hl2.blk qu (by show ¬ w1.heap.size = b10; omega)
      have rv := hl2.blk ru (by show ¬ w1.heap.size + 1 = b10; omega)
      have lv := hl2.blk lu (by show ¬ b9 = b10; omega)
      have hkv := HA2.out.2.2.step hl2 (fun b hb => .inr (by have h' : b = b10 := hb; omega))
      have HC := Lib.hid (And.intro hmv (And.intro hl1 hkv))
      clear hl1 hl3 hmv hkv hl2 HA2 xu su tu lu
      go_wp2_with fail
      refine wpC_only 7 (by kernel_rfl) ⟨qu, ru, mu⟩ rfl ?_
      go_wp2_with fail
      generalize (w8.setCell ⟨b10, 0, none⟩ (.bool (decide (rs < 0)))).setCell ⟨b10, 1, none⟩ (.slice At (digs rs.natAbs).length ct) = w9 at *
      clear hc10 hf10 qu ru mu
      refine wpC_stop (by kernel_rfl) ⟨qv, rv, mv⟩ ?_
      clear qv rv
      obtain ⟨RR, hRR⟩ : ∃ z, z = rs + rs := ⟨_, rfl⟩
      have hRR9 : (digs RR.natAbs).length ≤ 10000 := by rw [hRR]; exact Nat.le_trans (two_len hr9) (by decide)
      have HA := wideAdd26 (.agg #[.bool (decide (rs < 0)), .slice At (digs rs.natAbs).length ct]) (.agg #[.bool (decide (rs < 0)), .slice At (digs rs.natAbs).length ct]) rs rs w9.drew ⟨_, rfl, HC.out.2.1.keep (Keep.refl (fun _ => False) w9).drew (fun _ _ h => h)⟩ ⟨_, rfl, HC.out.2.1.keep (Keep.refl (fun _ => False) w9).drew (fun _ _ h => h)⟩ (by omega) (by omega)
      rw [← hRR] at HA
      have HA := Lib.hid HA
      have HRR := Lib.hid hRR
      clear hRR
      go_wp2_with fail
      refine wp_region_takesC (fun w' => w'.heap[b10]? = some (.cells #[.bool (decide (rs < 0)), .slice At (digs rs.natAbs).length ct] 29 (0, 0)) ∧ w'.heap[w.heap.size + 1]? = some (.cells #[.bool (decide (m < 0)), .slice B (digs m.natAbs).length d] 29 (0, 0))) (by kernel_rfl) ?_
      go_simp
      refine wpC_take 0 (v := .agg #[.bool (decide (rs < 0)), .slice At (digs rs.natAbs).length ct]) (by kernel_rfl) rfl rfl (fun _ _ _ h => h) (fun w' hC => by have hc := blk_cell hC.1; go_simp) ?_
      go_simp
      refine wpC_take 1 (v := .agg #[.bool (decide (rs < 0)), .slice At (digs rs.natAbs).length ct]) (by kernel_rfl) rfl rfl (fun _ _ _ h => h) (fun w' hC => by have hc := blk_cell hC.1; go_simp) ?_
      go_simp
      refine wpC_take 3 (v := .agg #[.bool (decide (m < 0)), .slice B (digs m.natAbs).length d]) (by kernel_rfl) rfl rfl (fun _ _ _ h => h) (fun w' hC => by have hc := blk_cell hC.2; go_simp) ?_
      go_simp
      refine wpC_only 2 (by kernel_rfl) ⟨blk_drew tv, blk_drew mv⟩ rfl ?_
      go_wp2_with fail
      refine HA.out.mono ?_
      rintro e wa ⟨va, rfl, hva, hka⟩
      have xa := hka.blk (blk_drew xv) (fun h => h)
      have ma := hka.blk (blk_drew mv) (fun h => h)
      have ra := hka.blk (blk_drew sv) (fun h => h)
      have la := hka.blk (blk_drew lv) (fun h => h)
      have ta := hka.blk (blk_drew tv) (fun h => h)
      have hma := HC.out.1.keep ((Keep.refl (fun _ => False) w9).drew.trans hka) (fun _ _ h => h)
      have hkwa := HC.out.2.2.trans ((Keep.refl (fun _ => False) w9).drew.trans hka)
      have HCm := Lib.hid (wideCmp27 va (.agg #[.bool (decide (m < 0)), .slice B (digs m.natAbs).length d]) RR m wa hva (HU.out.2.keep hkwa (fun _ _ h => h)) (by omega) (by omega))
      obtain ⟨mva, rfl, hmva⟩ := hva
      obtain ⟨Aa, ca, rfl, _, _⟩ := hmva
      have HCa := Lib.hid (And.intro hma hkwa)
      clear HA hka hma hkwa xv mv sv lv tv
      go_wp2_with fail
      refine wpC_only 4 (by kernel_rfl) ⟨ta, ma⟩ rfl ?_
      go_wp2_with fail
      refine HCm.out.mono ?_
      rintro e wb ⟨rfl, hkb⟩
      have xb := hkb.blk xa (fun h => h)
      have mb := hkb.blk ma (fun h => h)
      have rb := hkb.blk ra (fun h => h)
      have lb := hkb.blk la (fun h => h)
      have tb := hkb.blk ta (fun h => h)
      have HCb := Lib.hid (And.intro (HCa.out.1.keep hkb (fun _ _ h => h)) (HCa.out.2.trans hkb))
      have hfb : cmpZ RR m = -1 ∨ cmpZ RR m = 0 ∨ cmpZ RR m = 1 := by unfold cmpZ; split <;> (try split) <;> simp
      obtain ⟨hf, hhf⟩ : ∃ z, z = cmpZ RR m := ⟨_, rfl⟩
      rw [← hhf] at hfb ⊢
      have HHF := Lib.hid hhf
      clear hhf HCm hkb xa ma ra la ta HCa
      go_wp2_with fail
      refine wpC_only 5 (by kernel_rfl) ⟨tb, mb⟩ rfl ?_
      go_wp2_with fail
      refine wpC_stop (by kernel_rfl) ⟨tb, mb⟩ ?_
      have hcl := blk_cell lb
      have hcx := blk_cell xb
      have hev : ∀ (K : Prop), (∀ ev : Bool, ev = decide (lw % 2 = 0) → K) → K := fun K h => h _ rfl
      by_cases hl0 : lw = 0
      · have hz : (digs lw.natAbs).length = 0 := by rw [hl0]; simp [digs_zero]
        have HEV := Lib.hid (show decide (lw % 2 = 0) = true by rw [hl0]; rfl)
        have hzz : (((digs lw.natAbs).length : Int) == 0) = true := by rw [hz]; rfl
        clear hz hl0
        have HUP := Lib.hid (upper28 mode hf true (decide (x < 0)) wb hmode hfb)
        have hru : roundQ q r m mode (decide (x < 0)) = if upperB mode hf true (decide (x < 0)) then lw + 1 else lw := by
          unfold roundQ
          rw [if_neg hr0, HLR.out.1, HLR.out.2, ← HRR.out, show halfOf RR m = hf from HHF.out.symm, HEV.out]
        cases hub : upperB mode hf true (decide (x < 0))
        · rw [hub] at HUP hru
          have hru : roundQ q r m mode (decide (x < 0)) = lw := hru
          have hc2 := blk_cell rb
          have hf2 := blk_frozen rb
          obtain ⟨hl1, hl2, hl3⟩ := wide_laid rb HCb.out.1 (decide (lw < 0))
          have hkE := HCb.out.2.step hl2 (fun b hb => .inr (by have h' : b = w.heap.size + 2 := hb; omega))
          have HL := Lib.hid (And.intro hl1 (And.intro hkE hru))
          clear hl1 hkE hru
          go_wp2_with fail
          refine HUP.out.mono ?_
          rintro e wd ⟨rfl, rfl⟩
          go_wp2_with fail
          exact bodyPost_ret (v := .agg #[.bool (decide (lw < 0)), .slice As (digs lw.natAbs).length cs]) (by simp [results, Tryz.results11, go_sem, hl3]) rfl ⟨_, rfl, by rw [HL.out.2.2]; exact ⟨_, rfl, HL.out.1⟩, HL.out.2.1⟩
        · rw [hub] at HUP hru
          have hru : roundQ q r m mode (decide (x < 0)) = lw + 1 := hru
          have HRU := Lib.hid hru
          clear hru
          go_wp2_with fail
          refine HUP.out.mono ?_
          rintro e wd ⟨rfl, rfl⟩
          have H1 := Lib.hid (wideOne25 wd.drew)
          go_wp2_with fail
          refine wp_region_takesC (fun w' => w'.heap[b9]? = some (.cells #[.bool (decide (lw < 0)), .slice As (digs lw.natAbs).length cs] 29 (0, 0))) (by kernel_rfl) ?_
          go_simp
          refine wpC_take 0 (v := .agg #[.bool (decide (lw < 0)), .slice As (digs lw.natAbs).length cs]) (by kernel_rfl) rfl rfl (fun _ _ _ h => h) (fun w' hC => by have hc := blk_cell hC; go_simp) ?_
          go_simp
          refine wpC_only 1 (by kernel_rfl) (blk_drew lb) rfl ?_
          go_wp2_with fail
          refine H1.out.mono ?_
          rintro e we ⟨ve, rfl, hve, hke⟩
          have le := hke.blk (blk_drew lb) (fun h => h)
          have re := hke.blk (blk_drew rb) (fun h => h)
          have hkd := (Keep.refl (fun _ => False) wd).drew.trans hke
          obtain ⟨one, hone⟩ : ∃ z : Int, z = 1 := ⟨_, rfl⟩
          rw [← hone] at hve
          have ho9 : (digs one.natAbs).length ≤ 10000 := by rw [hone]; exact Nat.le_trans (digs_length_le (k := 1) (by decide)) (by decide)
          have HS3 := wideAdd26 (.agg #[.bool (decide (lw < 0)), .slice As (digs lw.natAbs).length cs]) ve lw one we ⟨_, rfl, HCb.out.1.keep hkd (fun _ _ h => h)⟩ hve (by omega) ho9
          obtain ⟨z, hz⟩ : ∃ z, z = lw + one := ⟨_, rfl⟩
          rw [← hz] at HS3
          have HS3 := Lib.hid HS3
          have HZ := Lib.hid (And.intro hz hone)
          have HKd := Lib.hid (HCb.out.2.trans hkd)
          obtain ⟨mve, rfl, hmve⟩ := hve
          obtain ⟨Ae, ce, rfl, _, _⟩ := hmve
          clear H1 hke hkd hz hone lb xb mb tb HUP
          generalize decide (one < 0) = bo at *
          generalize (digs one.natAbs).length = no at *
          go_wp2_with fail
          refine wpC_only 2 (by kernel_rfl) le rfl ?_
          go_wp2_with fail
          refine HS3.out.mono ?_
          rintro e wf ⟨vf, rfl, hvf, hkf⟩
          obtain ⟨mvf, rfl, hmvf⟩ := hvf
          have hmvf' := hmvf
          obtain ⟨Af, cf, rfl, _, _⟩ := hmvf'
          have lf := hkf.blk le (fun h => h)
          have rf' := hkf.blk re (fun h => h)
          have hc2 := blk_cell rf'
          have hf2 := blk_frozen rf'
          obtain ⟨hl1, hl2, hl3⟩ := wide_laid rf' hmvf (decide (z < 0))
          have hkE := (HKd.out.trans hkf).step hl2 (fun b hb => .inr (by have h' : b = w.heap.size + 2 := hb; omega))
          have lg := hl2.blk lf (by show ¬ b9 = w.heap.size + 2; omega)
          have HL := Lib.hid (And.intro hl1 hkE)
          clear hl1 hkE HS3 hkf hmvf le re
          go_wp2_with fail
          refine wpC_only 3 (by kernel_rfl) lf rfl ?_
          go_wp2_with fail
          refine wpC_stop (by kernel_rfl) lg ?_
          go_wp2_with fail
          exact bodyPost_ret (v := .agg #[.bool (decide (z < 0)), .slice Af (digs z.natAbs).length cf]) (by simp [results, Tryz.results11, go_sem, hl3]) rfl ⟨_, rfl, by rw [HRU.out, ← HZ.out.2, ← HZ.out.1]; exact ⟨_, rfl, HL.out.1⟩, HL.out.2⟩
      · have hp : 0 < (digs lw.natAbs).length := by
          rcases Nat.eq_zero_or_pos (digs lw.natAbs).length with e | e
          · have := digs_nil.1 (List.eq_nil_of_length_eq_zero e); omega
          · exact e
        obtain ⟨gl, ol, hAl, hcl0⟩ := HCb.out.1.cell 0 hp
        subst hAl
        obtain ⟨dl, hdl⟩ : ∃ z, z = (digs lw.natAbs).getD 0 0 := ⟨_, rfl⟩
        rw [← hdl, Nat.add_zero] at hcl0
        have hd2 : dl % 2 = lw.natAbs % 2 := by
          have h1 := val_digit (digs_digs lw.natAbs) 0
          rw [val_digs, Nat.pow_zero, Nat.div_one, ← hdl] at h1
          omega
        have hd9 : dl < 4294967296 := by rw [hdl]; exact getD_lt (digs_digs _) 0
        obtain ⟨ev, hev2⟩ : ∃ ev, ev = decide (lw % 2 = 0) := ⟨_, rfl⟩
        have hbit : (bits .and .u32 (dl : Int) 1 == 0) = ev := by
          rw [bits_and_one dl hd9, hev2]
          by_cases h : lw % 2 = 0
          · rw [show ((dl % 2 : Nat) : Int) = 0 by omega]; simp [h]
          · rw [show ((dl % 2 : Nat) : Int) = 1 by omega]; simp [h]
        have HEV := Lib.hid hev2.symm
        have hzz : (((digs lw.natAbs).length : Int) == 0) = false := beq_eq_false_iff_ne.2 (by omega)
        have hpp : (0 : Int) < ((digs lw.natAbs).length : Nat) := by omega
        clear hp hdl hd2 hev2 hd9 hl0
        have HUP := Lib.hid (upper28 mode hf ev (decide (x < 0)) wb hmode hfb)
        have hru : roundQ q r m mode (decide (x < 0)) = if upperB mode hf ev (decide (x < 0)) then lw + 1 else lw := by
          unfold roundQ
          rw [if_neg hr0, HLR.out.1, HLR.out.2, ← HRR.out, show halfOf RR m = hf from HHF.out.symm, HEV.out]
        cases hub : upperB mode hf ev (decide (x < 0))
        · rw [hub] at HUP hru
          have hru : roundQ q r m mode (decide (x < 0)) = lw := hru
          have hc2 := blk_cell rb
          have hf2 := blk_frozen rb
          obtain ⟨hl1, hl2, hl3⟩ := wide_laid rb HCb.out.1 (decide (lw < 0))
          have hkE := HCb.out.2.step hl2 (fun b hb => .inr (by have h' : b = w.heap.size + 2 := hb; omega))
          have HL := Lib.hid (And.intro hl1 (And.intro hkE hru))
          clear hl1 hkE hru
          go_wp2_with fail
          refine HUP.out.mono ?_
          rintro e wd ⟨rfl, rfl⟩
          go_wp2_with fail
          exact bodyPost_ret (v := .agg #[.bool (decide (lw < 0)), .slice (some ⟨gl, ol, none⟩) (digs lw.natAbs).length cs]) (by simp [results, Tryz.results11, go_sem, hl3]) rfl ⟨_, rfl, by rw [HL.out.2.2]; exact ⟨_, rfl, HL.out.1⟩, HL.out.2.1⟩
        · rw [hub] at HUP hru
          have hru : roundQ q r m mode (decide (x < 0)) = lw + 1 := hru
          have HRU := Lib.hid hru
          clear hru
          go_wp2_with fail
          refine HUP.out.mono ?_
          rintro e wd ⟨rfl, rfl⟩
          have H1 := Lib.hid (wideOne25 wd.drew)
          go_wp2_with fail
          refine wp_region_takesC (fun w' => w'.heap[b9]? = some (.cells #[.bool (decide (lw < 0)), .slice (some ⟨gl, ol, none⟩) (digs lw.natAbs).length cs] 29 (0, 0))) (by kernel_rfl) ?_
          go_simp
          refine wpC_take 0 (v := .agg #[.bool (decide (lw < 0)), .slice (some ⟨gl, ol, none⟩) (digs lw.natAbs).length cs]) (by kernel_rfl) rfl rfl (fun _ _ _ h => h) (fun w' hC => by have hc := blk_cell hC; go_simp) ?_
          go_simp
          refine wpC_only 1 (by kernel_rfl) (blk_drew lb) rfl ?_
          go_wp2_with fail
          refine H1.out.mono ?_
          rintro e we ⟨ve, rfl, hve, hke⟩
          have le := hke.blk (blk_drew lb) (fun h => h)
          have re := hke.blk (blk_drew rb) (fun h => h)
          have hkd := (Keep.refl (fun _ => False) wd).drew.trans hke
          obtain ⟨one, hone⟩ : ∃ z : Int, z = 1 := ⟨_, rfl⟩
          rw [← hone] at hve
          have ho9 : (digs one.natAbs).length ≤ 10000 := by rw [hone]; exact Nat.le_trans (digs_length_le (k := 1) (by decide)) (by decide)
          have HS3 := wideAdd26 (.agg #[.bool (decide (lw < 0)), .slice (some ⟨gl, ol, none⟩) (digs lw.natAbs).length cs]) ve lw one we ⟨_, rfl, HCb.out.1.keep hkd (fun _ _ h => h)⟩ hve (by omega) ho9
          obtain ⟨z, hz⟩ : ∃ z, z = lw + one := ⟨_, rfl⟩
          rw [← hz] at HS3
          have HS3 := Lib.hid HS3
          have HZ := Lib.hid (And.intro hz hone)
          have HKd := Lib.hid (HCb.out.2.trans hkd)
          obtain ⟨mve, rfl, hmve⟩ := hve
          obtain ⟨Ae, ce, rfl, _, _⟩ := hmve
          clear H1 hke hkd hz hone lb xb mb tb HUP
          generalize decide (one < 0) = bo at *
          generalize (digs one.natAbs).length = no at *
          go_wp2_with fail
          refine wpC_only 2 (by kernel_rfl) le rfl ?_
          go_wp2_with fail
          refine HS3.out.mono ?_
          rintro e wf ⟨vf, rfl, hvf, hkf⟩
          obtain ⟨mvf, rfl, hmvf⟩ := hvf
          have hmvf' := hmvf
          obtain ⟨Af, cf, rfl, _, _⟩ := hmvf'
          have lf := hkf.blk le (fun h => h)
          have rf' := hkf.blk re (fun h => h)
          have hc2 := blk_cell rf'
          have hf2 := blk_frozen rf'
          obtain ⟨hl1, hl2, hl3⟩ := wide_laid rf' hmvf (decide (z < 0))
          have hkE := (HKd.out.trans hkf).step hl2 (fun b hb => .inr (by have h' : b = w.heap.size + 2 := hb; omega))
          have lg := hl2.blk lf (by show ¬ b9 = w.heap.size + 2; omega)
          have HL := Lib.hid (And.intro hl1 hkE)
          clear hl1 hkE HS3 hkf hmvf le re
          go_wp2_with fail
          refine wpC_only 3 (by kernel_rfl) lf rfl ?_
          go_wp2_with fail
          refine wpC_stop (by kernel_rfl) lg ?_
          go_wp2_with fail
          exact bodyPost_ret (v := .agg #[.bool (decide (z < 0)), .slice Af (digs z.natAbs).length cf]) (by simp [results, Tryz.results11, go_sem, hl3]) rfl ⟨_, rfl, by rw [HRU.out, ← HZ.out.2, ← HZ.out.1]; exact ⟨_, rfl, HL.out.1⟩, HL.out.2⟩
    · have HLR := Lib.hid (show lowOf q r = q ∧ restOf r m = r from ⟨if_neg hr, if_neg hr⟩)
      have hsg : ¬ sg < 0 := fun h => hr (HSG.out.2.1 h)
      have hl2w : w.heap.size + 2 < b9 ∧ w.heap.size + 2 < b10 := by omega
      obtain ⟨RR, hRR⟩ : ∃ z, z = r + r := ⟨_, rfl⟩
      have hRR9 : (digs RR.natAbs).length ≤ 10000 := by rw [hRR]; exact Nat.le_trans (two_len hr9) (by decide)
      have HA := wideAdd26 (.agg #[.bool (decide (r < 0)), .slice A4 (digs r.natAbs).length c4]) (.agg #[.bool (decide (r < 0)), .slice A4 (digs r.natAbs).length c4]) r r w7.drew ⟨_, rfl, HC.out.2.1.keep (Keep.refl (fun _ => False) w7).drew (fun _ _ h => h)⟩ ⟨_, rfl, HC.out.2.1.keep (Keep.refl (fun _ => False) w7).drew (fun _ _ h => h)⟩ (by omega) (by omega)
      rw [← hRR] at HA
      have HA := Lib.hid HA
      have HRR := Lib.hid hRR
      clear hRR
      go_wp2_with fail
      refine wp_region_takesC (fun w' => w'.heap[b10]? = some (.cells #[.bool (decide (r < 0)), .slice A4 (digs r.natAbs).length c4] 29 (0, 0)) ∧ w'.heap[w.heap.size + 1]? = some (.cells #[.bool (decide (m < 0)), .slice B (digs m.natAbs).length d] 29 (0, 0))) (by kernel_rfl) ?_
      go_simp
      refine wpC_take 0 (v := .agg #[.bool (decide (r < 0)), .slice A4 (digs r.natAbs).length c4]) (by kernel_rfl) rfl rfl (fun _ _ _ h => h) (fun w' hC => by have hc := blk_cell hC.1; go_simp) ?_
      go_simp
      refine wpC_take 1 (v := .agg #[.bool (decide (r < 0)), .slice A4 (digs r.natAbs).length c4]) (by kernel_rfl) rfl rfl (fun _ _ _ h => h) (fun w' hC => by have hc := blk_cell hC.1; go_simp) ?_
      go_simp
      refine wpC_take 3 (v := .agg #[.bool (decide (m < 0)), .slice B (digs m.natAbs).length d]) (by kernel_rfl) rfl rfl (fun _ _ _ h => h) (fun w' hC => by have hc := blk_cell hC.2; go_simp) ?_
      go_simp
      refine wpC_only 2 (by kernel_rfl) ⟨blk_drew h107, blk_drew h17⟩ rfl ?_
      go_wp2_with fail
      refine HA.out.mono ?_
      rintro e wa ⟨va, rfl, hva, hka⟩
      have xa := hka.blk (blk_drew h07) (fun h => h)
      have ma := hka.blk (blk_drew h17) (fun h => h)
      have ra := hka.blk (blk_drew h27) (fun h => h)
      have la := hka.blk (blk_drew h97) (fun h => h)
      have ta := hka.blk (blk_drew h107) (fun h => h)
      have hma := HC.out.1.keep ((Keep.refl (fun _ => False) w7).drew.trans hka) (fun _ _ h => h)
      have hkwa := HC.out.2.2.trans ((Keep.refl (fun _ => False) w7).drew.trans hka)
      have HCm := Lib.hid (wideCmp27 va (.agg #[.bool (decide (m < 0)), .slice B (digs m.natAbs).length d]) RR m wa hva (HU.out.2.keep hkwa (fun _ _ h => h)) (by omega) (by omega))
      obtain ⟨mva, rfl, hmva⟩ := hva
      obtain ⟨Aa, ca, rfl, _, _⟩ := hmva
      have HCa := Lib.hid (And.intro hma hkwa)
      clear HA hka hma hkwa h07 h17 h27 h97 h107
      go_wp2_with fail
      refine wpC_only 4 (by kernel_rfl) ⟨ta, ma⟩ rfl ?_
      go_wp2_with fail
      refine HCm.out.mono ?_
      rintro e wb ⟨rfl, hkb⟩
      have xb := hkb.blk xa (fun h => h)
      have mb := hkb.blk ma (fun h => h)
      have rb := hkb.blk ra (fun h => h)
      have lb := hkb.blk la (fun h => h)
      have tb := hkb.blk ta (fun h => h)
      have HCb := Lib.hid (And.intro (HCa.out.1.keep hkb (fun _ _ h => h)) (HCa.out.2.trans hkb))
      have hfb : cmpZ RR m = -1 ∨ cmpZ RR m = 0 ∨ cmpZ RR m = 1 := by unfold cmpZ; split <;> (try split) <;> simp
      obtain ⟨hf, hhf⟩ : ∃ z, z = cmpZ RR m := ⟨_, rfl⟩
      rw [← hhf] at hfb ⊢
      have HHF := Lib.hid hhf
      clear hhf HCm hkb xa ma ra la ta HCa
      go_wp2_with fail
      refine wpC_only 5 (by kernel_rfl) ⟨tb, mb⟩ rfl ?_
      go_wp2_with fail
      refine wpC_stop (by kernel_rfl) ⟨tb, mb⟩ ?_
      have hcl := blk_cell lb
      have hcx := blk_cell xb
      have hev : ∀ (K : Prop), (∀ ev : Bool, ev = decide (q % 2 = 0) → K) → K := fun K h => h _ rfl
      by_cases hl0 : q = 0
      · have hz : (digs q.natAbs).length = 0 := by rw [hl0]; simp [digs_zero]
        have HEV := Lib.hid (show decide (q % 2 = 0) = true by rw [hl0]; rfl)
        have hzz : (((digs q.natAbs).length : Int) == 0) = true := by rw [hz]; rfl
        clear hz hl0
        have HUP := Lib.hid (upper28 mode hf true (decide (x < 0)) wb hmode hfb)
        have hru : roundQ q r m mode (decide (x < 0)) = if upperB mode hf true (decide (x < 0)) then q + 1 else q := by
          unfold roundQ
          rw [if_neg hr0, HLR.out.1, HLR.out.2, ← HRR.out, show halfOf RR m = hf from HHF.out.symm, HEV.out]
        cases hub : upperB mode hf true (decide (x < 0))
        · rw [hub] at HUP hru
          have hru : roundQ q r m mode (decide (x < 0)) = q := hru
          have hc2 := blk_cell rb
          have hf2 := blk_frozen rb
          obtain ⟨hl1, hl2, hl3⟩ := wide_laid rb HCb.out.1 (decide (q < 0))
          have hkE := HCb.out.2.step hl2 (fun b hb => .inr (by have h' : b = w.heap.size + 2 := hb; omega))
          have HL := Lib.hid (And.intro hl1 (And.intro hkE hru))
          clear hl1 hkE hru
          go_wp2_with fail
          refine HUP.out.mono ?_
          rintro e wd ⟨rfl, rfl⟩
          go_wp2_with fail
          exact bodyPost_ret (v := .agg #[.bool (decide (q < 0)), .slice A3 (digs q.natAbs).length c3]) (by simp [results, Tryz.results11, go_sem, hl3]) rfl ⟨_, rfl, by rw [HL.out.2.2]; exact ⟨_, rfl, HL.out.1⟩, HL.out.2.1⟩
        · rw [hub] at HUP hru
          have hru : roundQ q r m mode (decide (x < 0)) = q + 1 := hru
          have HRU := Lib.hid hru
          clear hru
          go_wp2_with fail
          refine HUP.out.mono ?_
          rintro e wd ⟨rfl, rfl⟩
          have H1 := Lib.hid (wideOne25 wd.drew)
          go_wp2_with fail
          refine wp_region_takesC (fun w' => w'.heap[b9]? = some (.cells #[.bool (decide (q < 0)), .slice A3 (digs q.natAbs).length c3] 29 (0, 0))) (by kernel_rfl) ?_
          go_simp
          refine wpC_take 0 (v := .agg #[.bool (decide (q < 0)), .slice A3 (digs q.natAbs).length c3]) (by kernel_rfl) rfl rfl (fun _ _ _ h => h) (fun w' hC => by have hc := blk_cell hC; go_simp) ?_
          go_simp
          refine wpC_only 1 (by kernel_rfl) (blk_drew lb) rfl ?_
          go_wp2_with fail
          refine H1.out.mono ?_
          rintro e we ⟨ve, rfl, hve, hke⟩
          have le := hke.blk (blk_drew lb) (fun h => h)
          have re := hke.blk (blk_drew rb) (fun h => h)
          have hkd := (Keep.refl (fun _ => False) wd).drew.trans hke
          obtain ⟨one, hone⟩ : ∃ z : Int, z = 1 := ⟨_, rfl⟩
          rw [← hone] at hve
          have ho9 : (digs one.natAbs).length ≤ 10000 := by rw [hone]; exact Nat.le_trans (digs_length_le (k := 1) (by decide)) (by decide)
          have HS3 := wideAdd26 (.agg #[.bool (decide (q < 0)), .slice A3 (digs q.natAbs).length c3]) ve q one we ⟨_, rfl, HCb.out.1.keep hkd (fun _ _ h => h)⟩ hve (by omega) ho9
          obtain ⟨z, hz⟩ : ∃ z, z = q + one := ⟨_, rfl⟩
          rw [← hz] at HS3
          have HS3 := Lib.hid HS3
          have HZ := Lib.hid (And.intro hz hone)
          have HKd := Lib.hid (HCb.out.2.trans hkd)
          obtain ⟨mve, rfl, hmve⟩ := hve
          obtain ⟨Ae, ce, rfl, _, _⟩ := hmve
          clear H1 hke hkd hz hone lb xb mb tb HUP
          generalize decide (one < 0) = bo at *
          generalize (digs one.natAbs).length = no at *
          go_wp2_with fail
          refine wpC_only 2 (by kernel_rfl) le rfl ?_
          go_wp2_with fail
          refine HS3.out.mono ?_
          rintro e wf ⟨vf, rfl, hvf, hkf⟩
          obtain ⟨mvf, rfl, hmvf⟩ := hvf
          have hmvf' := hmvf
          obtain ⟨Af, cf, rfl, _, _⟩ := hmvf'
          have lf := hkf.blk le (fun h => h)
          have rf' := hkf.blk re (fun h => h)
          have hc2 := blk_cell rf'
          have hf2 := blk_frozen rf'
          obtain ⟨hl1, hl2, hl3⟩ := wide_laid rf' hmvf (decide (z < 0))
          have hkE := (HKd.out.trans hkf).step hl2 (fun b hb => .inr (by have h' : b = w.heap.size + 2 := hb; omega))
          have lg := hl2.blk lf (by show ¬ b9 = w.heap.size + 2; omega)
          have HL := Lib.hid (And.intro hl1 hkE)
          clear hl1 hkE HS3 hkf hmvf le re
          go_wp2_with fail
          refine wpC_only 3 (by kernel_rfl) lf rfl ?_
          go_wp2_with fail
          refine wpC_stop (by kernel_rfl) lg ?_
          go_wp2_with fail
          exact bodyPost_ret (v := .agg #[.bool (decide (z < 0)), .slice Af (digs z.natAbs).length cf]) (by simp [results, Tryz.results11, go_sem, hl3]) rfl ⟨_, rfl, by rw [HRU.out, ← HZ.out.2, ← HZ.out.1]; exact ⟨_, rfl, HL.out.1⟩, HL.out.2⟩
      · have hp : 0 < (digs q.natAbs).length := by
          rcases Nat.eq_zero_or_pos (digs q.natAbs).length with e | e
          · have := digs_nil.1 (List.eq_nil_of_length_eq_zero e); omega
          · exact e
        obtain ⟨gl, ol, hAl, hcl0⟩ := HCb.out.1.cell 0 hp
        subst hAl
        obtain ⟨dl, hdl⟩ : ∃ z, z = (digs q.natAbs).getD 0 0 := ⟨_, rfl⟩
        rw [← hdl, Nat.add_zero] at hcl0
        have hd2 : dl % 2 = q.natAbs % 2 := by
          have h1 := val_digit (digs_digs q.natAbs) 0
          rw [val_digs, Nat.pow_zero, Nat.div_one, ← hdl] at h1
          omega
        have hd9 : dl < 4294967296 := by rw [hdl]; exact getD_lt (digs_digs _) 0
        obtain ⟨ev, hev2⟩ : ∃ ev, ev = decide (q % 2 = 0) := ⟨_, rfl⟩
        have hbit : (bits .and .u32 (dl : Int) 1 == 0) = ev := by
          rw [bits_and_one dl hd9, hev2]
          by_cases h : q % 2 = 0
          · rw [show ((dl % 2 : Nat) : Int) = 0 by omega]; simp [h]
          · rw [show ((dl % 2 : Nat) : Int) = 1 by omega]; simp [h]
        have HEV := Lib.hid hev2.symm
        have hzz : (((digs q.natAbs).length : Int) == 0) = false := beq_eq_false_iff_ne.2 (by omega)
        have hpp : (0 : Int) < ((digs q.natAbs).length : Nat) := by omega
        clear hp hdl hd2 hev2 hd9 hl0
        have HUP := Lib.hid (upper28 mode hf ev (decide (x < 0)) wb hmode hfb)
        have hru : roundQ q r m mode (decide (x < 0)) = if upperB mode hf ev (decide (x < 0)) then q + 1 else q := by
          unfold roundQ
          rw [if_neg hr0, HLR.out.1, HLR.out.2, ← HRR.out, show halfOf RR m = hf from HHF.out.symm, HEV.out]
        cases hub : upperB mode hf ev (decide (x < 0))
        · rw [hub] at HUP hru
          have hru : roundQ q r m mode (decide (x < 0)) = q := hru
          have hc2 := blk_cell rb
          have hf2 := blk_frozen rb
          obtain ⟨hl1, hl2, hl3⟩ := wide_laid rb HCb.out.1 (decide (q < 0))
          have hkE := HCb.out.2.step hl2 (fun b hb => .inr (by have h' : b = w.heap.size + 2 := hb; omega))
          have HL := Lib.hid (And.intro hl1 (And.intro hkE hru))
          clear hl1 hkE hru
          go_wp2_with fail
          refine HUP.out.mono ?_
          rintro e wd ⟨rfl, rfl⟩
          go_wp2_with fail
          exact bodyPost_ret (v := .agg #[.bool (decide (q < 0)), .slice (some ⟨gl, ol, none⟩) (digs q.natAbs).length c3]) (by simp [results, Tryz.results11, go_sem, hl3]) rfl ⟨_, rfl, by rw [HL.out.2.2]; exact ⟨_, rfl, HL.out.1⟩, HL.out.2.1⟩
        · rw [hub] at HUP hru
          have hru : roundQ q r m mode (decide (x < 0)) = q + 1 := hru
          have HRU := Lib.hid hru
          clear hru
          go_wp2_with fail
          refine HUP.out.mono ?_
          rintro e wd ⟨rfl, rfl⟩
          have H1 := Lib.hid (wideOne25 wd.drew)
          go_wp2_with fail
          refine wp_region_takesC (fun w' => w'.heap[b9]? = some (.cells #[.bool (decide (q < 0)), .slice (some ⟨gl, ol, none⟩) (digs q.natAbs).length c3] 29 (0, 0))) (by kernel_rfl) ?_
          go_simp
          refine wpC_take 0 (v := .agg #[.bool (decide (q < 0)), .slice (some ⟨gl, ol, none⟩) (digs q.natAbs).length c3]) (by kernel_rfl) rfl rfl (fun _ _ _ h => h) (fun w' hC => by have hc := blk_cell hC; go_simp) ?_
          go_simp
          refine wpC_only 1 (by kernel_rfl) (blk_drew lb) rfl ?_
          go_wp2_with fail
          refine H1.out.mono ?_
          rintro e we ⟨ve, rfl, hve, hke⟩
          have le := hke.blk (blk_drew lb) (fun h => h)
          have re := hke.blk (blk_drew rb) (fun h => h)
          have hkd := (Keep.refl (fun _ => False) wd).drew.trans hke
          obtain ⟨one, hone⟩ : ∃ z : Int, z = 1 := ⟨_, rfl⟩
          rw [← hone] at hve
          have ho9 : (digs one.natAbs).length ≤ 10000 := by rw [hone]; exact Nat.le_trans (digs_length_le (k := 1) (by decide)) (by decide)
          have HS3 := wideAdd26 (.agg #[.bool (decide (q < 0)), .slice (some ⟨gl, ol, none⟩) (digs q.natAbs).length c3]) ve q one we ⟨_, rfl, HCb.out.1.keep hkd (fun _ _ h => h)⟩ hve (by omega) ho9
          obtain ⟨z, hz⟩ : ∃ z, z = q + one := ⟨_, rfl⟩
          rw [← hz] at HS3
          have HS3 := Lib.hid HS3
          have HZ := Lib.hid (And.intro hz hone)
          have HKd := Lib.hid (HCb.out.2.trans hkd)
          obtain ⟨mve, rfl, hmve⟩ := hve
          obtain ⟨Ae, ce, rfl, _, _⟩ := hmve
          clear H1 hke hkd hz hone lb xb mb tb HUP
          generalize decide (one < 0) = bo at *
          generalize (digs one.natAbs).length = no at *
          go_wp2_with fail
          refine wpC_only 2 (by kernel_rfl) le rfl ?_
          go_wp2_with fail
          refine HS3.out.mono ?_
          rintro e wf ⟨vf, rfl, hvf, hkf⟩
          obtain ⟨mvf, rfl, hmvf⟩ := hvf
          have hmvf' := hmvf
          obtain ⟨Af, cf, rfl, _, _⟩ := hmvf'
          have lf := hkf.blk le (fun h => h)
          have rf' := hkf.blk re (fun h => h)
          have hc2 := blk_cell rf'
          have hf2 := blk_frozen rf'
          obtain ⟨hl1, hl2, hl3⟩ := wide_laid rf' hmvf (decide (z < 0))
          have hkE := (HKd.out.trans hkf).step hl2 (fun b hb => .inr (by have h' : b = w.heap.size + 2 := hb; omega))
          have lg := hl2.blk lf (by show ¬ b9 = w.heap.size + 2; omega)
          have HL := Lib.hid (And.intro hl1 hkE)
          clear hl1 hkE HS3 hkf hmvf le re
          go_wp2_with fail
          refine wpC_only 3 (by kernel_rfl) lf rfl ?_
          go_wp2_with fail
          refine wpC_stop (by kernel_rfl) lg ?_
          go_wp2_with fail
          exact bodyPost_ret (v := .agg #[.bool (decide (z < 0)), .slice Af (digs z.natAbs).length cf]) (by simp [results, Tryz.results11, go_sem, hl3]) rfl ⟨_, rfl, by rw [HRU.out, ← HZ.out.2, ← HZ.out.1]; exact ⟨_, rfl, HL.out.1⟩, HL.out.2⟩
end Go.Proofs.YtamkglgiaiejkaaGreatDoor
