import Derived.Test.YtamkglgiaiejkaaGreatDoorYx14
import Derived.Test.YtamkglgiaiejkaaGreatDoorYx15
/-! Whole numbers are added. -/
namespace Go.Proofs.YtamkglgiaiejkaaGreatDoor
open Go.RowKit

theorem digs_length_mono {a b : Nat} (h : a ≤ b) : (digs a).length ≤ (digs b).length := by
  rcases Nat.lt_or_ge (digs b).length (digs a).length with h1 | h1
  · have := lt_of_length h1; omega
  · exact h1
theorem sgn_same {x y : Int} (h : decide (x < 0) = decide (y < 0)) : sgn (decide (x < 0)) (x.natAbs + y.natAbs) = x + y := by
  have h : (x < 0) ↔ (y < 0) := by simpa using h
  unfold sgn
  by_cases h1 : x < 0
  · have := h.1 h1; simp [h1]; omega
  · have : ¬ y < 0 := fun e => h1 (h.2 e); simp [h1]; omega
theorem sgn_left {x y : Int} (h : ¬ decide (x < 0) = decide (y < 0)) (hle : y.natAbs ≤ x.natAbs) : sgn (decide (x < 0)) (x.natAbs - y.natAbs) = x + y := by
  have h : ¬ ((x < 0) ↔ (y < 0)) := by simpa using h
  unfold sgn
  by_cases h1 : x < 0
  · have : ¬ y < 0 := fun e => h ⟨fun _ => e, fun _ => h1⟩
    simp [h1]; omega
  · have : y < 0 := by
      by_cases e : y < 0
      · exact e
      · exact absurd ⟨fun h' => absurd h' h1, fun h' => absurd h' e⟩ h
    simp [h1]; omega
theorem sgn_right {x y : Int} (h : ¬ decide (x < 0) = decide (y < 0)) (hle : x.natAbs < y.natAbs) : sgn (decide (y < 0)) (y.natAbs - x.natAbs) = x + y := by
  rw [Int.add_comm]
  exact sgn_left (fun e => h e.symm) (Nat.le_of_lt hle)
/-- Two whole numbers laid into variables. -/
theorem two_boxes (w : World) (a b c : Array Value) : (((w.alloc (.cells a 29)).alloc (.cells b 29)).alloc (.cells c 29)).heap[w.heap.size]? = some (.cells a 29 (0, 0)) ∧
    (((w.alloc (.cells a 29)).alloc (.cells b 29)).alloc (.cells c 29)).heap[w.heap.size + 1]? = some (.cells b 29 (0, 0)) ∧
    (((w.alloc (.cells a 29)).alloc (.cells b 29)).alloc (.cells c 29)).heap[w.heap.size + 2]? = some (.cells c 29 (0, 0)) ∧
    Keep (fun _ => False) w (((w.alloc (.cells a 29)).alloc (.cells b 29)).alloc (.cells c 29)) := by
  refine ⟨blk_alloc (blk_alloc (blk_new w _) _) _, ?_, ?_, (((Keep.refl _ w).alloc _).alloc _).alloc _⟩
  · have := blk_alloc (blk_new (w.alloc (.cells a 29)) (.cells b 29)) (.cells c 29)
    simpa using this
  · have := blk_new ((w.alloc (.cells a 29)).alloc (.cells b 29)) (.cells c 29)
    simpa using this

set_option maxRecDepth 100000 in
set_option maxHeartbeats 4000000 in
theorem wideAdd26 (u v : Value) (x y : Int) (w : World) (hu : WV w u x) (hv : WV w v y) (hx9 : (digs x.natAbs).length ≤ 10000) (hy9 : (digs y.natAbs).length ≤ 10000) : Calls Tryz.prog 26 #[u, v] w fun e w' => ∃ r, e = .returned r ∧ WV w' r (x + y) ∧ Keep (fun _ => False) w w' := by
  obtain ⟨m, rfl, hm⟩ := hu
  obtain ⟨m', rfl, hm'⟩ := hv
  have hma := hm
  have hmb := hm'
  obtain ⟨A, c, rfl, _, _⟩ := hma
  obtain ⟨B, d, rfl, _, _⟩ := hmb
  obtain ⟨h0, h1, h2, hk0⟩ := two_boxes w #[.bool (decide (x < 0)), .slice A (digs x.natAbs).length c] #[.bool (decide (y < 0)), .slice B (digs y.natAbs).length d] #[.bool false, .slice none 0 0]
  have hlm := @digs_length_mono x.natAbs y.natAbs
  have hlm' := @digs_length_mono y.natAbs x.natAbs
  by_cases hs : decide (x < 0) = decide (y < 0)
  · have hsx := sgn_same hs
    have HA := Lib.hid (magAdd37 _ _ _ _ (((w.alloc (.cells #[.bool (decide (x < 0)), .slice A (digs x.natAbs).length c] 29)).alloc (.cells #[.bool (decide (y < 0)), .slice B (digs y.natAbs).length d] 29)).alloc (.cells #[.bool false, .slice none 0 0] 29)).drew (hm.keep hk0.drew (fun _ _ h => h)) (hm'.keep hk0.drew (fun _ _ h => h)) (digs_digs _) (digs_digs _) (by omega) (by omega))
    rw [val_digs, val_digs] at HA
    rw [← hs] at HA h1 hk0 h0 h2 ⊢
    generalize decide (x < 0) = bx at *
    have HX := Lib.hid hsx
    clear hsx hs hm hm' hlm hlm'
    generalize hn : (digs x.natAbs).length = n at *
    generalize hn' : (digs y.natAbs).length = n' at *
    go_enter Tryz.func26, Tryz.ntmps26
    go_wp2_with fail
    generalize (((w.alloc (.cells #[.bool bx, .slice A n c] 29)).alloc (.cells #[.bool bx, .slice B n' d] 29)).alloc (.cells #[.bool false, .slice none 0 0] 29)) = w0 at *
    refine wp_region_takesC (fun w' => w'.heap[w.heap.size]? = some (.cells #[.bool bx, .slice A n c] 29 (0, 0)) ∧ w'.heap[w.heap.size + 1]? = some (.cells #[.bool bx, .slice B n' d] 29 (0, 0))) (by kernel_rfl) ?_
    go_simp
    refine wpC_take 0 (v := .pointer (some ⟨w.heap.size, 0, none⟩)) (by kernel_rfl) rfl rfl (fun _ _ _ h => h) (fun w' hC => by go_simp) ?_
    go_simp
    refine wpC_take 2 (v := .pointer (some ⟨w.heap.size, 1, none⟩)) (by kernel_rfl) rfl rfl (fun _ _ _ h => h) (fun w' hC => by go_simp) ?_
    go_simp
    refine wpC_take 4 (v := .pointer (some ⟨w.heap.size + 1, 1, none⟩)) (by kernel_rfl) rfl rfl (fun _ _ _ h => h) (fun w' hC => by go_simp) ?_
    go_simp
    refine wpC_take 1 (v := .bool bx) (by kernel_rfl) rfl rfl (fun _ _ _ h => h) (fun w' hC => by have hc := blk_cell hC.1; go_simp) ?_
    go_simp
    refine wpC_take 3 (v := .slice A n c) (by kernel_rfl) rfl rfl (fun _ _ _ h => h) (fun w' hC => by have hc := blk_cell hC.1; go_simp) ?_
    go_simp
    refine wpC_take 5 (v := .slice B n' d) (by kernel_rfl) rfl rfl (fun _ _ _ h => h) (fun w' hC => by have hc := blk_cell hC.2; go_simp) ?_
    go_simp
    refine wpC_only 6 (by kernel_rfl) ⟨blk_drew h0, blk_drew h1⟩ rfl ?_
    go_wp2_with fail
    refine HA.out.mono ?_
    rintro e w1 ⟨x1, l1, rfl, hod, hdl, hvl, hlen, hk1⟩
    have hmag := hod.mag
    have hlen9 : l1.length ≤ 1000000 := by omega
    obtain ⟨A1, c1, rfl, _, _⟩ := hod.mag
    have HW0 := wide20 bx _ l1 w1 hmag hdl hlen9
    rw [hvl] at HW0
    clear hod hdl hvl hlen hmag hlen9
    have h02 := hk1.blk (blk_drew h0) (fun h => h)
    have h12 := hk1.blk (blk_drew h1) (fun h => h)
    have h22 := hk1.blk (blk_drew h2) (fun h => h)
    have hka : Keep (fun _ => False) w w1 := hk0.drew.trans hk1
    have HW := Lib.hid HW0
    clear HW0 HA h0 h1 h2 hk0 hk1
    go_wp2_with fail
    refine wpC_only 7 (by kernel_rfl) ⟨h02, h12⟩ rfl ?_
    go_wp2_with fail
    refine HW.out.mono ?_
    rintro e w2 ⟨v2, rfl, hv2, hk2⟩
    rw [HX.out] at hv2
    obtain ⟨m2, rfl, hm2⟩ := hv2
    have hm2' := hm2
    obtain ⟨A2, c2, rfl, _, _⟩ := hm2'
    have h03 := hk2.blk h02 (fun h => h)
    have h13 := hk2.blk h12 (fun h => h)
    have h23 := hk2.blk h22 (fun h => h)
    have hc2 := blk_cell h23
    have hf2 := blk_frozen h23
    obtain ⟨hl1, hl2, hl3⟩ := wide_laid h23 hm2 (decide (x + y < 0))
    have hkE : Keep (fun _ => False) w ((w2.setCell ⟨w.heap.size + 2, 0, none⟩ (.bool (decide (x + y < 0)))).setCell ⟨w.heap.size + 2, 1, none⟩ (.slice A2 (digs (x + y).natAbs).length c2)) := (hka.trans hk2).step hl2 (fun b hb => .inr (by have h' : b = w.heap.size + 2 := hb; omega))
    have HL := Lib.hid (And.intro hl1 hkE)
    clear HW hka hk2 h02 h12 h22 hm2 hl1 hkE
    go_wp2_with fail
    refine wpC_only 8 (by kernel_rfl) ⟨h03, h13⟩ rfl ?_
    go_wp2_with fail
    refine wpC_stop (by kernel_rfl) ⟨hl2.blk h03 (by show ¬ w.heap.size = w.heap.size + 2; omega), hl2.blk h13 (by show ¬ w.heap.size + 1 = w.heap.size + 2; omega)⟩ ?_
    go_wp2_with fail
    exact bodyPost_ret (v := .agg #[.bool (decide (x + y < 0)), .slice A2 (digs (x + y).natAbs).length c2]) (by simp [results, Tryz.results26, go_sem, hl3]) rfl ⟨_, rfl, ⟨_, rfl, HL.out.1⟩, HL.out.2⟩
  · have hs' : (decide (x < 0) == decide (y < 0)) = false := by simpa using hs
    have hle : x.natAbs < y.natAbs → 0 < (digs y.natAbs).length := fun h => by
      rcases Nat.eq_zero_or_pos (digs y.natAbs).length with e | e
      · have := digs_nil.1 (List.eq_nil_of_length_eq_zero e); omega
      · exact e
    have hge : y.natAbs ≤ x.natAbs → 0 < (digs x.natAbs).length := fun h => by
      rcases Nat.eq_zero_or_pos (digs x.natAbs).length with e | e
      · have h1 := digs_nil.1 (List.eq_nil_of_length_eq_zero e)
        exact absurd (by rw [show x = 0 by omega, show y = 0 by omega]) hs
      · exact e
    have HC := Lib.hid (magCmp38 _ _ _ _ (((w.alloc (.cells #[.bool (decide (x < 0)), .slice A (digs x.natAbs).length c] 29)).alloc (.cells #[.bool (decide (y < 0)), .slice B (digs y.natAbs).length d] 29)).alloc (.cells #[.bool false, .slice none 0 0] 29)) (hm.keep hk0 (fun _ _ h => h)) (hm'.keep hk0 (fun _ _ h => h)) (by omega) (by omega))
    by_cases hxy : y.natAbs ≤ x.natAbs
    · have hsx := sgn_left hs hxy
      have hcmp : ¬ (cmpI x.natAbs y.natAbs < 0) := by
        unfold cmpI
        rw [if_neg (by omega)]
        split <;> omega
      have HA : Hid (∀ w1, Keep (fun _ => False) w w1 → Calls Tryz.prog 39 #[.slice A (digs x.natAbs).length c, .slice B (digs y.natAbs).length d] w1 fun e w' => ∃ x_1, e = .returned x_1 ∧ MagV w' x_1 (digs (x.natAbs - y.natAbs)) ∧ Keep (fun _ => False) w1 w') := Lib.hid (fun w1 hk => by
        have := magSub39 _ _ _ _ w1 (hm.keep hk (fun _ _ h => h)) (hm'.keep hk (fun _ _ h => h)) (digs_digs _) (digs_digs _) (hge hxy) (by omega) (hlm' hxy) (by rw [val_digs, val_digs]; exact hxy)
        rw [val_digs, val_digs] at this
        exact this)
      have hl9 : (digs (x.natAbs - y.natAbs)).length ≤ 10000 := Nat.le_trans (digs_length_mono (Nat.sub_le _ _)) hx9
      generalize decide (x < 0) = bx at *
      generalize decide (y < 0) = by0 at *
      have HX := Lib.hid hsx
      have HD := Lib.hid (And.intro (val_digs (x.natAbs - y.natAbs)) (digs_digs (x.natAbs - y.natAbs)))
      clear hsx hs hm hm' hlm hlm' hle hge hxy
      generalize hn : (digs x.natAbs).length = n at *
      generalize hn' : (digs y.natAbs).length = n' at *
      generalize cmpI x.natAbs y.natAbs = z at *
      go_enter Tryz.func26, Tryz.ntmps26
      go_wp2_with fail
      generalize (((w.alloc (.cells #[.bool bx, .slice A n c] 29)).alloc (.cells #[.bool by0, .slice B n' d] 29)).alloc (.cells #[.bool false, .slice none 0 0] 29)) = w0 at *
      refine HC.out.mono ?_
      rintro e w0' ⟨rfl, hkc⟩
      have h0 := hkc.blk h0 (fun h => h)
      have h1 := hkc.blk h1 (fun h => h)
      have h2 := hkc.blk h2 (fun h => h)
      have hk0 := hk0.trans hkc
      have HA := Lib.hid (HA.out w0'.drew hk0.drew)
      clear HC hkc
      go_wp2_with fail
      refine wp_region_takesC (fun w' => w'.heap[w.heap.size]? = some (.cells #[.bool bx, .slice A n c] 29 (0, 0)) ∧ w'.heap[w.heap.size + 1]? = some (.cells #[.bool by0, .slice B n' d] 29 (0, 0))) (by kernel_rfl) ?_
      go_simp
      refine wpC_take 0 (v := .pointer (some ⟨w.heap.size, 0, none⟩)) (by kernel_rfl) rfl rfl (fun _ _ _ h => h) (fun w' hC => by go_simp) ?_
      go_simp
      refine wpC_take 2 (v := .pointer (some ⟨w.heap.size, 1, none⟩)) (by kernel_rfl) rfl rfl (fun _ _ _ h => h) (fun w' hC => by go_simp) ?_
      go_simp
      refine wpC_take 4 (v := .pointer (some ⟨w.heap.size + 1, 1, none⟩)) (by kernel_rfl) rfl rfl (fun _ _ _ h => h) (fun w' hC => by go_simp) ?_
      go_simp
      refine wpC_take 1 (v := .bool bx) (by kernel_rfl) rfl rfl (fun _ _ _ h => h) (fun w' hC => by have hc := blk_cell hC.1; go_simp) ?_
      go_simp
      refine wpC_take 3 (v := .slice A n c) (by kernel_rfl) rfl rfl (fun _ _ _ h => h) (fun w' hC => by have hc := blk_cell hC.1; go_simp) ?_
      go_simp
      refine wpC_take 5 (v := .slice B n' d) (by kernel_rfl) rfl rfl (fun _ _ _ h => h) (fun w' hC => by have hc := blk_cell hC.2; go_simp) ?_
      go_simp
      refine wpC_only 6 (by kernel_rfl) ⟨blk_drew h0, blk_drew h1⟩ rfl ?_
      go_wp2_with fail
      refine HA.out.mono ?_
      rintro e w1 ⟨x1, rfl, hmag, hk1⟩
      have hmag' := hmag
      obtain ⟨A1, c1, rfl, _, _⟩ := hmag'
      have HW0 := wide20 bx _ (digs (x.natAbs - y.natAbs)) w1 hmag HD.out.2 (by omega)
      rw [HD.out.1] at HW0
      clear hmag
      have h02 := hk1.blk (blk_drew h0) (fun h => h)
      have h12 := hk1.blk (blk_drew h1) (fun h => h)
      have h22 := hk1.blk (blk_drew h2) (fun h => h)
      have hka : Keep (fun _ => False) w w1 := hk0.drew.trans hk1
      have HW := Lib.hid HW0
      clear HW0 HA h0 h1 h2 hk0 hk1
      go_wp2_with fail
      refine wpC_only 7 (by kernel_rfl) ⟨h02, h12⟩ rfl ?_
      go_wp2_with fail
      refine HW.out.mono ?_
      rintro e w2 ⟨v2, rfl, hv2, hk2⟩
      rw [HX.out] at hv2
      obtain ⟨m2, rfl, hm2⟩ := hv2
      have hm2' := hm2
      obtain ⟨A2, c2, rfl, _, _⟩ := hm2'
      have h03 := hk2.blk h02 (fun h => h)
      have h13 := hk2.blk h12 (fun h => h)
      have h23 := hk2.blk h22 (fun h => h)
      have hc2 := blk_cell h23
      have hf2 := blk_frozen h23
      obtain ⟨hl1, hl2, hl3⟩ := wide_laid h23 hm2 (decide (x + y < 0))
      have hkE : Keep (fun _ => False) w ((w2.setCell ⟨w.heap.size + 2, 0, none⟩ (.bool (decide (x + y < 0)))).setCell ⟨w.heap.size + 2, 1, none⟩ (.slice A2 (digs (x + y).natAbs).length c2)) := (hka.trans hk2).step hl2 (fun b hb => .inr (by have h' : b = w.heap.size + 2 := hb; omega))
      have HL := Lib.hid (And.intro hl1 hkE)
      clear HW hka hk2 h02 h12 h22 hm2 hl1 hkE
      go_wp2_with fail
      refine wpC_only 8 (by kernel_rfl) ⟨h03, h13⟩ rfl ?_
      go_wp2_with fail
      refine wpC_stop (by kernel_rfl) ⟨hl2.blk h03 (by show ¬ w.heap.size = w.heap.size + 2; omega), hl2.blk h13 (by show ¬ w.heap.size + 1 = w.heap.size + 2; omega)⟩ ?_
      go_wp2_with fail
      exact bodyPost_ret (v := .agg #[.bool (decide (x + y < 0)), .slice A2 (digs (x + y).natAbs).length c2]) (by simp [results, Tryz.results26, go_sem, hl3]) rfl ⟨_, rfl, ⟨_, rfl, HL.out.1⟩, HL.out.2⟩
    · have hsx := sgn_right hs (by omega)
      have hcmp : cmpI x.natAbs y.natAbs < 0 := by
        unfold cmpI
        rw [if_pos (by omega)]
        decide
      have HA : Hid (∀ w1, Keep (fun _ => False) w w1 → Calls Tryz.prog 39 #[.slice B (digs y.natAbs).length d, .slice A (digs x.natAbs).length c] w1 fun e w' => ∃ x_1, e = .returned x_1 ∧ MagV w' x_1 (digs (y.natAbs - x.natAbs)) ∧ Keep (fun _ => False) w1 w') := Lib.hid (fun w1 hk => by
        have := magSub39 _ _ _ _ w1 (hm'.keep hk (fun _ _ h => h)) (hm.keep hk (fun _ _ h => h)) (digs_digs _) (digs_digs _) (hle (by omega)) (by omega) (hlm (by omega)) (by rw [val_digs, val_digs]; omega)
        rw [val_digs, val_digs] at this
        exact this)
      have hl9 : (digs (y.natAbs - x.natAbs)).length ≤ 10000 := Nat.le_trans (digs_length_mono (Nat.sub_le _ _)) hy9
      generalize decide (x < 0) = bx at *
      generalize decide (y < 0) = by0 at *
      have HX := Lib.hid hsx
      have HD := Lib.hid (And.intro (val_digs (y.natAbs - x.natAbs)) (digs_digs (y.natAbs - x.natAbs)))
      clear hsx hs hm hm' hlm hlm' hle hge hxy
      generalize hn : (digs x.natAbs).length = n at *
      generalize hn' : (digs y.natAbs).length = n' at *
      generalize cmpI x.natAbs y.natAbs = z at *
      go_enter Tryz.func26, Tryz.ntmps26
      go_wp2_with fail
      generalize (((w.alloc (.cells #[.bool bx, .slice A n c] 29)).alloc (.cells #[.bool by0, .slice B n' d] 29)).alloc (.cells #[.bool false, .slice none 0 0] 29)) = w0 at *
      refine HC.out.mono ?_
      rintro e w0' ⟨rfl, hkc⟩
      have h0 := hkc.blk h0 (fun h => h)
      have h1 := hkc.blk h1 (fun h => h)
      have h2 := hkc.blk h2 (fun h => h)
      have hk0 := hk0.trans hkc
      have HA := Lib.hid (HA.out w0'.drew hk0.drew)
      clear HC hkc
      go_wp2_with fail
      refine wp_region_takesC (fun w' => w'.heap[w.heap.size]? = some (.cells #[.bool bx, .slice A n c] 29 (0, 0)) ∧ w'.heap[w.heap.size + 1]? = some (.cells #[.bool by0, .slice B n' d] 29 (0, 0))) (by kernel_rfl) ?_
      go_simp
      refine wpC_take 0 (v := .pointer (some ⟨w.heap.size + 1, 0, none⟩)) (by kernel_rfl) rfl rfl (fun _ _ _ h => h) (fun w' hC => by go_simp) ?_
      go_simp
      refine wpC_take 2 (v := .pointer (some ⟨w.heap.size + 1, 1, none⟩)) (by kernel_rfl) rfl rfl (fun _ _ _ h => h) (fun w' hC => by go_simp) ?_
      go_simp
      refine wpC_take 4 (v := .pointer (some ⟨w.heap.size, 1, none⟩)) (by kernel_rfl) rfl rfl (fun _ _ _ h => h) (fun w' hC => by go_simp) ?_
      go_simp
      refine wpC_take 1 (v := .bool by0) (by kernel_rfl) rfl rfl (fun _ _ _ h => h) (fun w' hC => by have hc := blk_cell hC.2; go_simp) ?_
      go_simp
      refine wpC_take 3 (v := .slice B n' d) (by kernel_rfl) rfl rfl (fun _ _ _ h => h) (fun w' hC => by have hc := blk_cell hC.2; go_simp) ?_
      go_simp
      refine wpC_take 5 (v := .slice A n c) (by kernel_rfl) rfl rfl (fun _ _ _ h => h) (fun w' hC => by have hc := blk_cell hC.1; go_simp) ?_
      go_simp
      refine wpC_only 6 (by kernel_rfl) ⟨blk_drew h0, blk_drew h1⟩ rfl ?_
      go_wp2_with fail
      refine HA.out.mono ?_
      rintro e w1 ⟨x1, rfl, hmag, hk1⟩
      have hmag' := hmag
      obtain ⟨A1, c1, rfl, _, _⟩ := hmag'
      have HW0 := wide20 by0 _ (digs (y.natAbs - x.natAbs)) w1 hmag HD.out.2 (by omega)
      rw [HD.out.1] at HW0
      clear hmag
      have h02 := hk1.blk (blk_drew h0) (fun h => h)
      have h12 := hk1.blk (blk_drew h1) (fun h => h)
      have h22 := hk1.blk (blk_drew h2) (fun h => h)
      have hka : Keep (fun _ => False) w w1 := hk0.drew.trans hk1
      have HW := Lib.hid HW0
      clear HW0 HA h0 h1 h2 hk0 hk1
      go_wp2_with fail
      refine wpC_only 7 (by kernel_rfl) ⟨h02, h12⟩ rfl ?_
      go_wp2_with fail
      refine HW.out.mono ?_
      rintro e w2 ⟨v2, rfl, hv2, hk2⟩
      rw [HX.out] at hv2
      obtain ⟨m2, rfl, hm2⟩ := hv2
      have hm2' := hm2
      obtain ⟨A2, c2, rfl, _, _⟩ := hm2'
      have h03 := hk2.blk h02 (fun h => h)
      have h13 := hk2.blk h12 (fun h => h)
      have h23 := hk2.blk h22 (fun h => h)
      have hc2 := blk_cell h23
      have hf2 := blk_frozen h23
      obtain ⟨hl1, hl2, hl3⟩ := wide_laid h23 hm2 (decide (x + y < 0))
      have hkE : Keep (fun _ => False) w ((w2.setCell ⟨w.heap.size + 2, 0, none⟩ (.bool (decide (x + y < 0)))).setCell ⟨w.heap.size + 2, 1, none⟩ (.slice A2 (digs (x + y).natAbs).length c2)) := (hka.trans hk2).step hl2 (fun b hb => .inr (by have h' : b = w.heap.size + 2 := hb; omega))
      have HL := Lib.hid (And.intro hl1 hkE)
      clear HW hka hk2 h02 h12 h22 hm2 hl1 hkE
      go_wp2_with fail
      refine wpC_only 8 (by kernel_rfl) ⟨h03, h13⟩ rfl ?_
      go_wp2_with fail
      refine wpC_stop (by kernel_rfl) ⟨hl2.blk h03 (by show ¬ w.heap.size = w.heap.size + 2; omega), hl2.blk h13 (by show ¬ w.heap.size + 1 = w.heap.size + 2; omega)⟩ ?_
      go_wp2_with fail
      exact bodyPost_ret (v := .agg #[.bool (decide (x + y < 0)), .slice A2 (digs (x + y).natAbs).length c2]) (by simp [results, Tryz.results26, go_sem, hl3]) rfl ⟨_, rfl, ⟨_, rfl, HL.out.1⟩, HL.out.2⟩
end Go.Proofs.YtamkglgiaiejkaaGreatDoor
