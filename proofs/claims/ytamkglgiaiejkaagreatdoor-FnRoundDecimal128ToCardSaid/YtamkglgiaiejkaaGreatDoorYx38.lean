import Derived.Test.YtamkglgiaiejkaaGreatDoorYx16
import Derived.Test.YtamkglgiaiejkaaGreatDoorYx28
/-! Whole numbers are taken off; a number between two others. -/
namespace Go.Proofs.YtamkglgiaiejkaaGreatDoor
open Go.RowKit

set_option maxRecDepth 100000 in
set_option maxHeartbeats 4000000 in
theorem upper28 (mode half : Int) (even neg : Bool) (w : World) (hm : 0 ≤ mode ∧ mode ≤ 9) (hh : half = -1 ∨ half = 0 ∨ half = 1) : Calls Tryz.prog 28 #[.int .i64 mode, .int .i64 half, .bool even, .bool neg] w fun e w' => e = .returned (.bool (upperB mode half even neg)) ∧ w' = w := by
  have hm : mode = 0 ∨ mode = 1 ∨ mode = 2 ∨ mode = 3 ∨ mode = 4 ∨ mode = 5 ∨ mode = 6 ∨ mode = 7 ∨ mode = 8 ∨ mode = 9 := by omega
  rcases hm with rfl | rfl | rfl | rfl | rfl | rfl | rfl | rfl | rfl | rfl <;> rcases hh with rfl | rfl | rfl <;> (go_enter Tryz.func28, Tryz.ntmps28; go_wp2_with fail; go_ret; exact ⟨rfl, rfl⟩)

set_option maxRecDepth 100000 in
set_option maxHeartbeats 4000000 in
theorem wideSub24 (u v : Value) (x y : Int) (w : World) (hu : WV w u x) (hv : WV w v y) (hx9 : (digs x.natAbs).length ≤ 10000) (hy9 : (digs y.natAbs).length ≤ 10000) : Calls Tryz.prog 24 #[u, v] w fun e w' => ∃ r, e = .returned r ∧ WV w' r (x - y) ∧ Keep (fun _ => False) w w' := by
  have hu0 := hu
  have hv0 := hv
  obtain ⟨m, rfl, hm⟩ := hu
  obtain ⟨m', rfl, hm'⟩ := hv
  obtain ⟨A, c, rfl, _, _⟩ := hm
  obtain ⟨B, d, rfl, _, _⟩ := hm'
  obtain ⟨h0, h1, h2, hk0⟩ := two_boxes w #[.bool (decide (x < 0)), .slice A (digs x.natAbs).length c] #[.bool (decide (y < 0)), .slice B (digs y.natAbs).length d] #[.bool false, .slice none 0 0]
  have HN := Lib.hid (negated36 _ y (((w.alloc (.cells #[.bool (decide (x < 0)), .slice A (digs x.natAbs).length c] 29)).alloc (.cells #[.bool (decide (y < 0)), .slice B (digs y.natAbs).length d] 29)).alloc (.cells #[.bool false, .slice none 0 0] 29)).drew (hv0.keep hk0.drew (fun _ _ h => h)) (by omega))
  have HU := Lib.hid hu0
  clear hu0 hv0
  obtain ⟨z, hz⟩ : ∃ z, z = -y := ⟨_, rfl⟩
  obtain ⟨q, hq⟩ : ∃ q, q = x - y := ⟨_, rfl⟩
  rw [← hz] at HN
  rw [← hq]
  have HZ := Lib.hid (And.intro hz (show x + z = q by omega))
  have hz9 : (digs z.natAbs).length ≤ 10000 := by rw [hz, Int.natAbs_neg]; exact hy9
  clear hz hq
  go_enter Tryz.func24, Tryz.ntmps24
  go_wp2_with fail
  generalize (((w.alloc (.cells #[.bool (decide (x < 0)), .slice A (digs x.natAbs).length c] 29)).alloc (.cells #[.bool (decide (y < 0)), .slice B (digs y.natAbs).length d] 29)).alloc (.cells #[.bool false, .slice none 0 0] 29)) = w0 at *
  refine wp_region_takesC (fun w' => w'.heap[w.heap.size]? = some (.cells #[.bool (decide (x < 0)), .slice A (digs x.natAbs).length c] 29 (0, 0)) ∧ w'.heap[w.heap.size + 1]? = some (.cells #[.bool (decide (y < 0)), .slice B (digs y.natAbs).length d] 29 (0, 0))) (by kernel_rfl) ?_
  go_simp
  refine wpC_take 0 (v := .agg #[.bool (decide (x < 0)), .slice A (digs x.natAbs).length c]) (by kernel_rfl) rfl rfl (fun _ _ _ h => h) (fun w' hC => by have hc := blk_cell hC.1; go_simp) ?_
  go_simp
  refine wpC_take 1 (v := .agg #[.bool (decide (y < 0)), .slice B (digs y.natAbs).length d]) (by kernel_rfl) rfl rfl (fun _ _ _ h => h) (fun w' hC => by have hc := blk_cell hC.2; go_simp) ?_
  go_simp
  refine wpC_only 2 (by kernel_rfl) ⟨blk_drew h0, blk_drew h1⟩ rfl ?_
  go_wp2_with fail
  refine HN.out.mono ?_
  rintro e w1 ⟨v1, rfl, hv1, hk1⟩
  have h02 := hk1.blk (blk_drew h0) (fun h => h)
  have h12 := hk1.blk (blk_drew h1) (fun h => h)
  have h22 := hk1.blk (blk_drew h2) (fun h => h)
  have hka : Keep (fun _ => False) w w1 := hk0.drew.trans hk1
  have HW := Lib.hid (wideAdd26 _ _ x z w1 (HU.out.keep hka (fun _ _ h => h)) hv1 hx9 hz9)
  obtain ⟨m1, rfl, hm1⟩ := hv1
  obtain ⟨A1, c1, rfl, _, _⟩ := hm1
  clear HN h0 h1 h2 hk0 hk1
  go_wp2_with fail
  refine wpC_only 3 (by kernel_rfl) ⟨h02, h12⟩ rfl ?_
  go_wp2_with fail
  refine HW.out.mono ?_
  rintro e w2 ⟨v2, rfl, hv2, hk2⟩
  rw [HZ.out.2] at hv2
  obtain ⟨m2, rfl, hm2⟩ := hv2
  have hm2' := hm2
  obtain ⟨A2, c2, rfl, _, _⟩ := hm2'
  have h03 := hk2.blk h02 (fun h => h)
  have h13 := hk2.blk h12 (fun h => h)
  have h23 := hk2.blk h22 (fun h => h)
  have hc2 := blk_cell h23
  have hf2 := blk_frozen h23
  obtain ⟨hl1, hl2, hl3⟩ := wide_laid h23 hm2 (decide (q < 0))
  have hkE : Keep (fun _ => False) w ((w2.setCell ⟨w.heap.size + 2, 0, none⟩ (.bool (decide (q < 0)))).setCell ⟨w.heap.size + 2, 1, none⟩ (.slice A2 (digs q.natAbs).length c2)) := (hka.trans hk2).step hl2 (fun b hb => .inr (by have h' : b = w.heap.size + 2 := hb; omega))
  have HL := Lib.hid (And.intro hl1 hkE)
  clear HW hka hk2 h02 h12 h22 hm2 hl1 hkE
  go_wp2_with fail
  refine wpC_only 4 (by kernel_rfl) ⟨h03, h13⟩ rfl ?_
  go_wp2_with fail
  refine wpC_stop (by kernel_rfl) ⟨hl2.blk h03 (by show ¬ w.heap.size = w.heap.size + 2; omega), hl2.blk h13 (by show ¬ w.heap.size + 1 = w.heap.size + 2; omega)⟩ ?_
  go_wp2_with fail
  exact bodyPost_ret (v := .agg #[.bool (decide (q < 0)), .slice A2 (digs q.natAbs).length c2]) (by simp [results, Tryz.results24, go_sem, hl3]) rfl ⟨_, rfl, ⟨_, rfl, HL.out.1⟩, HL.out.2⟩
end Go.Proofs.YtamkglgiaiejkaaGreatDoor
