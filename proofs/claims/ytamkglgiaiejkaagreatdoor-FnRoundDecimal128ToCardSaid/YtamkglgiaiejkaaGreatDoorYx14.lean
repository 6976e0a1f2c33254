import Derived.Test.YtamkglgiaiejkaaGreatDoorYx13
/-! The whole number one. -/
namespace Go.Proofs.YtamkglgiaiejkaaGreatDoor
open Go.RowKit

/-- A whole number is laid into a variable. -/
theorem wide_laid {w1 : World} {k : Nat} {b0 : Bool} {X : Option Addr} {n0 c0 : Nat} (hb : w1.heap[k]? = some (.cells #[.bool b0, .slice X n0 c0] 29 (0, 0))) {A : Option Addr} {n c : Nat} {l : List Nat} (hm : MagV w1 (.slice A n c) l) (b : Bool) :
    MagV ((w1.setCell ⟨k, 0, none⟩ (.bool b)).setCell ⟨k, 1, none⟩ (.slice A n c)) (.slice A n c) l ∧ Keep (fun b => b = k) w1 ((w1.setCell ⟨k, 0, none⟩ (.bool b)).setCell ⟨k, 1, none⟩ (.slice A n c)) ∧
    ∀ i, ((w1.setCell ⟨k, 0, none⟩ (.bool b)).setCell ⟨k, 1, none⟩ (.slice A n c)).cell? ⟨k, i, none⟩ = #[Value.bool b, Value.slice A n c][i]? := by
  have hk2 : Keep (fun b => b = k) w1 ((w1.setCell ⟨k, 0, none⟩ (.bool b)).setCell ⟨k, 1, none⟩ (.slice A n c)) := ((Keep.refl (fun b => b = k) w1).setCell (p := ⟨k, 0, none⟩) (.inl rfl) _).setCell (p := ⟨k, 1, none⟩) (.inl rfl) _
  exact ⟨hm.off (blk_cell hb) (wide_cells _ _ _ _) hk2, hk2, blk_cell (blk_set (blk_set hb 0 (.bool b)) 1 (.slice A n c))⟩
set_option maxRecDepth 100000 in
set_option maxHeartbeats 4000000 in
theorem wideOne25 (w : World) : Calls Tryz.prog 25 #[.int .i64 1] w fun e w' => ∃ v, e = .returned v ∧ WV w' v 1 ∧ Keep (fun _ => False) w w' := by
  have hk0 : Keep (fun _ => False) w ((w.alloc (.cells #[.bool false, .slice none 0 0] 29)).alloc (.cells #[.int .u32 1, .int .u32 0] 65)) := ((Keep.refl _ w).alloc _).alloc _
  have hb0 := blk_alloc (blk_new w (.cells #[.bool false, .slice none 0 0] 29)) (.cells #[.int .u32 1, .int .u32 0] 65)
  have hb1 : ((w.alloc (.cells #[.bool false, .slice none 0 0] 29)).alloc (.cells #[.int .u32 1, .int .u32 0] 65)).heap[w.heap.size + 1]? = some (.cells #[.int .u32 1, .int .u32 0] 65 (0, 0)) := by have := blk_new (w.alloc (.cells #[.bool false, .slice none 0 0] 29)) (.cells #[.int .u32 1, .int .u32 0] 65); simpa using this
  have hm : MagV ((w.alloc (.cells #[.bool false, .slice none 0 0] 29)).alloc (.cells #[.int .u32 1, .int .u32 0] 65)) (.slice (some ⟨w.heap.size + 1, 0, none⟩) 2 2) [1, 0] := ⟨_, 2, rfl, Nat.le_refl _, fun _ => ⟨w.heap.size + 1, 0, rfl, fun j hj => by
    rw [blk_cell hb1]
    match j, hj with
    | 0, _ => rfl
    | 1, _ => rfl⟩⟩
  have HW := Lib.hid (wide20 false _ [1, 0] _ hm (by intro d hd; simp at hd; omega) (by decide))
  clear hm
  go_enter Tryz.func25, Tryz.ntmps25
  go_wp2_with fail
  generalize ((w.alloc (.cells #[.bool false, .slice none 0 0] 29)).alloc (.cells #[.int .u32 1, .int .u32 0] 65)) = w0 at *
  refine HW.out.mono ?_
  rintro e w1 ⟨v', rfl, hv', hk1⟩
  have hb0' := hk1.blk hb0 (fun h => h)
  have hcc := blk_cell hb0'
  have hff := blk_frozen hb0'
  have hv' : WV w1 v' 1 := hv'
  obtain ⟨m', rfl, hm'⟩ := hv'
  have hm' : MagV w1 m' (digs 1) := hm'
  have HV := Lib.hid hm'
  have hm'' := hm'
  obtain ⟨A', c', rfl, _, _⟩ := hm''
  clear hm' HW
  go_wp2_with fail
  obtain ⟨hm2, hk2, hc2⟩ := wide_laid hb0' HV.out false
  exact bodyPost_ret (v := .agg #[.bool false, .slice A' (digs 1).length c']) (by simp [results, Tryz.results25, go_sem, hc2]) rfl ⟨_, rfl, ⟨_, rfl, hm2⟩, (hk0.trans hk1).step hk2 (fun b hb => .inr (by have h' : b = w.heap.size := hb; omega))⟩
end Go.Proofs.YtamkglgiaiejkaaGreatDoor
