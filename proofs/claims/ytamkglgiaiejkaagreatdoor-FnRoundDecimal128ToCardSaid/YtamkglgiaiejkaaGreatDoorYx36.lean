import Derived.Test.YtamkglgiaiejkaaGreatDoorYx26
/-! Powers of two; decimal digits. -/
namespace Go.Proofs.YtamkglgiaiejkaaGreatDoor
open Go.RowKit

theorem OD.alloc (w : World) (cs : Array Value) (l : List Nat) (h : cs.toList = nums .u32 (natsI l)) (h9 : l.length ≤ 1000000) : OD (w.alloc (.cells cs 65)) w.heap.size (.slice (some ⟨w.heap.size, 0, none⟩) l.length l.length) l := by
  have hs : cs.size = l.length := by
    have := congrArg List.length h
    simpa [nums, natsI] using this
  refine ⟨by simp [nums, natsI], .inr ⟨w.heap.size, l.length, cs, rfl, Nat.le_refl _, blk_new w _, Nat.le_refl _, by simp only [maxLen]; omega, by rw [hs, Nat.mul_one], ?_⟩⟩
  rw [Nat.mul_one, h, List.take_of_length_le (by simp [nums, natsI])]
set_option maxRecDepth 100000 in
set_option maxHeartbeats 4000000 in
theorem two60_127 (w : World) : Calls Tryz.prog 60 #[.int .i64 127] w fun e w' => ∃ v, e = .returned v ∧ WV w' v 170141183460469231731687303715884105728 ∧ Keep (fun _ => False) w w' := by
  have hb0 := blk_new w (.cells #[.bool false, .slice none 0 0] 29)
  have hk0 : Keep (fun _ => False) w (w.alloc (.cells #[.bool false, .slice none 0 0] 29)) := (Keep.refl _ w).alloc _
  have hod := OD.alloc (w.alloc (.cells #[.bool false, .slice none 0 0] 29)) ((madeCells #[.int .u32 0] 4).setIfInBounds 3 (.int .u32 2147483648)) [0, 0, 0, 2147483648] (by rw [Array.toList_setIfInBounds, made_list]; rfl) (by decide)
  have hb1 := blk_alloc hb0 (.cells ((madeCells #[.int .u32 0] 4).setIfInBounds 3 (.int .u32 2147483648)) 65)
  have hk1 := hk0.alloc (.cells ((madeCells #[.int .u32 0] 4).setIfInBounds 3 (.int .u32 2147483648)) 65)
  have hsz : (w.alloc (.cells #[.bool false, .slice none 0 0] 29)).heap.size = w.heap.size + 1 := by simp
  have hmk : (Instr.makeSlice 27 (.int .i64 4) (.int .i64 4)).run Tryz.prog (w.alloc (.cells #[.bool false, .slice none 0 0] 29)) = .ok (.slice (some ⟨w.heap.size + 1, 0, none⟩) 4 4) ((w.alloc (.cells #[.bool false, .slice none 0 0] 29)).alloc (.cells (madeCells #[.int .u32 0] 4) 65)) := by
    have := make_small (t := 27) (e := 65) (by kernel_rfl) info65 rfl (by omega) 4 (by omega) (w.alloc (.cells #[.bool false, .slice none 0 0] 29))
    rw [hsz] at this
    exact this
  rw [hsz] at hod
  have HW := Lib.hid (wide20 false _ _ _ hod.mag (by intro d hd; simp at hd; omega) (by decide))
  have HK := Lib.hid (And.intro hb1 hk1)
  clear hb0 hk0 hb1 hk1 hod
  have hmc : (madeCells #[Value.int .u32 0] 4)[3]? = some (.int .u32 0) := by rw [← Array.getElem?_toList, made_list]; rfl
  obtain ⟨Z, hZ⟩ : ∃ Z : Int, Z = 170141183460469231731687303715884105728 := ⟨_, rfl⟩
  rw [← hZ]
  have HZ := Lib.hid (show sgn false (val [0, 0, 0, 2147483648]) = Z by rw [hZ]; rfl)
  clear hZ
  go_enter Tryz.func60, Tryz.ntmps60
  go_wp2_with fail
  generalize (w.alloc (.cells #[.bool false, .slice none 0 0] 29)).alloc (.cells ((madeCells #[.int .u32 0] 4).setIfInBounds 3 (.int .u32 2147483648)) 65) = w1 at *
  refine HW.out.mono ?_
  rintro e w2 ⟨v2, rfl, hv2, hk3⟩
  rw [HZ.out] at hv2
  obtain ⟨m2, rfl, hm2⟩ := hv2
  have hm2' := hm2
  obtain ⟨A2, c2, rfl, _, _⟩ := hm2'
  have hb2 := HK.out.1
  have hk2 := HK.out.2
  clear hmk
  have hb3 := hk3.blk hb2 (fun h => h)
  have hc2 := blk_cell hb3
  have hf2 := blk_frozen hb3
  obtain ⟨hl1, hl2, hl3⟩ := wide_laid hb3 hm2 (decide (Z < 0))
  have hkE := (hk2.trans hk3).step hl2 (fun b hb => .inr (by have h' : b = w.heap.size := hb; omega))
  have HL := Lib.hid (And.intro hl1 hkE)
  clear HW hk2 hk3 hb2 hm2 hl1 hkE
  go_wp2_with fail
  exact bodyPost_ret (v := .agg #[.bool (decide (Z < 0)), .slice A2 (digs Z.natAbs).length c2]) (by simp [results, Tryz.results60, go_sem, hl3]) rfl ⟨_, rfl, ⟨_, rfl, HL.out.1⟩, HL.out.2⟩
set_option maxRecDepth 100000 in
set_option maxHeartbeats 4000000 in
theorem two60_128 (w : World) : Calls Tryz.prog 60 #[.int .i64 128] w fun e w' => ∃ v, e = .returned v ∧ WV w' v 340282366920938463463374607431768211456 ∧ Keep (fun _ => False) w w' := by
  have hb0 := blk_new w (.cells #[.bool false, .slice none 0 0] 29)
  have hk0 : Keep (fun _ => False) w (w.alloc (.cells #[.bool false, .slice none 0 0] 29)) := (Keep.refl _ w).alloc _
  have hod := OD.alloc (w.alloc (.cells #[.bool false, .slice none 0 0] 29)) ((madeCells #[.int .u32 0] 5).setIfInBounds 4 (.int .u32 1)) [0, 0, 0, 0, 1] (by rw [Array.toList_setIfInBounds, made_list]; rfl) (by decide)
  have hb1 := blk_alloc hb0 (.cells ((madeCells #[.int .u32 0] 5).setIfInBounds 4 (.int .u32 1)) 65)
  have hk1 := hk0.alloc (.cells ((madeCells #[.int .u32 0] 5).setIfInBounds 4 (.int .u32 1)) 65)
  have hsz : (w.alloc (.cells #[.bool false, .slice none 0 0] 29)).heap.size = w.heap.size + 1 := by simp
  have hmk : (Instr.makeSlice 27 (.int .i64 5) (.int .i64 5)).run Tryz.prog (w.alloc (.cells #[.bool false, .slice none 0 0] 29)) = .ok (.slice (some ⟨w.heap.size + 1, 0, none⟩) 5 5) ((w.alloc (.cells #[.bool false, .slice none 0 0] 29)).alloc (.cells (madeCells #[.int .u32 0] 5) 65)) := by
    have := make_small (t := 27) (e := 65) (by kernel_rfl) info65 rfl (by omega) 5 (by omega) (w.alloc (.cells #[.bool false, .slice none 0 0] 29))
    rw [hsz] at this
    exact this
  rw [hsz] at hod
  have HW := Lib.hid (wide20 false _ _ _ hod.mag (by intro d hd; simp at hd; omega) (by decide))
  have HK := Lib.hid (And.intro hb1 hk1)
  clear hb0 hk0 hb1 hk1 hod
  have hmc : (madeCells #[Value.int .u32 0] 5)[4]? = some (.int .u32 0) := by rw [← Array.getElem?_toList, made_list]; rfl
  obtain ⟨Z, hZ⟩ : ∃ Z : Int, Z = 340282366920938463463374607431768211456 := ⟨_, rfl⟩
  rw [← hZ]
  have HZ := Lib.hid (show sgn false (val [0, 0, 0, 0, 1]) = Z by rw [hZ]; rfl)
  clear hZ
  go_enter Tryz.func60, Tryz.ntmps60
  go_wp2_with fail
  generalize (w.alloc (.cells #[.bool false, .slice none 0 0] 29)).alloc (.cells ((madeCells #[.int .u32 0] 5).setIfInBounds 4 (.int .u32 1)) 65) = w1 at *
  refine HW.out.mono ?_
  rintro e w2 ⟨v2, rfl, hv2, hk3⟩
  rw [HZ.out] at hv2
  obtain ⟨m2, rfl, hm2⟩ := hv2
  have hm2' := hm2
  obtain ⟨A2, c2, rfl, _, _⟩ := hm2'
  have hb2 := HK.out.1
  have hk2 := HK.out.2
  clear hmk
  have hb3 := hk3.blk hb2 (fun h => h)
  have hc2 := blk_cell hb3
  have hf2 := blk_frozen hb3
  obtain ⟨hl1, hl2, hl3⟩ := wide_laid hb3 hm2 (decide (Z < 0))
  have hkE := (hk2.trans hk3).step hl2 (fun b hb => .inr (by have h' : b = w.heap.size := hb; omega))
  have HL := Lib.hid (And.intro hl1 hkE)
  clear HW hk2 hk3 hb2 hm2 hl1 hkE
  go_wp2_with fail
  exact bodyPost_ret (v := .agg #[.bool (decide (Z < 0)), .slice A2 (digs Z.natAbs).length c2]) (by simp [results, Tryz.results60, go_sem, hl3]) rfl ⟨_, rfl, ⟨_, rfl, HL.out.1⟩, HL.out.2⟩
end Go.Proofs.YtamkglgiaiejkaaGreatDoor
