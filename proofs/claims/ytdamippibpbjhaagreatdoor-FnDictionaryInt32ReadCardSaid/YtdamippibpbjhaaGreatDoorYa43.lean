import Derived.Test.YtdamippibpbjhaaGreatDoorYa42
/-! The law on numbers by a dictionary. -/
namespace Go.Proofs.YtdamippibpbjhaaGreatDoor.I32
open Go.RowKit

set_option maxRecDepth 100000 in
set_option maxHeartbeats 8000000 in
theorem law5_any (A B C : Option Addr) (l : List SVal) (rl : List SRunM) (bs : List Int) (ca cb cc : Nat) (W : Int) (eof : Addr) (w : World) (hA : Vals w A l) (hB : Ints w B bs) (hC : Runs w C rl)
    (hlen : l.length ≤ 140737488351232) (hlenb : bs.length ≤ 140737488351232) (hbb : ∀ t, t < bs.length → -9223372036854775808 ≤ bs.getD t 0 ∧ bs.getD t 0 < 9223372036854775808)
    (heof : w.cell? ⟨2, 0, none⟩ = some (.iface 226 (.pointer (some eof)))) :
    Calls Tryz.prog 5 #[.slice A l.length ca, .int .i64 W, .slice C rl.length cc, .slice B bs.length cb] w fun e w' => e = .returned (.bool true) ∧ Keep (fun _ => False) w w' := by
  by_cases h1 : (2147483647 : Int) < (l.length : Int)
  · go_enter Tryz.func5, Tryz.ntmps5
    go_wp2_with fail
    go_ret
    exact ⟨rfl, Keep.refl _ _⟩
  have HZ := Lib.hid (zzFits5_any C rl cc w hC)
  have HI := Lib.hid (And.intro hA (And.intro hB (And.intro hC (And.intro hbb heof))))
  clear hA hB hC hbb heof
  go_enter Tryz.func5, Tryz.ntmps5
  go_wp2_with fail
  refine HZ.out.mono ?_
  rintro e w1 ⟨⟨b, rfl, _⟩, hk1⟩
  clear HZ
  cases b
  · go_wp2_with fail
    go_ret
    exact ⟨rfl, hk1⟩
  by_cases h2 : (2147483647 : Int) < (bs.length : Int)
  · go_wp2_with fail
    go_ret
    exact ⟨rfl, hk1⟩
  -- the program is awake
  have hnew := blk_new w1 (.cells #[.bool false, .int .u64 5, .string ⟨#[]⟩, .slice none 0 0] 47)
  have hkA : Keep (fun _ => False) w1 (w1.alloc (.cells #[.bool false, .int .u64 5, .string ⟨#[]⟩, .slice none 0 0] 47)) := (Keep.refl _ w1).alloc _
  have hval : Vals (w1.alloc (.cells #[.bool false, .int .u64 5, .string ⟨#[]⟩, .slice none 0 0] 47)) (some ⟨w1.heap.size, 0, none⟩) [ival 5] := fun _ => ⟨w1.heap.size, 0, rfl, fun j hj => by
    obtain rfl : j = 0 := by simpa using hj
    refine ⟨?_, ?_, ?_, ?_⟩ <;> (rw [blk_cell hnew]; rfl)⟩
  have HPA := Lib.hid (plainly_int (some ⟨w1.heap.size, 0, none⟩) [ival 5] 1 (fun _ => intB 5) (w1.alloc (.cells #[.bool false, .int .u64 5, .string ⟨#[]⟩, .slice none 0 0] 47)) hval (by decide) (by decide) (fun _ _ => by decide) (fun j hj w => by
    obtain rfl : j = 0 := by simpa using hj
    exact plainBytes_int (ival 5) ⟨rfl, rfl, by show (5 : Int) = IntKind.u64.wrap (IntKind.i32.wrap 5); decide, rfl⟩ w))
  have hkwA := hk1.trans hkA
  clear hval hnew
  go_wp2_with fail
  refine HPA.out.mono ?_
  rintro e w2 ⟨x, rfl, hob, hk2⟩
  have hkw2 := hkwA.trans hk2
  obtain ⟨g1, c1, rfl, hrow1⟩ := hob.parts (by decide)
  have hlb : (catB (fun _ => intB 5) [ival 5].length).length = 4 := by decide
  simp only [hlb]
  clear HPA hob hlb hkA
  obtain ⟨wa, hwa⟩ : ∃ wa, wa = (w2.alloc (.cells #[.int .u8 1, .int .u8 2, .int .u8 0] 5)).alloc (.cells #[.int .i64 1] 3) := ⟨_, rfl⟩
  have hkB : Keep (fun _ => False) w2 wa := by rw [hwa]; exact ((Keep.refl _ w2).alloc _).alloc _
  have hr2 : Row wa .u8 w2.heap.size 0 [1, 2, 0] := by
    rw [hwa]
    intro j hj
    rw [blk_cell (blk_alloc (blk_new w2 _) _)]
    match j, hj with
    | 0, _ => rfl
    | 1, _ => rfl
    | 2, _ => rfl
  have hr3 : Row wa .i64 (w2.heap.size + 1) 0 [1] := by
    rw [hwa]
    intro j hj
    have hb : ((w2.alloc (.cells #[.int .u8 1, .int .u8 2, .int .u8 0] 5)).alloc (.cells #[.int .i64 1] 3)).heap[w2.heap.size + 1]? = some (.cells #[.int .i64 1] 3 (0, 0)) := by
      have := blk_new (w2.alloc (.cells #[.int .u8 1, .int .u8 2, .int .u8 0] 5)) (.cells #[.int .i64 1] 3)
      simpa using this
    rw [blk_cell hb]
    match j, hj with
    | 0, _ => rfl
  have HAW := Lib.hid (awakeInt g1 c1 w2.heap.size (w2.heap.size + 1) eof wa (hrow1.keep hkB (fun h => h)) hr2 hr3 ((hkw2.trans hkB).cell HI.out.2.2.2.2 (fun h => h)))
  have hkwB := hkw2.trans hkB
  have HWA := Lib.hid hwa
  clear hr2 hr3 hrow1 hwa
  go_wp2_with fail
  rw [← HWA.out]
  refine HAW.out.mono ?_
  rintro e w3 ⟨out, rfl, hout, hk3⟩
  obtain ⟨oa, oc, rfl, _, hva⟩ := hout.vals
  have hkw3 := hkwB.trans hk3
  obtain ⟨go, oo, rfl, hvr⟩ := hva (by decide)
  obtain ⟨y0, y1, y2, y3⟩ := hvr 0 (by decide)
  simp only [Nat.zero_mul, Nat.add_zero] at y0 y1 y2 y3
  have y0 : w3.cell? ⟨go, oo, none⟩ = some (.bool false) := y0
  have y1 : w3.cell? ⟨go, oo + 1, none⟩ = some (.int .u64 5) := y1
  have y2 : w3.cell? ⟨go, oo + 2, none⟩ = some (.string ⟨#[]⟩) := y2
  have y3 : w3.cell? ⟨go, oo + 3, none⟩ = some (.slice none 0 0) := y3
  have HSV := Lib.hid (sameValue_any (ival 5) (ival 5) ⟨rfl, rfl, rfl, rfl, rfl, rfl⟩ w3)
  have hl1 : ((([ival 5] : List SVal).length : Nat) : Int) = 1 := by decide
  simp only [List.length_singleton]
  clear HAW hout hva hvr hk3
  go_wp2_with fail
  refine HSV.out.mono ?_
  rintro e w4 ⟨rfl, hk4⟩
  have hkw4 := hkw3.trans hk4
  clear HSV y0 y1 y2 y3 hl1 hkwA hkw2 hkwB hkw3 HWA
  -- the runs
  have HBI := Lib.hid (byIndex_any C rl cc W w4 (HI.out.2.2.1.keep hkw4 (fun _ _ h => h)))
  go_wp2_with fail
  refine HBI.out.mono ?_
  rintro e w5 ⟨⟨u5, v5, b, rfl, hb0, hb1⟩, hk5⟩
  have hkw5 := hkw4.trans hk5
  clear HBI
  cases b
  · obtain ⟨rfl, rfl⟩ := hb0 rfl
    clear hb0 hb1
    have HIX := Lib.hid (indexed_any A none l [] ca 0 w5 (HI.out.1.keep hkw5 (fun _ _ h => h)) hlen (fun h => absurd h (by decide)) (by decide))
    simp only [List.length_nil] at HIX
    go_wp2_with fail
    refine HIX.out.mono ?_
    rintro e w6 ⟨⟨v6, b6, rfl, _, _⟩, hk6⟩
    go_wp2_with fail
    go_ret
    exact ⟨rfl, hkw5.trans hk6⟩
  obtain ⟨n, rfl, hn1, hn20, h40, hokr, hob5, hou5⟩ := hb1 rfl
  clear hb0 hb1
  obtain ⟨all, hall⟩ : ∃ all, all = allOf (rl.map SRunM.run) := ⟨_, rfl⟩
  have hM : allM rl rl.length = natsI all := by unfold allM; rw [List.take_length, hall]
  rw [hM] at hou5
  have hal : all.length ≤ 300 * rl.length := by
    have := allOf_le n (rl.map SRunM.run) (fun r hr => by
      simp only [List.mem_map] at hr
      obtain ⟨m, hm, rfl⟩ := hr
      obtain ⟨j, hj, rfl⟩ := List.getElem_of_mem hm
      exact hokr j hj)
    rw [hall]
    simpa using this
  obtain ⟨A5, c5, rfl, hc5, hu5⟩ := hou5.uints
  obtain ⟨g5, d5, rfl, hrow5⟩ := hob5.parts (by simp)
  simp only [natsI_length, List.length_cons]
  rw [natsI_length] at hc5
  have HRUN := Lib.hid (And.intro hokr (And.intro hall (And.intro hrow5 h40)))
  have HIX := Lib.hid (indexed_any A A5 l all ca c5 w5 (HI.out.1.keep hkw5 (fun _ _ h => h)) hlen hu5 (by omega))
  have hal9 : all.length ≤ 12000 := by omega
  clear hokr hall hrow5 h40 hou5 hob5 hu5 hM
  go_wp2_with fail
  refine HIX.out.mono ?_
  rintro e w6 ⟨⟨v6, b6, rfl, hb0, hb1⟩, hk6⟩
  have hkw6 := hkw5.trans hk6
  clear HIX
  cases b6
  · obtain rfl := hb0 rfl
    clear hb0 hb1
    go_wp2_with fail
    go_ret
    exact ⟨rfl, hkw6⟩
  obtain ⟨hin, hov6⟩ := hb1 rfl
  clear hb0 hb1
  obtain ⟨A6, c6, rfl, hc6, hv6⟩ := hov6.vals
  simp only [List.length_map]
  rw [List.length_map] at hc6
  have HIN := Lib.hid (And.intro hin (And.intro hov6 hv6))
  clear hin hov6 hv6
  by_cases hall0 : all.length = 0
  · have hal0 : ((all.length : Int) == 0) = true := by simp [hall0]
    go_wp2_with fail
    go_ret
    exact ⟨rfl, hkw6⟩
  have hal0 : ((all.length : Int) == 0) = false := beq_eq_false_iff_ne.2 (by omega)
  by_cases h100 : (100 : Int) < (l.length : Int)
  · go_wp2_with fail
    go_ret
    exact ⟨rfl, hkw6⟩
  -- what is asked of the dictionary
  have HPL := Lib.hid (plainAll_int A l ca w6 (HI.out.1.keep hkw6 (fun _ _ h => h)) hlen)
  go_wp2_with fail
  refine HPL.out.mono ?_
  rintro e w7 ⟨⟨b, rfl, hb⟩, hk7⟩
  have hkw7 := hkw6.trans hk7
  clear HPL
  cases b
  · clear hb
    go_wp2_with fail
    go_ret
    exact ⟨rfl, hkw7⟩
  have HOK := Lib.hid (hb rfl)
  clear hb
  have HPF := Lib.hid (plainFloats_int A l ca w7 (HI.out.1.keep hkw7 (fun _ _ h => h)) hlen)
  go_wp2_with fail
  refine HPF.out.mono ?_
  rintro e w8 ⟨rfl, hk8⟩
  have hkw8 := hkw7.trans hk8
  clear HPF
  -- what batches take
  have hk69 := hk7.trans hk8
  have hBV := batchedValues_any A6 B (all.map (pickV l)) bs c6 cb w8 (HIN.out.2.2.keep hk69 (fun _ _ h => h)) (by rw [List.length_map]; omega) (HI.out.2.1.keep hkw8 (fun _ _ h => h)) HI.out.2.2.2.1
  simp only [List.length_map] at hBV
  have HBV := Lib.hid hBV
  clear hBV hk7 hk8
  go_wp2_with fail
  refine HBV.out.mono ?_
  rintro e w10 ⟨⟨v10, b, rfl, hb0, hb1⟩, hk10⟩
  have hkw10 := hkw8.trans hk10
  clear HBV
  cases b
  · obtain rfl := hb0 rfl
    clear hb0 hb1
    go_wp2_with fail
    go_ret
    exact ⟨rfl, hkw10⟩
  obtain ⟨h50, hbok, hov10⟩ := hb1 rfl
  clear hb0 hb1
  obtain ⟨Wt, hWt⟩ : ∃ Wt, Wt = (readB (List.range all.length) bs).2.map (pickV (all.map (pickV l))) := ⟨_, rfl⟩
  rw [← hWt] at hov10
  obtain ⟨A10, c10, rfl, hc10, hv10⟩ := hov10.vals
  have HW := Lib.hid (And.intro h50 (And.intro hbok (And.intro hv10 hWt)))
  clear h50 hbok hov10 hv10 hWt
  have hl0 : 0 < l.length := by
    have h := HIN.out.1 all[0] (List.getElem_mem (by omega))
    omega
  -- the dictionary is written
  have hcl : (catB (fun j => intB (pickV l j).num) l.length).length = 4 * l.length := catB4_length (fun j => intB (pickV l j).num) (fun j => intB_length _) l.length
  have HPY := Lib.hid (plainly_int A l ca (fun j => intB (pickV l j).num) w10 (HI.out.1.keep hkw10 (fun _ _ h => h)) hlen (by omega) (fun j _ => by rw [intB_length]; omega) (fun j hj w => by
    rw [pickV_get l j hj]
    exact plainBytes_int l[j] (HOK.out j hj) w))
  go_wp2_with fail
  refine HPY.out.mono ?_
  rintro e w11 ⟨x11, rfl, hob11, hk11⟩
  have hkw11 := hkw10.trans hk11
  have hcl0 : 0 < (catB (fun j => intB (pickV l j).num) l.length).length := by omega
  obtain ⟨g11, c11, rfl, hrow11⟩ := hob11.parts hcl0
  have hk5_11 : Keep (fun _ => False) w5 w11 := (((hk6.trans hk69).trans hk10).trans hk11)
  have HRT := Lib.hid (readInt l HOK.out hl0 (by omega) rl n hn1 hn20 HRUN.out.2.2.2 HRUN.out.1 all HRUN.out.2.1 (by omega) HIN.out.1 g11 c11 g5 d5 eof w11 hrow11 (HRUN.out.2.2.1.keep hk5_11 (fun h => h)) (hkw11.cell HI.out.2.2.2.2 (fun h => h)) B cb bs (HI.out.2.1.keep hkw11 (fun _ _ h => h)) HW.out.1 HW.out.2.1)
  clear HPY hob11 hrow11 hcl0 hcl hk5_11
  go_wp2_with fail
  refine HRT.out.mono ?_
  rintro e w12 ⟨x12, rfl, hov12, hk12⟩
  have hkw12 := hkw11.trans hk12
  have hlk := likeInt l HOK.out all HIN.out.1 bs
  have hGl : ((readB all bs).2.map fun x => ival (pickV l x).num).length ≤ 1000000 := by
    have h1 := readB_len all bs
    have h2 := HW.out.2.1 bs.length (Nat.le_refl _)
    rw [List.take_length, ← (readB_map all bs).1] at h2
    rw [List.length_map]
    omega
  rw [← HW.out.2.2.2] at hlk
  obtain ⟨G, hG⟩ : ∃ G, G = (readB all bs).2.map fun x => ival (pickV l x).num := ⟨_, rfl⟩
  rw [← hG] at hlk hov12 hGl
  obtain ⟨A12, c12, rfl, hc12, hv12⟩ := hov12.vals
  have HSS := Lib.hid (sameValues_any A12 A10 G Wt c12 c10 w12 hv12 (HW.out.2.2.1.keep (hk11.trans hk12) (fun _ _ h => h)) hlk.1 hGl hlk.2)
  clear HRT hov12 hv12 hlk hG
  go_wp2_with fail
  refine HSS.out.mono ?_
  rintro e w13 ⟨rfl, hk13⟩
  go_wp2_with fail
  go_ret
  exact ⟨rfl, hkw12.trans hk13⟩
end Go.Proofs.YtdamippibpbjhaaGreatDoor.I32
