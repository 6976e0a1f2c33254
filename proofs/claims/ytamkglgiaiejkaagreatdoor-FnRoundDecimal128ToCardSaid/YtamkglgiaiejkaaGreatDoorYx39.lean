import Derived.Test.YtamkglgiaiejkaaGreatDoorYx37
import Derived.Test.YtamkglgiaiejkaaGreatDoorYx38
/-! Words in two's complement are read. -/
namespace Go.Proofs.YtamkglgiaiejkaaGreatDoor
open Go.RowKit

/-- The number that two words are. -/
def toI (lo hi : Nat) : Int := if hi < 9223372036854775808 then lo + 18446744073709551616 * hi else lo + 18446744073709551616 * hi - 340282366920938463463374607431768211456
/-- Two words that lie where a slice says. -/
def Words2 (w : World) (v : Value) (lo hi : Nat) : Prop := ∃ g o c, v = .slice (some ⟨g, o, none⟩) 2 c ∧ w.cell? ⟨g, o, none⟩ = some (.int .u64 lo) ∧ w.cell? ⟨g, o + 1, none⟩ = some (.int .u64 hi)
theorem Words2.keep {w w' : World} {v : Value} {lo hi : Nat} (h : Words2 w v lo hi) (hk : Keep (fun _ => False) w w') : Words2 w' v lo hi := by
  obtain ⟨g, o, c, rfl, h1, h2⟩ := h
  exact ⟨g, o, c, rfl, hk.cell h1 (fun h => h), hk.cell h2 (fun h => h)⟩
def dg (l : List Nat) : List Nat := l.flatMap fun x => [x % 4294967296, x / 4294967296]
theorem dg_two (lo hi : Nat) : val (dg [lo, hi]) = lo + 18446744073709551616 * hi := by
  simp [dg, val]
  omega
theorem dg_digs {lo hi : Nat} (h1 : lo < 18446744073709551616) (h2 : hi < 18446744073709551616) : Digs (dg [lo, hi]) := by
  intro d hd
  simp [dg] at hd
  omega
set_option maxRecDepth 100000 in
set_option maxHeartbeats 4000000 in
theorem fromWords32 (v : Value) (lo hi : Nat) (w : World) (hv : Words2 w v lo hi) (hlo : lo < 18446744073709551616) (hhi : hi < 18446744073709551616) : Calls Tryz.prog 32 #[v] w fun e w' => ∃ r, e = .returned r ∧ WV w' r (toI lo hi) ∧ Keep (fun _ => False) w w' := by
  obtain ⟨i65, hi65, hi65z⟩ := Option.map_eq_some_iff.1 info65
  simp only [Prod.mk.injEq] at hi65z
  obtain ⟨hz1, hz2, hz3⟩ := hi65z
  obtain ⟨g, o, c, rfl, hc1, hc2⟩ := hv
  have hb0 := blk_new w (.cells #[.bool false, .slice none 0 0] 29)
  have hk0 : Keep (fun _ => False) w (w.alloc (.cells #[.bool false, .slice none 0 0] 29)) := (Keep.refl _ w).alloc _
  go_enter Tryz.func32, Tryz.ntmps32
  go_wp2_with fail
  obtain ⟨w0, hw0⟩ : ∃ w0, w0 = w.alloc (.cells #[.bool false, .slice none 0 0] 29) := ⟨_, rfl⟩
  rw [← hw0] at hb0 hk0 ⊢
  have hc1 := hk0.cell hc1 (fun h => h)
  have hc2 := hk0.cell hc2 (fun h => h)
  clear hw0
  have HK := Lib.hid (And.intro hb0 hk0)
  clear hb0 hk0
  go_loopw [3, 9] (fun m i wr => ∃ k : Nat, k ≤ 2 ∧ i = .int .i64 k ∧ OD wr w0.heap.size m (dg ([lo, hi].take k)) ∧ Keep (fun _ => False) w0 wr) (fun _ i _ => 2 - (intOf i).toNat)
  case atStart => exact ⟨0, by omega, rfl, OD.nil _ _, Keep.refl _ _⟩
  case round =>
    obtain ⟨k, hk2, rfl, hod, hkr⟩ := hrel
    have HH := Lib.hid hod
    by_cases hend : k < 2
    · obtain ⟨x, hx⟩ : ∃ x, x = [lo, hi].getD k 0 := ⟨_, rfl⟩
      have hx9 : x < 18446744073709551616 := by
        rw [hx]
        match k, hend with
        | 0, _ => exact hlo
        | 1, _ => exact hhi
      have hcell : wr.cell? ⟨g, o + k, none⟩ = some (.int .u64 x) := by
        rw [hx]
        match k, hend with
        | 0, _ => exact hkr.cell hc1 (fun h => h)
        | 1, _ => exact hkr.cell hc2 (fun h => h)
      have hkk : (k : Int) < 2 := by omega
      have hk0 : (0 : Int) ≤ (k : Int) := by omega
      obtain ⟨a, ha⟩ : ∃ a, a = x % 4294967296 := ⟨_, rfl⟩
      obtain ⟨b, hb⟩ : ∃ b, b = x / 4294967296 := ⟨_, rfl⟩
      have w1 : IntKind.u32.wrap (x : Int) = (a : Int) := by rw [IntKind.wrap_u32]; omega
      have w2 : (x : Int) / 4294967296 = (b : Int) := by omega
      have w3 : IntKind.u32.wrap (b : Int) = (b : Int) := by rw [IntKind.wrap_u32]; omega
      have hA : Keep (fun _ => False) wr (wr.alloc (.cells #[.int .u32 a, .int .u32 b] 65)) := (Keep.refl _ wr).alloc _
      obtain ⟨n, hn⟩ : ∃ n, n = (dg ([lo, hi].take k)).length := ⟨_, rfl⟩
      have hn9 : n ≤ 4 := by
        rw [hn]
        match k, hend with
        | 0, _ => simp [dg]
        | 1, _ => simp [dg]
      have hown1 : (wr.alloc (.cells #[.int .u32 a, .int .u32 b] 65)).ownsRow w0.heap.size 65 1 u3 n (nums .u32 (natsI (dg ([lo, hi].take k)))) := by rw [hn]; exact hod.keep hA (fun _ _ h => h)
      have hdg : dg ([lo, hi].take (k + 1)) = dg ([lo, hi].take k) ++ [a, b] := by
        rw [ha, hb, hx]
        match k, hend with
        | 0, _ => rfl
        | 1, _ => rfl
      have HX := Lib.hid (And.intro hdg (And.intro hn hod))
      have hsz := hkr.size
      clear hdg hn hx ha hb hod
      go_wp2_with (first | (at_builtin; refine wpList_append_own_at _ rfl _ _ _ rfl w0.heap.size 65 i65 (.int .u32 0) 1 4 (by kernel_rfl) hi65 hz1 hz2 hz3 rfl (by omega) u3 n (nums .u32 (natsI (dg ([lo, hi].take k)))) rfl hown1 ⟨wr.heap.size, 0, none⟩ 2 2 [.int .u32 a, .int .u32 b] rfl rfl (World.news_of_block (cs := #[.int .u32 a, .int .u32 b]) (t := 65) (fr := (0, 0)) (blk_new wr _)) (by simp [Value.oneCell']) (by simp only [maxLen]; omega) (by omega) (by simp; omega) ?_))
      intro v' w2' hown2 hgrow _ hat2
      have hkf := own_after hkr hA HX.out.2.2 (Nat.le_refl _) hgrow
      have hf : OD w2' w0.heap.size v' (dg ([lo, hi].take (k + 1))) := by
        rw [HX.out.1]
        exact OD.snoc (m := [a, b]) (n := 2) (by rw [← HX.out.2.1]; exact hown2) rfl
      have HF := Lib.hid (And.intro hf hkf)
      clear hf hkf hown1 hown2 hgrow hat2 hA
      go_wp2_with fail
      go_roundw
      case rel => exact ⟨k + 1, by omega, by go_num, HF.out.1, HF.out.2⟩
      case measure => simp [intOf]; omega
    · obtain rfl : k = 2 := by omega
      have hod2 : OD wr w0.heap.size u3 (dg [lo, hi]) := hod
      have hm := hod2.mag
      have hm' := hm
      obtain ⟨A, cc, rfl, _, _⟩ := hm'
      have hl4 : (dg [lo, hi]).length = 4 := rfl
      rw [hl4]
      have HW := wide20 false _ _ wr hm (dg_digs hlo hhi) (by rw [hl4]; decide)
      rw [dg_two, hl4] at HW
      obtain ⟨z, hz⟩ : ∃ z : Int, z = sgn false (lo + 18446744073709551616 * hi) := ⟨_, rfl⟩
      rw [← hz] at HW
      have HW := Lib.hid HW
      have HZ := Lib.hid (show z = (lo : Int) + 18446744073709551616 * hi by rw [hz]; show ((lo + 18446744073709551616 * hi : Nat) : Int) = _; omega)
      have hb1 := hkr.blk HK.out.1 (fun h => h)
      have hkA := HK.out.2.trans hkr
      have hc1' := hkr.cell hc1 (fun h => h)
      have hc2' := hkr.cell hc2 (fun h => h)
      clear hz hod hod2 hm hl4 HH hc1 hc2 hkr
      go_wp2_with fail
      refine HW.out.mono ?_
      rintro e w1 ⟨v1, rfl, hv1, hk1⟩
      have hb2 := hk1.blk hb1 (fun h => h)
      have hc1 := hk1.cell hc1' (fun h => h)
      have hc2 := hk1.cell hc2' (fun h => h)
      obtain ⟨mv, rfl, hmv⟩ := hv1
      have hmv' := hmv
      obtain ⟨A1, c1, rfl, _, _⟩ := hmv'
      have hn1 := blk_new w1 (.cells #[.bool (decide (z < 0)), .slice A1 (digs z.natAbs).length c1] 29)
      have hk2 : Keep (fun _ => False) w1 (w1.alloc (.cells #[.bool (decide (z < 0)), .slice A1 (digs z.natAbs).length c1] 29)) := (Keep.refl _ w1).alloc _
      have hlt := blk_lt hb2
      have hb3 := hk2.blk hb2 (fun h => h)
      have hc1 := hk2.cell hc1 (fun h => h)
      have hc2 := hk2.cell hc2 (fun h => h)
      have hmv2 := hmv.keep hk2 (fun _ _ h => h)
      have hkB := (hkA.trans hk1).trans hk2
      have hz9 : (digs z.natAbs).length ≤ 4 := digs_length_le (by have := HZ.out; omega)
      have HM := Lib.hid (And.intro hmv2 hkB)
      have HM0 := Lib.hid (And.intro hmv (hkA.trans hk1))
      clear HW hmv hmv2 hkA hkB hk2 hb1 hc1' hc2'
      by_cases hneg : hi < 9223372036854775808
      · have hsh : (hi : Int) / 9223372036854775808 = 0 := by omega
        have hres : toI lo hi = z := by unfold toI; rw [if_pos hneg, HZ.out]
        have HR := Lib.hid hres
        clear hneg hres
        have hc3 := blk_cell hb2
        have hf3 := blk_frozen hb2
        obtain ⟨hl1, hl2, _⟩ := wide_laid hb2 HM0.out.1 (decide (z < 0))
        have hkE := (HM0.out.2.step hl2 (fun b hb => .inr (by have h' : b = w.heap.size := hb; omega))).alloc (.cells #[.bool (decide (z < 0)), .slice A1 (digs z.natAbs).length c1] 29)
        have hl4 := hl1.keep ((Keep.refl (fun _ => False) _).alloc (.cells #[.bool (decide (z < 0)), .slice A1 (digs z.natAbs).length c1] 29)) (fun _ _ h => h)
        have hb4 := blk_alloc (blk_set (blk_set hb2 0 (.bool (decide (z < 0)))) 1 (.slice A1 (digs z.natAbs).length c1)) (.cells #[.bool (decide (z < 0)), .slice A1 (digs z.natAbs).length c1] 29)
        have HL := Lib.hid (And.intro hl4 (And.intro hkE hb4))
        clear hl1 hl2 hkE HM hl4 hb4 hn1 hb3
        go_wp2_with fail
        have hl3 := blk_cell HL.out.2.2
        exact bodyPost_ret (v := .agg #[.bool (decide (z < 0)), .slice A1 (digs z.natAbs).length c1]) (by simp [results, Tryz.results32, go_sem, hl3]) rfl ⟨_, rfl, by rw [HR.out]; exact ⟨_, rfl, HL.out.1⟩, HL.out.2.1⟩
      · have hsh : (hi : Int) / 9223372036854775808 = 1 := by omega
        have hres : toI lo hi = z - 340282366920938463463374607431768211456 := by unfold toI; rw [if_neg hneg, HZ.out]
        have HR := Lib.hid hres
        clear hneg hres hb2
        go_wp2_with fail
        obtain ⟨n6, hn6⟩ : ∃ n6, n6 = w1.heap.size := ⟨_, rfl⟩
        rw [← hn6] at hn1 hlt ⊢
        have HM := Lib.hid (And.intro HM.out.1 (And.intro HM.out.2 hn6))
        have hsw := hk1.size
        have hs6 : w.heap.size ≤ n6 := by omega
        clear hn6
        generalize w1.alloc (.cells #[.bool (decide (z < 0)), .slice A1 (digs z.natAbs).length c1] 29) = w2 at *
        have HT := Lib.hid (two60_128 w2.drew)
        refine wp_region_takesD (fun w' => w'.heap[n6]? = some (.cells #[.bool (decide (z < 0)), .slice A1 (digs z.natAbs).length c1] 29 (0, 0))) 6 (by kernel_rfl) ?_
        go_simp
        refine wpD_take 0 (v := .agg #[.bool (decide (z < 0)), .slice A1 (digs z.natAbs).length c1]) (by kernel_rfl) rfl rfl (fun _ _ _ h => h) (fun w' hC => by have hc := blk_cell hC; go_simp) ?_
        go_simp
        refine wpD_only 1 (by kernel_rfl) (fun _ => blk_drew hn1) rfl ?_
        go_wp2_with fail
        refine wpD_only 2 (by kernel_rfl) (fun _ => blk_drew hn1) rfl ?_
        go_wp2_with fail
        refine wpD_only 3 (by kernel_rfl) (fun _ => blk_drew hn1) rfl ?_
        go_wp2_with fail
        refine wpD_only 4 (by kernel_rfl) (fun _ => blk_drew hn1) rfl ?_
        go_wp2_with fail
        refine HT.out.mono ?_
        rintro e w3 ⟨v3, rfl, hv3, hk3⟩
        have hk3 := (Keep.refl (fun _ => False) w2).drew.trans hk3
        have hn3 := hk3.blk hn1 (fun h => h)
        have hb4 := hk3.blk hb3 (fun h => h)
        obtain ⟨p, hp⟩ : ∃ p : Int, p = 340282366920938463463374607431768211456 := ⟨_, rfl⟩
        rw [← hp] at hv3
        have hp9 : (digs p.natAbs).length ≤ 10000 := by rw [hp]; exact Nat.le_trans (digs_length_le (k := 5) (by decide)) (by decide)
        obtain ⟨q, hq⟩ : ∃ q, q = z - p := ⟨_, rfl⟩
        have HS := wideSub24 (.agg #[.bool (decide (z < 0)), .slice A1 (digs z.natAbs).length c1]) v3 z p w3 ⟨_, rfl, HM.out.1.keep hk3 (fun _ _ h => h)⟩ hv3 (by omega) hp9
        rw [← hq] at HS
        have HS := Lib.hid HS
        have HQ := Lib.hid (show toI lo hi = q by rw [HR.out, hq, hp])
        have HK3 := Lib.hid (HM.out.2.1.trans hk3)
        obtain ⟨m3, rfl, hm3⟩ := hv3
        obtain ⟨A3, c3, rfl, _, _⟩ := hm3
        clear HT hk3 hp hq
        generalize decide (p < 0) = bp at *
        generalize (digs p.natAbs).length = np at *
        go_wp2_with fail
        refine wpD_only 5 (by kernel_rfl) (fun _ => hn3) rfl ?_
        go_wp2_with fail
        refine HS.out.mono ?_
        rintro e w4 ⟨v4, rfl, hv4, hk4⟩
        obtain ⟨m4, rfl, hm4⟩ := hv4
        have hm4' := hm4
        obtain ⟨A4, c4, rfl, _, _⟩ := hm4'
        have hn4 := hk4.blk hn3 (fun h => h)
        have hb5 := hk4.blk hb4 (fun h => h)
        have hcn := blk_cell hn4
        have hfn := blk_frozen hn4
        obtain ⟨hl1, hl2, hl3⟩ := wide_laid hn4 hm4 (decide (q < 0))
        have hn5 := blk_set (blk_set hn4 0 (.bool (decide (q < 0)))) 1 (.slice A4 (digs q.natAbs).length c4)
        have hb6 := hl2.blk hb5 (by show ¬ w.heap.size = n6; omega)
        have hkE := (HK3.out.trans hk4).step hl2 (fun b hb => .inr (by have h' : b = n6 := hb; omega))
        have HL := Lib.hid (And.intro hl1 hkE)
        clear hl1 hkE HS hk4 hm4 hl2 hl3 hb5 hb4
        go_wp2_with fail
        refine wpD_only 6 (by kernel_rfl) (fun _ => hn4) rfl ?_
        go_wp2_with fail
        refine wpD_stop (by kernel_rfl) (by kernel_rfl) ?_
        generalize (w4.setCell ⟨n6, 0, none⟩ (.bool (decide (q < 0)))).setCell ⟨n6, 1, none⟩ (.slice A4 (digs q.natAbs).length c4) = w5 at *
        clear hcn hfn hn4 hn3 hn1
        have hcn := blk_cell hn5
        have hc3 := blk_cell hb6
        have hf3 := blk_frozen hb6
        obtain ⟨hl1, hl2, hl3⟩ := wide_laid hb6 HL.out.1 (decide (q < 0))
        have hkE := HL.out.2.step hl2 (fun b hb => .inr (by have h' : b = w.heap.size := hb; omega))
        have HL2 := Lib.hid (And.intro hl1 hkE)
        clear hl1 hkE HL
        go_wp2_with fail
        exact bodyPost_ret (v := .agg #[.bool (decide (q < 0)), .slice A4 (digs q.natAbs).length c4]) (by simp [results, Tryz.results32, go_sem, hl3]) rfl ⟨_, rfl, by rw [HQ.out]; exact ⟨_, rfl, HL2.out.1⟩, HL2.out.2⟩
end Go.Proofs.YtamkglgiaiejkaaGreatDoor
