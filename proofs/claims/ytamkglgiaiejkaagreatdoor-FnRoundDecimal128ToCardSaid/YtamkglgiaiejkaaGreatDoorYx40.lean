import Derived.Test.YtamkglgiaiejkaaGreatDoorYx39
import Derived.Deep.DeepCutAuto
import Derived.Deep.CutRange
/-! Words in two's complement are written. -/
namespace Go.Proofs.YtamkglgiaiejkaaGreatDoor
open Go.RowKit

/-- The words that are written so far. -/
def cv (y j k t : Nat) : Nat := if j < k then (digs y).getD (2 * j) 0 + 4294967296 * (digs y).getD (2 * j + 1) 0 else if j = k then (if t = 0 then 0 else if t = 1 then (digs y).getD (2 * j) 0 else (digs y).getD (2 * j) 0 + 4294967296 * (digs y).getD (2 * j + 1) 0) else 0
def cvs (y k t : Nat) : Array Value := #[.int .u64 (cv y 0 k t : Nat), .int .u64 (cv y 1 k t : Nat)]
theorem cvs_next (y k : Nat) (hk : k < 2) : cvs y k 2 = cvs y (k + 1) 0 := by
  unfold cvs cv
  match k, hk with
  | 0, _ => simp
  | 1, _ => simp
theorem cvs_no32 (y k t : Nat) : ∀ (i : Nat) (x : Int), (cvs y k t)[i]? ≠ some (Value.int IntKind.u32 x) := by
  intro i x h
  match i with
  | 0 => simp [cvs] at h
  | 1 => simp [cvs] at h
  | i + 2 => simp [cvs] at h
theorem digs_getD (y j : Nat) : (digs y).getD j 0 = y / 4294967296 ^ j % 4294967296 := by rw [val_digit (digs_digs y), val_digs]
theorem cvs_end (y : Nat) (h : y < 340282366920938463463374607431768211456) : cvs y 2 0 = #[.int .u64 ((y % 18446744073709551616 : Nat) : Int), .int .u64 ((y / 18446744073709551616 : Nat) : Int)] := by
  unfold cvs cv
  simp only [digs_getD]
  have e0 : y / 4294967296 ^ (2 * 0) % 4294967296 + 4294967296 * (y / 4294967296 ^ (2 * 0 + 1) % 4294967296) = y % 18446744073709551616 := by omega
  have e1 : y / 4294967296 ^ (2 * 1) % 4294967296 + 4294967296 * (y / 4294967296 ^ (2 * 1 + 1) % 4294967296) = y / 18446744073709551616 := by omega
  rw [if_pos (by decide), if_pos (by decide), e0, e1]
/-- A whole number that lies in a block. -/
def Box (w : World) (b : Nat) (x : Int) : Prop := ∃ A c, w.heap[b]? = some (.cells #[.bool (decide (x < 0)), .slice A (digs x.natAbs).length c] 29 (0, 0)) ∧ MagV w (.slice A (digs x.natAbs).length c) (digs x.natAbs)
theorem WV.of {w : World} {b : Bool} {m : Value} {x : Int} (hb : decide (x < 0) = b) (h : MagV w m (digs x.natAbs)) : WV w (.agg #[.bool b, m]) x := by
  subst hb
  exact ⟨m, rfl, h⟩
set_option maxRecDepth 100000 in
set_option maxHeartbeats 4000000 in
theorem toWords35 (v : Value) (x : Int) (w : World) (hv : WV w v x) (hx : -170141183460469231731687303715884105728 ≤ x ∧ x < 170141183460469231731687303715884105728) : Calls Tryz.prog 35 #[v, .int .i64 2] w fun e w' => ∃ r, e = .returned (.tuple #[r, .bool true]) ∧ Words2 w' r (x % 18446744073709551616).toNat (x / 18446744073709551616 % 18446744073709551616).toNat ∧ Keep (fun _ => False) w w' := by
  have hx9 : (digs x.natAbs).length ≤ 4 := digs_length_le (by omega)
  obtain ⟨m, rfl, hm⟩ := hv
  have hma := hm
  obtain ⟨A, c, rfl, _, _⟩ := hma
  have h0 := blk_new w (.cells #[.bool (decide (x < 0)), .slice A (digs x.natAbs).length c] 29)
  have hk0 : Keep (fun _ => False) w (w.alloc (.cells #[.bool (decide (x < 0)), .slice A (digs x.natAbs).length c] 29)) := (Keep.refl _ w).alloc _
  have hm0 := hm.keep hk0 (fun _ _ h => h)
  have HT := Lib.hid (two60_127 (w.alloc (.cells #[.bool (decide (x < 0)), .slice A (digs x.natAbs).length c] 29)))
  have HX := Lib.hid hx
  clear hm hx
  go_enter Tryz.func35, Tryz.ntmps35
  go_wp2_with fail
  generalize w.alloc (.cells #[.bool (decide (x < 0)), .slice A (digs x.natAbs).length c] 29) = w0 at *
  refine HT.out.mono ?_
  rintro e w1 ⟨v1, rfl, hv1, hk1⟩
  obtain ⟨p, hp⟩ : ∃ p : Int, p = 170141183460469231731687303715884105728 := ⟨_, rfl⟩
  rw [← hp] at hv1 HX
  have hp9 : (digs p.natAbs).length ≤ 4 := by rw [hp]; exact digs_length_le (by decide)
  obtain ⟨m1, rfl, hm1⟩ := hv1
  have hm1' := hm1
  obtain ⟨A1, c1, rfl, _, _⟩ := hm1'
  have h6 := blk_new w1 (.cells #[.bool (decide (p < 0)), .slice A1 (digs p.natAbs).length c1] 29)
  have hk2 : Keep (fun _ => False) w1 (w1.alloc (.cells #[.bool (decide (p < 0)), .slice A1 (digs p.natAbs).length c1] 29)) := (Keep.refl _ w1).alloc _
  have h02 := hk2.blk (hk1.blk h0 (fun h => h)) (fun h => h)
  have hl2 := blk_lt (hk1.blk h0 (fun h => h))
  have hmx := (hm0.keep hk1 (fun _ _ h => h)).keep hk2 (fun _ _ h => h)
  have hmp := hm1.keep hk2 (fun _ _ h => h)
  have hka := (hk0.trans hk1).trans hk2
  have HP := Lib.hid hp
  have HA := Lib.hid (And.intro hmx (And.intro hmp hka))
  clear HT h0 hk0 hm0 hk1 hm1 hk2 hmx hmp hka hp
  go_wp2_with fail
  obtain ⟨n6, hn6⟩ : ∃ n6, n6 = w1.heap.size := ⟨_, rfl⟩
  rw [← hn6] at h6 hl2 ⊢
  clear hn6
  generalize w1.alloc (.cells #[.bool (decide (p < 0)), .slice A1 (digs p.natAbs).length c1] 29) = w2 at *
  have HC1 := Lib.hid (wideCmp27 (.agg #[.bool (decide (x < 0)), .slice A (digs x.natAbs).length c]) (.agg #[.bool (decide (p < 0)), .slice A1 (digs p.natAbs).length c1]) x p w2.drew ⟨_, rfl, HA.out.1.keep (Keep.refl (fun _ => False) w2).drew (fun _ _ h => h)⟩ ⟨_, rfl, HA.out.2.1.keep (Keep.refl (fun _ => False) w2).drew (fun _ _ h => h)⟩ (by omega) (by omega))
  have hcz : cmpZ x p < 0 := by unfold cmpZ; rw [if_pos (by have := HX.out; omega)]; decide
  obtain ⟨z1, hz1⟩ : ∃ z, z = cmpZ x p := ⟨_, rfl⟩
  rw [← hz1] at HC1 hcz
  clear hz1
  refine wp_region_takesC (fun w' => w'.heap[w.heap.size]? = some (.cells #[.bool (decide (x < 0)), .slice A (digs x.natAbs).length c] 29 (0, 0)) ∧ w'.heap[n6]? = some (.cells #[.bool (decide (p < 0)), .slice A1 (digs p.natAbs).length c1] 29 (0, 0))) (by kernel_rfl) ?_
  go_simp
  refine wpC_take 0 (v := .agg #[.bool (decide (x < 0)), .slice A (digs x.natAbs).length c]) (by kernel_rfl) rfl rfl (fun _ _ _ h => h) (fun w' hC => by have hc := blk_cell hC.1; go_simp) ?_
  go_simp
  refine wpC_take 1 (v := .agg #[.bool (decide (p < 0)), .slice A1 (digs p.natAbs).length c1]) (by kernel_rfl) rfl rfl (fun _ _ _ h => h) (fun w' hC => by have hc := blk_cell hC.2; go_simp) ?_
  go_simp
  refine wpC_only 2 (by kernel_rfl) ⟨blk_drew h02, blk_drew h6⟩ rfl ?_
  go_wp2_with fail
  refine HC1.out.mono ?_
  rintro e w3 ⟨rfl, hk3⟩
  have hk3 := (Keep.refl (fun _ => False) w2).drew.trans hk3
  have h03 := hk3.blk h02 (fun h => h)
  have h63 := hk3.blk h6 (fun h => h)
  have HA3 := Lib.hid (And.intro (HA.out.1.keep hk3 (fun _ _ h => h)) (And.intro (HA.out.2.1.keep hk3 (fun _ _ h => h)) (HA.out.2.2.trans hk3)))
  clear HC1 hk3 h02 h6 HA
  go_wp2_with fail
  refine wpC_only 3 (by kernel_rfl) ⟨h03, h63⟩ rfl ?_
  go_wp2_with fail
  refine wpC_only 4 (by kernel_rfl) ⟨h03, h63⟩ rfl ?_
  go_wp2_with fail
  refine wpC_takeG 5 (v := .agg #[.bool (decide (x < 0)), .slice A (digs x.natAbs).length c]) (by kernel_rfl) rfl rfl (fun _ _ _ h => h) (fun w' hC => by have hc := blk_cell hC.1; go_simp) ?_
  go_simp
  refine wpC_takeG 6 (v := .agg #[.bool (decide (p < 0)), .slice A1 (digs p.natAbs).length c1]) (by kernel_rfl) rfl rfl (fun _ _ _ h => h) (fun w' hC => by have hc := blk_cell hC.2; go_simp) ?_
  go_simp
  have HN := Lib.hid (negated36 (.agg #[.bool (decide (p < 0)), .slice A1 (digs p.natAbs).length c1]) p w3 ⟨_, rfl, HA3.out.2.1⟩ (by omega))
  obtain ⟨np, hnp⟩ : ∃ z, z = -p := ⟨_, rfl⟩
  rw [← hnp] at HN
  have HNP := Lib.hid hnp
  have hnp9 : (digs np.natAbs).length ≤ 4 := by rw [hnp, Int.natAbs_neg]; exact hp9
  clear hnp
  refine wpC_only 7 (by kernel_rfl) ⟨h03, h63⟩ rfl ?_
  go_wp2_with fail
  refine HN.out.mono ?_
  rintro e w4 ⟨v4, rfl, hv4, hk4⟩
  have h04 := hk4.blk h03 (fun h => h)
  have h64 := hk4.blk h63 (fun h => h)
  have HC2 := Lib.hid (wideCmp27 (.agg #[.bool (decide (x < 0)), .slice A (digs x.natAbs).length c]) v4 x np w4 ⟨_, rfl, HA3.out.1.keep hk4 (fun _ _ h => h)⟩ hv4 (by omega) (by omega))
  have HA4 := Lib.hid (And.intro (HA3.out.1.keep hk4 (fun _ _ h => h)) (HA3.out.2.2.trans hk4))
  have hcz2 : ¬ cmpZ x np < 0 := by
    unfold cmpZ
    have := HX.out
    have := HNP.out
    rw [if_neg (by omega)]
    split <;> omega
  obtain ⟨z2, hz2⟩ : ∃ z, z = cmpZ x np := ⟨_, rfl⟩
  rw [← hz2] at HC2 hcz2
  obtain ⟨m4, rfl, hm4⟩ := hv4
  obtain ⟨A4, c4, rfl, _, _⟩ := hm4
  clear hz2 HN hk4 h03 h63 HA3
  generalize decide (np < 0) = bnp at *
  generalize (digs np.natAbs).length = nnp at *
  go_wp2_with fail
  refine wpC_only 8 (by kernel_rfl) ⟨h04, h64⟩ rfl ?_
  go_wp2_with fail
  refine HC2.out.mono ?_
  rintro e w5 ⟨rfl, hk5⟩
  have h05 := hk5.blk h04 (fun h => h)
  have h65 := hk5.blk h64 (fun h => h)
  have HA5 := Lib.hid (And.intro (HA4.out.1.keep hk5 (fun _ _ h => h)) (HA4.out.2.trans hk5))
  clear HC2 hk5 h04 h64 HA4
  go_wp2_with fail
  refine wpC_only 9 (by kernel_rfl) ⟨h05, h65⟩ rfl ?_
  go_wp2_with fail
  refine wpC_only 10 (by kernel_rfl) ⟨h05, h65⟩ rfl ?_
  go_wp2_with fail
  refine wpC_only 11 (by kernel_rfl) ⟨h05, h65⟩ rfl ?_
  go_wp2_with fail
  refine wpC_stop (by kernel_rfl) ⟨h05, h65⟩ ?_
  have hc05 := blk_cell h05
  generalize hbx : decide (x < 0) = bx at *
  have HBX := Lib.hid hbx
  clear hbx
  go_upto_if 29 with fail
  go_cut [] (fun wx => Box wx w.heap.size (x % 340282366920938463463374607431768211456) ∧ Keep (fun _ => False) w wx)
  case first =>
    cases bx
    case true =>
      have hneg : x < 0 := of_decide_eq_true HBX.out
      obtain ⟨p2, hp2⟩ : ∃ z : Int, z = 340282366920938463463374607431768211456 := ⟨_, rfl⟩
      have HP2 := Lib.hid hp2
      have hp29 : (digs p2.natAbs).length ≤ 5 := by rw [hp2]; exact digs_length_le (by decide)
      have HTM := Lib.hid (show x.tmod p2 = x by
        rw [hp2]
        have := HX.out
        have := HP.out
        obtain ⟨k, rfl⟩ : ∃ k : Nat, x = -(k : Int) := ⟨x.natAbs, by omega⟩
        rw [Int.neg_tmod, show (340282366920938463463374607431768211456 : Int) = ((340282366920938463463374607431768211456 : Nat) : Int) from rfl, ← Int.ofNat_tmod, Nat.mod_eq_of_lt (by omega)])
      have HNEG := Lib.hid hneg
      clear hp2 hneg
      go_upto_region 4 with fail
      go_cut [9] (fun t9 wx => ∃ b9, t9 = .pointer (some ⟨b9, 0, none⟩) ∧ w.heap.size < b9 ∧ Box wx b9 x ∧ (∃ A c, wx.heap[w.heap.size]? = some (.cells #[.bool true, .slice A (digs x.natAbs).length c] 29 (0, 0))) ∧ Keep (fun _ => False) w wx)
      case first =>
        have h06 : w5.drew.heap[w.heap.size]? = some (.cells #[.bool true, .slice A (digs x.natAbs).length c] 29 (0, 0)) := blk_drew h05
        have mx6 := HA5.out.1.keep (Keep.refl (fun _ => False) w5).drew (fun _ _ h => h)
        have k6 := HA5.out.2.drew
        clear h05 h65 hc05 HA5
        refine wp_region_takesC (fun w' => w'.heap[w.heap.size]? = some (.cells #[.bool true, .slice A (digs x.natAbs).length c] 29 (0, 0))) (by kernel_rfl) ?_
        go_simp
        generalize w5.drew = w6 at *
        refine wpC_take 0 (v := .agg #[.bool true, .slice A (digs x.natAbs).length c]) (by kernel_rfl) rfl rfl (fun _ _ _ h => h) (fun w' hC => by have hc := blk_cell hC; go_simp) ?_
        go_simp
        refine wpC_take 1 (by kernel_rfl) rfl rfl (fun _ _ _ h => h) (fun w' hC => BigFrame.run_move _ rfl w') ?_
        go_simp
        refine wpC_take 2 (v := .int .i64 128) (by kernel_rfl) rfl rfl (fun _ _ _ h => h) (fun w' hC => by go_simp; rfl) ?_
        go_simp
        refine wpC_three 3 8 9 (by kernel_rfl) h06 rfl rfl rfl ?_ ?_ ?_
        · have HTy1 := Lib.hid (two60_128 w6)
          go_wp2_with fail
          refine HTy1.out.mono ?_
          rintro e y1 ⟨vy1, rfl, hvy1, hky1⟩
          have hy1x := hky1.blk h06 (fun h => h)
          have my1 := mx6.keep hky1 (fun _ _ h => h)
          have ky1 := k6.trans hky1
          rw [← HP2.out] at hvy1
          obtain ⟨mvy1, rfl, mpy1⟩ := hvy1
          have mp'y1 := mpy1
          obtain ⟨Av, cv, rfl, _, _⟩ := mp'y1
          clear HTy1 hky1
          go_wp2_with fail
          refine wpC_three 4 8 9 (by kernel_rfl) hy1x rfl rfl rfl ?_ ?_ ?_
          · have HDy2 := Lib.hid (wideDiv23 (.agg #[.bool true, .slice A (digs x.natAbs).length c]) (.agg #[.bool (decide (p2 < 0)), .slice Av (digs p2.natAbs).length cv]) x p2 y1 (WV.of HBX.out my1) ⟨_, rfl, mpy1⟩ (by have := HP2.out; omega) (by omega) (by omega))
            rw [HTM.out] at HDy2
            obtain ⟨qq, hqq⟩ : ∃ z, z = x.tdiv p2 := ⟨_, rfl⟩
            rw [← hqq] at HDy2
            clear hqq
            go_wp2_with fail
            refine HDy2.out.mono ?_
            rintro e y2 ⟨vy2, uy2, rfl, hvy2, huy2, hky2⟩
            have hy2x := hky2.blk hy1x (fun h => h)
            have my2 := my1.keep hky2 (fun _ _ h => h)
            have ky2 := ky1.trans hky2
            have py2 := mpy1.keep hky2 (fun _ _ h => h)
            obtain ⟨_, rfl, mqy2⟩ := hvy2
            obtain ⟨_, rfl, mry2⟩ := huy2
            have mq'y2 := mqy2
            have mr'y2 := mry2
            obtain ⟨Aq, cq, rfl, _, _⟩ := mq'y2
            obtain ⟨Ar, cr, rfl, _, _⟩ := mr'y2
            clear HDy2 hky2
            go_wp2_with fail
            refine wpC_take 5 (by kernel_rfl) rfl rfl (fun _ _ _ h => h) (fun w' hC => BigFrame.run_move _ rfl w') ?_
            go_simp
            refine wpC_take 6 (v := .agg #[.bool (decide (qq < 0)), .slice Aq (digs qq.natAbs).length cq]) (by kernel_rfl) rfl rfl (fun _ _ _ h => h) (fun w' hC => by go_simp) ?_
            go_simp
            refine wpC_take 7 (v := .agg #[.bool (decide (x < 0)), .slice Ar (digs x.natAbs).length cr]) (by kernel_rfl) rfl rfl (fun _ _ _ h => h) (fun w' hC => by go_simp) ?_
            go_simp
            refine wpC_two 8 9 (by kernel_rfl) hy2x rfl rfl ?_ ?_
            · have hby3 := blk_new y2 (.cells #[.bool false, .slice none 0 0] 29)
              have hky3 : Keep (fun _ => False) y2 (y2.alloc (.cells #[.bool false, .slice none 0 0] 29)) := (Keep.refl _ y2).alloc _
              have lxy3 := blk_lt hy2x
              obtain ⟨b8, eby3⟩ : ∃ z, z = y2.heap.size := ⟨_, rfl⟩
              have hy3x := hky3.blk hy2x (fun h => h)
              have my3 := my2.keep hky3 (fun _ _ h => h)
              have ky3 := ky2.trans hky3
              have qy3 := mqy2.keep hky3 (fun _ _ h => h)
              have ry3 := mry2.keep hky3 (fun _ _ h => h)
              go_wp2_with fail
              rw [← eby3]
              rw [← eby3] at hby3 lxy3
              clear eby3 hky3
              generalize y2.alloc (.cells #[.bool false, .slice none 0 0] 29) = y3 at *
              refine wpC_only 9 (by kernel_rfl) hy3x rfl ?_
              have hby4 := blk_new y3 (.cells #[.bool false, .slice none 0 0] 29)
              have hky4 : Keep (fun _ => False) y3 (y3.alloc (.cells #[.bool false, .slice none 0 0] 29)) := (Keep.refl _ y3).alloc _
              have lxy4 := blk_lt hy3x
              have loy4 := blk_lt hby3
              obtain ⟨b9, eby4⟩ : ∃ z, z = y3.heap.size := ⟨_, rfl⟩
              have hy4x := hky4.blk hy3x (fun h => h)
              have my4 := my3.keep hky4 (fun _ _ h => h)
              have ky4 := ky3.trans hky4
              have h8y4 := hky4.blk hby3 (fun h => h)
              have qy4 := qy3.keep hky4 (fun _ _ h => h)
              have ry4 := ry3.keep hky4 (fun _ _ h => h)
              go_wp2_with fail
              rw [← eby4]
              rw [← eby4] at hby4 lxy4 loy4
              clear eby4 hky4
              generalize y3.alloc (.cells #[.bool false, .slice none 0 0] 29) = y4 at *
              have hsb : w.heap.size < b8 ∧ w.heap.size < b9 ∧ b8 ≠ b9 := by omega
              have hc8 := blk_cell h8y4
              have hf8 := blk_frozen h8y4
              obtain ⟨_, hl2, _⟩ := wide_laid h8y4 qy4 (decide (qq < 0))
              have hmr8 := ry4.off hc8 (wide_cells _ _ _ _) hl2
              have hx8 := hl2.blk hy4x (by show ¬ w.heap.size = b8; omega)
              have h98 := hl2.blk hby4 (by show ¬ b9 = b8; omega)
              have hk8 := ky4.step hl2 (fun b hb => .inr (by have h' : b = b8 := hb; omega))
              have HF := Lib.hid (And.intro hmr8 hk8)
              clear hmr8 hk8 hl2
              refine wpC_only 10 (by kernel_rfl) hy4x rfl ?_
              go_wp2_with fail
              generalize (y4.setCell ⟨b8, 0, none⟩ (.bool (decide (qq < 0)))).setCell ⟨b8, 1, none⟩ (.slice Aq (digs qq.natAbs).length cq) = z8 at *
              clear hc8 hf8
              have hc9 := blk_cell h98
              have hf9 := blk_frozen h98
              obtain ⟨hl1, hl2, _⟩ := wide_laid h98 HF.out.1 (decide (x < 0))
              have h99 := blk_set (blk_set h98 0 (.bool (decide (x < 0)))) 1 (.slice Ar (digs x.natAbs).length cr)
              have hx9' := hl2.blk hx8 (by show ¬ w.heap.size = b9; omega)
              have hk9 := HF.out.2.step hl2 (fun b hb => .inr (by have h' : b = b9 := hb; omega))
              have HG := Lib.hid (And.intro hl1 (And.intro h99 hk9))
              clear hl1 h99 hk9 HF hl2
              refine wpC_only 11 (by kernel_rfl) hx8 rfl ?_
              go_wp2_with fail
              refine wpC_stop (by kernel_rfl) hx9' ?_
              go_wp2_with fail
              go_meet
              exact ⟨b9, rfl, by omega, ⟨_, _, HG.out.2.1, HG.out.1⟩, ⟨_, _, hx9'⟩, HG.out.2.2⟩
            · have hby6 := blk_new y2 (.cells #[.bool false, .slice none 0 0] 29)
              have hky6 : Keep (fun _ => False) y2 (y2.alloc (.cells #[.bool false, .slice none 0 0] 29)) := (Keep.refl _ y2).alloc _
              have lxy6 := blk_lt hy2x
              obtain ⟨b9, eby6⟩ : ∃ z, z = y2.heap.size := ⟨_, rfl⟩
              have hy6x := hky6.blk hy2x (fun h => h)
              have my6 := my2.keep hky6 (fun _ _ h => h)
              have ky6 := ky2.trans hky6
              have qy6 := mqy2.keep hky6 (fun _ _ h => h)
              have ry6 := mry2.keep hky6 (fun _ _ h => h)
              go_wp2_with fail
              rw [← eby6]
              rw [← eby6] at hby6 lxy6
              clear eby6 hky6
              generalize y2.alloc (.cells #[.bool false, .slice none 0 0] 29) = y6 at *
              refine wpC_only 8 (by kernel_rfl) hy6x rfl ?_
              have hby7 := blk_new y6 (.cells #[.bool false, .slice none 0 0] 29)
              have hky7 : Keep (fun _ => False) y6 (y6.alloc (.cells #[.bool false, .slice none 0 0] 29)) := (Keep.refl _ y6).alloc _
              have lxy7 := blk_lt hy6x
              have loy7 := blk_lt hby6
              obtain ⟨b8, eby7⟩ : ∃ z, z = y6.heap.size := ⟨_, rfl⟩
              have hy7x := hky7.blk hy6x (fun h => h)
              have my7 := my6.keep hky7 (fun _ _ h => h)
              have ky7 := ky6.trans hky7
              have h9y7 := hky7.blk hby6 (fun h => h)
              have qy7 := qy6.keep hky7 (fun _ _ h => h)
              have ry7 := ry6.keep hky7 (fun _ _ h => h)
              go_wp2_with fail
              rw [← eby7]
              rw [← eby7] at hby7 lxy7 loy7
              clear eby7 hky7
              generalize y6.alloc (.cells #[.bool false, .slice none 0 0] 29) = y7 at *
              have hsb : w.heap.size < b8 ∧ w.heap.size < b9 ∧ b8 ≠ b9 := by omega
              have hc8 := blk_cell hby7
              have hf8 := blk_frozen hby7
              obtain ⟨_, hl2, _⟩ := wide_laid hby7 qy7 (decide (qq < 0))
              have hmr8 := ry7.off hc8 (wide_cells _ _ _ _) hl2
              have hx8 := hl2.blk hy7x (by show ¬ w.heap.size = b8; omega)
              have h98 := hl2.blk h9y7 (by show ¬ b9 = b8; omega)
              have hk8 := ky7.step hl2 (fun b hb => .inr (by have h' : b = b8 := hb; omega))
              have HF := Lib.hid (And.intro hmr8 hk8)
              clear hmr8 hk8 hl2
              refine wpC_only 10 (by kernel_rfl) hy7x rfl ?_
              go_wp2_with fail
              generalize (y7.setCell ⟨b8, 0, none⟩ (.bool (decide (qq < 0)))).setCell ⟨b8, 1, none⟩ (.slice Aq (digs qq.natAbs).length cq) = z8 at *
              clear hc8 hf8
              have hc9 := blk_cell h98
              have hf9 := blk_frozen h98
              obtain ⟨hl1, hl2, _⟩ := wide_laid h98 HF.out.1 (decide (x < 0))
              have h99 := blk_set (blk_set h98 0 (.bool (decide (x < 0)))) 1 (.slice Ar (digs x.natAbs).length cr)
              have hx9' := hl2.blk hx8 (by show ¬ w.heap.size = b9; omega)
              have hk9 := HF.out.2.step hl2 (fun b hb => .inr (by have h' : b = b9 := hb; omega))
              have HG := Lib.hid (And.intro hl1 (And.intro h99 hk9))
              clear hl1 h99 hk9 HF hl2
              refine wpC_only 11 (by kernel_rfl) hx8 rfl ?_
              go_wp2_with fail
              refine wpC_stop (by kernel_rfl) hx9' ?_
              go_wp2_with fail
              go_meet
              exact ⟨b9, rfl, by omega, ⟨_, _, HG.out.2.1, HG.out.1⟩, ⟨_, _, hx9'⟩, HG.out.2.2⟩
          · have hby9 := blk_new y1 (.cells #[.bool false, .slice none 0 0] 29)
            have hky9 : Keep (fun _ => False) y1 (y1.alloc (.cells #[.bool false, .slice none 0 0] 29)) := (Keep.refl _ y1).alloc _
            have lxy9 := blk_lt hy1x
            obtain ⟨b8, eby9⟩ : ∃ z, z = y1.heap.size := ⟨_, rfl⟩
            have hy9x := hky9.blk hy1x (fun h => h)
            have my9 := my1.keep hky9 (fun _ _ h => h)
            have ky9 := ky1.trans hky9
            have py9 := mpy1.keep hky9 (fun _ _ h => h)
            go_wp2_with fail
            rw [← eby9]
            rw [← eby9] at hby9 lxy9
            clear eby9 hky9
            generalize y1.alloc (.cells #[.bool false, .slice none 0 0] 29) = y9 at *
            refine wpC_two 4 9 (by kernel_rfl) hy9x rfl rfl ?_ ?_
            · have HDy10 := Lib.hid (wideDiv23 (.agg #[.bool true, .slice A (digs x.natAbs).length c]) (.agg #[.bool (decide (p2 < 0)), .slice Av (digs p2.natAbs).length cv]) x p2 y9 (WV.of HBX.out my9) ⟨_, rfl, py9⟩ (by have := HP2.out; omega) (by omega) (by omega))
              rw [HTM.out] at HDy10
              obtain ⟨qq, hqq⟩ : ∃ z, z = x.tdiv p2 := ⟨_, rfl⟩
              rw [← hqq] at HDy10
              clear hqq
              go_wp2_with fail
              refine HDy10.out.mono ?_
              rintro e y10 ⟨vy10, uy10, rfl, hvy10, huy10, hky10⟩
              have hy10x := hky10.blk hy9x (fun h => h)
              have my10 := my9.keep hky10 (fun _ _ h => h)
              have ky10 := ky9.trans hky10
              have h8y10 := hky10.blk hby9 (fun h => h)
              have py10 := py9.keep hky10 (fun _ _ h => h)
              obtain ⟨_, rfl, mqy10⟩ := hvy10
              obtain ⟨_, rfl, mry10⟩ := huy10
              have mq'y10 := mqy10
              have mr'y10 := mry10
              obtain ⟨Aq, cq, rfl, _, _⟩ := mq'y10
              obtain ⟨Ar, cr, rfl, _, _⟩ := mr'y10
              clear HDy10 hky10
              go_wp2_with fail
              refine wpC_take 5 (by kernel_rfl) rfl rfl (fun _ _ _ h => h) (fun w' hC => BigFrame.run_move _ rfl w') ?_
              go_simp
              refine wpC_take 6 (v := .agg #[.bool (decide (qq < 0)), .slice Aq (digs qq.natAbs).length cq]) (by kernel_rfl) rfl rfl (fun _ _ _ h => h) (fun w' hC => by go_simp) ?_
              go_simp
              refine wpC_take 7 (v := .agg #[.bool (decide (x < 0)), .slice Ar (digs x.natAbs).length cr]) (by kernel_rfl) rfl rfl (fun _ _ _ h => h) (fun w' hC => by go_simp) ?_
              go_simp
              refine wpC_only 9 (by kernel_rfl) hy10x rfl ?_
              have hby11 := blk_new y10 (.cells #[.bool false, .slice none 0 0] 29)
              have hky11 : Keep (fun _ => False) y10 (y10.alloc (.cells #[.bool false, .slice none 0 0] 29)) := (Keep.refl _ y10).alloc _
              have lxy11 := blk_lt hy10x
              have loy11 := blk_lt h8y10
              obtain ⟨b9, eby11⟩ : ∃ z, z = y10.heap.size := ⟨_, rfl⟩
              have hy11x := hky11.blk hy10x (fun h => h)
              have my11 := my10.keep hky11 (fun _ _ h => h)
              have ky11 := ky10.trans hky11
              have h8y11 := hky11.blk h8y10 (fun h => h)
              have qy11 := mqy10.keep hky11 (fun _ _ h => h)
              have ry11 := mry10.keep hky11 (fun _ _ h => h)
              go_wp2_with fail
              rw [← eby11]
              rw [← eby11] at hby11 lxy11 loy11
              clear eby11 hky11
              generalize y10.alloc (.cells #[.bool false, .slice none 0 0] 29) = y11 at *
              have hsb : w.heap.size < b8 ∧ w.heap.size < b9 ∧ b8 ≠ b9 := by omega
              have hc8 := blk_cell h8y11
              have hf8 := blk_frozen h8y11
              obtain ⟨_, hl2, _⟩ := wide_laid h8y11 qy11 (decide (qq < 0))
              have hmr8 := ry11.off hc8 (wide_cells _ _ _ _) hl2
              have hx8 := hl2.blk hy11x (by show ¬ w.heap.size = b8; omega)
              have h98 := hl2.blk hby11 (by show ¬ b9 = b8; omega)
              have hk8 := ky11.step hl2 (fun b hb => .inr (by have h' : b = b8 := hb; omega))
              have HF := Lib.hid (And.intro hmr8 hk8)
              clear hmr8 hk8 hl2
              refine wpC_only 10 (by kernel_rfl) hy11x rfl ?_
              go_wp2_with fail
              generalize (y11.setCell ⟨b8, 0, none⟩ (.bool (decide (qq < 0)))).setCell ⟨b8, 1, none⟩ (.slice Aq (digs qq.natAbs).length cq) = z8 at *
              clear hc8 hf8
              have hc9 := blk_cell h98
              have hf9 := blk_frozen h98
              obtain ⟨hl1, hl2, _⟩ := wide_laid h98 HF.out.1 (decide (x < 0))
              have h99 := blk_set (blk_set h98 0 (.bool (decide (x < 0)))) 1 (.slice Ar (digs x.natAbs).length cr)
              have hx9' := hl2.blk hx8 (by show ¬ w.heap.size = b9; omega)
              have hk9 := HF.out.2.step hl2 (fun b hb => .inr (by have h' : b = b9 := hb; omega))
              have HG := Lib.hid (And.intro hl1 (And.intro h99 hk9))
              clear hl1 h99 hk9 HF hl2
              refine wpC_only 11 (by kernel_rfl) hx8 rfl ?_
              go_wp2_with fail
              refine wpC_stop (by kernel_rfl) hx9' ?_
              go_wp2_with fail
              go_meet
              exact ⟨b9, rfl, by omega, ⟨_, _, HG.out.2.1, HG.out.1⟩, ⟨_, _, hx9'⟩, HG.out.2.2⟩
            · have hby13 := blk_new y9 (.cells #[.bool false, .slice none 0 0] 29)
              have hky13 : Keep (fun _ => False) y9 (y9.alloc (.cells #[.bool false, .slice none 0 0] 29)) := (Keep.refl _ y9).alloc _
              have lxy13 := blk_lt hy9x
              have loy13 := blk_lt hby9
              obtain ⟨b9, eby13⟩ : ∃ z, z = y9.heap.size := ⟨_, rfl⟩
              have hy13x := hky13.blk hy9x (fun h => h)
              have my13 := my9.keep hky13 (fun _ _ h => h)
              have ky13 := ky9.trans hky13
              have h8y13 := hky13.blk hby9 (fun h => h)
              have py13 := py9.keep hky13 (fun _ _ h => h)
              go_wp2_with fail
              rw [← eby13]
              rw [← eby13] at hby13 lxy13 loy13
              clear eby13 hky13
              generalize y9.alloc (.cells #[.bool false, .slice none 0 0] 29) = y13 at *
              refine wpC_only 4 (by kernel_rfl) hy13x rfl ?_
              have HDy14 := Lib.hid (wideDiv23 (.agg #[.bool true, .slice A (digs x.natAbs).length c]) (.agg #[.bool (decide (p2 < 0)), .slice Av (digs p2.natAbs).length cv]) x p2 y13 (WV.of HBX.out my13) ⟨_, rfl, py13⟩ (by have := HP2.out; omega) (by omega) (by omega))
              rw [HTM.out] at HDy14
              obtain ⟨qq, hqq⟩ : ∃ z, z = x.tdiv p2 := ⟨_, rfl⟩
              rw [← hqq] at HDy14
              clear hqq
              go_wp2_with fail
              refine HDy14.out.mono ?_
              rintro e y14 ⟨vy14, uy14, rfl, hvy14, huy14, hky14⟩
              have hy14x := hky14.blk hy13x (fun h => h)
              have my14 := my13.keep hky14 (fun _ _ h => h)
              have ky14 := ky13.trans hky14
              have h8y14 := hky14.blk h8y13 (fun h => h)
              have h9y14 := hky14.blk hby13 (fun h => h)
              have py14 := py13.keep hky14 (fun _ _ h => h)
              obtain ⟨_, rfl, mqy14⟩ := hvy14
              obtain ⟨_, rfl, mry14⟩ := huy14
              have mq'y14 := mqy14
              have mr'y14 := mry14
              obtain ⟨Aq, cq, rfl, _, _⟩ := mq'y14
              obtain ⟨Ar, cr, rfl, _, _⟩ := mr'y14
              clear HDy14 hky14
              go_wp2_with fail
              refine wpC_take 5 (by kernel_rfl) rfl rfl (fun _ _ _ h => h) (fun w' hC => BigFrame.run_move _ rfl w') ?_
              go_simp
              refine wpC_take 6 (v := .agg #[.bool (decide (qq < 0)), .slice Aq (digs qq.natAbs).length cq]) (by kernel_rfl) rfl rfl (fun _ _ _ h => h) (fun w' hC => by go_simp) ?_
              go_simp
              refine wpC_take 7 (v := .agg #[.bool (decide (x < 0)), .slice Ar (digs x.natAbs).length cr]) (by kernel_rfl) rfl rfl (fun _ _ _ h => h) (fun w' hC => by go_simp) ?_
              go_simp
              have hsb : w.heap.size < b8 ∧ w.heap.size < b9 ∧ b8 ≠ b9 := by omega
              have hc8 := blk_cell h8y14
              have hf8 := blk_frozen h8y14
              obtain ⟨_, hl2, _⟩ := wide_laid h8y14 mqy14 (decide (qq < 0))
              have hmr8 := mry14.off hc8 (wide_cells _ _ _ _) hl2
              have hx8 := hl2.blk hy14x (by show ¬ w.heap.size = b8; omega)
              have h98 := hl2.blk h9y14 (by show ¬ b9 = b8; omega)
              have hk8 := ky14.step hl2 (fun b hb => .inr (by have h' : b = b8 := hb; omega))
              have HF := Lib.hid (And.intro hmr8 hk8)
              clear hmr8 hk8 hl2
              refine wpC_only 10 (by kernel_rfl) hy14x rfl ?_
              go_wp2_with fail
              generalize (y14.setCell ⟨b8, 0, none⟩ (.bool (decide (qq < 0)))).setCell ⟨b8, 1, none⟩ (.slice Aq (digs qq.natAbs).length cq) = z8 at *
              clear hc8 hf8
              have hc9 := blk_cell h98
              have hf9 := blk_frozen h98
              obtain ⟨hl1, hl2, _⟩ := wide_laid h98 HF.out.1 (decide (x < 0))
              have h99 := blk_set (blk_set h98 0 (.bool (decide (x < 0)))) 1 (.slice Ar (digs x.natAbs).length cr)
              have hx9' := hl2.blk hx8 (by show ¬ w.heap.size = b9; omega)
              have hk9 := HF.out.2.step hl2 (fun b hb => .inr (by have h' : b = b9 := hb; omega))
              have HG := Lib.hid (And.intro hl1 (And.intro h99 hk9))
              clear hl1 h99 hk9 HF hl2
              refine wpC_only 11 (by kernel_rfl) hx8 rfl ?_
              go_wp2_with fail
              refine wpC_stop (by kernel_rfl) hx9' ?_
              go_wp2_with fail
              go_meet
              exact ⟨b9, rfl, by omega, ⟨_, _, HG.out.2.1, HG.out.1⟩, ⟨_, _, hx9'⟩, HG.out.2.2⟩
          · have hby16 := blk_new y1 (.cells #[.bool false, .slice none 0 0] 29)
            have hky16 : Keep (fun _ => False) y1 (y1.alloc (.cells #[.bool false, .slice none 0 0] 29)) := (Keep.refl _ y1).alloc _
            have lxy16 := blk_lt hy1x
            obtain ⟨b9, eby16⟩ : ∃ z, z = y1.heap.size := ⟨_, rfl⟩
            have hy16x := hky16.blk hy1x (fun h => h)
            have my16 := my1.keep hky16 (fun _ _ h => h)
            have ky16 := ky1.trans hky16
            have py16 := mpy1.keep hky16 (fun _ _ h => h)
            go_wp2_with fail
            rw [← eby16]
            rw [← eby16] at hby16 lxy16
            clear eby16 hky16
            generalize y1.alloc (.cells #[.bool false, .slice none 0 0] 29) = y16 at *
            refine wpC_two 4 8 (by kernel_rfl) hy16x rfl rfl ?_ ?_
            · have HDy17 := Lib.hid (wideDiv23 (.agg #[.bool true, .slice A (digs x.natAbs).length c]) (.agg #[.bool (decide (p2 < 0)), .slice Av (digs p2.natAbs).length cv]) x p2 y16 (WV.of HBX.out my16) ⟨_, rfl, py16⟩ (by have := HP2.out; omega) (by omega) (by omega))
              rw [HTM.out] at HDy17
              obtain ⟨qq, hqq⟩ : ∃ z, z = x.tdiv p2 := ⟨_, rfl⟩
              rw [← hqq] at HDy17
              clear hqq
              go_wp2_with fail
              refine HDy17.out.mono ?_
              rintro e y17 ⟨vy17, uy17, rfl, hvy17, huy17, hky17⟩
              have hy17x := hky17.blk hy16x (fun h => h)
              have my17 := my16.keep hky17 (fun _ _ h => h)
              have ky17 := ky16.trans hky17
              have h9y17 := hky17.blk hby16 (fun h => h)
              have py17 := py16.keep hky17 (fun _ _ h => h)
              obtain ⟨_, rfl, mqy17⟩ := hvy17
              obtain ⟨_, rfl, mry17⟩ := huy17
              have mq'y17 := mqy17
              have mr'y17 := mry17
              obtain ⟨Aq, cq, rfl, _, _⟩ := mq'y17
              obtain ⟨Ar, cr, rfl, _, _⟩ := mr'y17
              clear HDy17 hky17
              go_wp2_with fail
              refine wpC_take 5 (by kernel_rfl) rfl rfl (fun _ _ _ h => h) (fun w' hC => BigFrame.run_move _ rfl w') ?_
              go_simp
              refine wpC_take 6 (v := .agg #[.bool (decide (qq < 0)), .slice Aq (digs qq.natAbs).length cq]) (by kernel_rfl) rfl rfl (fun _ _ _ h => h) (fun w' hC => by go_simp) ?_
              go_simp
              refine wpC_take 7 (v := .agg #[.bool (decide (x < 0)), .slice Ar (digs x.natAbs).length cr]) (by kernel_rfl) rfl rfl (fun _ _ _ h => h) (fun w' hC => by go_simp) ?_
              go_simp
              refine wpC_only 8 (by kernel_rfl) hy17x rfl ?_
              have hby18 := blk_new y17 (.cells #[.bool false, .slice none 0 0] 29)
              have hky18 : Keep (fun _ => False) y17 (y17.alloc (.cells #[.bool false, .slice none 0 0] 29)) := (Keep.refl _ y17).alloc _
              have lxy18 := blk_lt hy17x
              have loy18 := blk_lt h9y17
              obtain ⟨b8, eby18⟩ : ∃ z, z = y17.heap.size := ⟨_, rfl⟩
              have hy18x := hky18.blk hy17x (fun h => h)
              have my18 := my17.keep hky18 (fun _ _ h => h)
              have ky18 := ky17.trans hky18
              have h9y18 := hky18.blk h9y17 (fun h => h)
              have qy18 := mqy17.keep hky18 (fun _ _ h => h)
              have ry18 := mry17.keep hky18 (fun _ _ h => h)
              go_wp2_with fail
              rw [← eby18]
              rw [← eby18] at hby18 lxy18 loy18
              clear eby18 hky18
              generalize y17.alloc (.cells #[.bool false, .slice none 0 0] 29) = y18 at *
              have hsb : w.heap.size < b8 ∧ w.heap.size < b9 ∧ b8 ≠ b9 := by omega
              have hc8 := blk_cell hby18
              have hf8 := blk_frozen hby18
              obtain ⟨_, hl2, _⟩ := wide_laid hby18 qy18 (decide (qq < 0))
              have hmr8 := ry18.off hc8 (wide_cells _ _ _ _) hl2
              have hx8 := hl2.blk hy18x (by show ¬ w.heap.size = b8; omega)
              have h98 := hl2.blk h9y18 (by show ¬ b9 = b8; omega)
              have hk8 := ky18.step hl2 (fun b hb => .inr (by have h' : b = b8 := hb; omega))
              have HF := Lib.hid (And.intro hmr8 hk8)
              clear hmr8 hk8 hl2
              refine wpC_only 10 (by kernel_rfl) hy18x rfl ?_
              go_wp2_with fail
              generalize (y18.setCell ⟨b8, 0, none⟩ (.bool (decide (qq < 0)))).setCell ⟨b8, 1, none⟩ (.slice Aq (digs qq.natAbs).length cq) = z8 at *
              clear hc8 hf8
              have hc9 := blk_cell h98
              have hf9 := blk_frozen h98
              obtain ⟨hl1, hl2, _⟩ := wide_laid h98 HF.out.1 (decide (x < 0))
              have h99 := blk_set (blk_set h98 0 (.bool (decide (x < 0)))) 1 (.slice Ar (digs x.natAbs).length cr)
              have hx9' := hl2.blk hx8 (by show ¬ w.heap.size = b9; omega)
              have hk9 := HF.out.2.step hl2 (fun b hb => .inr (by have h' : b = b9 := hb; omega))
              have HG := Lib.hid (And.intro hl1 (And.intro h99 hk9))
              clear hl1 h99 hk9 HF hl2
              refine wpC_only 11 (by kernel_rfl) hx8 rfl ?_
              go_wp2_with fail
              refine wpC_stop (by kernel_rfl) hx9' ?_
              go_wp2_with fail
              go_meet
              exact ⟨b9, rfl, by omega, ⟨_, _, HG.out.2.1, HG.out.1⟩, ⟨_, _, hx9'⟩, HG.out.2.2⟩
            · have hby20 := blk_new y16 (.cells #[.bool false, .slice none 0 0] 29)
              have hky20 : Keep (fun _ => False) y16 (y16.alloc (.cells #[.bool false, .slice none 0 0] 29)) := (Keep.refl _ y16).alloc _
              have lxy20 := blk_lt hy16x
              have loy20 := blk_lt hby16
              obtain ⟨b8, eby20⟩ : ∃ z, z = y16.heap.size := ⟨_, rfl⟩
              have hy20x := hky20.blk hy16x (fun h => h)
              have my20 := my16.keep hky20 (fun _ _ h => h)
              have ky20 := ky16.trans hky20
              have h9y20 := hky20.blk hby16 (fun h => h)
              have py20 := py16.keep hky20 (fun _ _ h => h)
              go_wp2_with fail
              rw [← eby20]
              rw [← eby20] at hby20 lxy20 loy20
              clear eby20 hky20
              generalize y16.alloc (.cells #[.bool false, .slice none 0 0] 29) = y20 at *
              refine wpC_only 4 (by kernel_rfl) hy20x rfl ?_
              have HDy21 := Lib.hid (wideDiv23 (.agg #[.bool true, .slice A (digs x.natAbs).length c]) (.agg #[.bool (decide (p2 < 0)), .slice Av (digs p2.natAbs).length cv]) x p2 y20 (WV.of HBX.out my20) ⟨_, rfl, py20⟩ (by have := HP2.out; omega) (by omega) (by omega))
              rw [HTM.out] at HDy21
              obtain ⟨qq, hqq⟩ : ∃ z, z = x.tdiv p2 := ⟨_, rfl⟩
              rw [← hqq] at HDy21
              clear hqq
              go_wp2_with fail
              refine HDy21.out.mono ?_
              rintro e y21 ⟨vy21, uy21, rfl, hvy21, huy21, hky21⟩
              have hy21x := hky21.blk hy20x (fun h => h)
              have my21 := my20.keep hky21 (fun _ _ h => h)
              have ky21 := ky20.trans hky21
              have h8y21 := hky21.blk hby20 (fun h => h)
              have h9y21 := hky21.blk h9y20 (fun h => h)
              have py21 := py20.keep hky21 (fun _ _ h => h)
              obtain ⟨_, rfl, mqy21⟩ := hvy21
              obtain ⟨_, rfl, mry21⟩ := huy21
              have mq'y21 := mqy21
              have mr'y21 := mry21
              obtain ⟨Aq, cq, rfl, _, _⟩ := mq'y21
              obtain ⟨Ar, cr, rfl, _, _⟩ := mr'y21
              clear HDy21 hky21
              go_wp2_with fail
              refine wpC_take 5 (by kernel_rfl) rfl rfl (fun _ _ _ h => h) (fun w' hC => BigFrame.run_move _ rfl w') ?_
              go_simp
              refine wpC_take 6 (v := .agg #[.bool (decide (qq < 0)), .slice Aq (digs qq.natAbs).length cq]) (by kernel_rfl) rfl rfl (fun _ _ _ h => h) (fun w' hC => by go_simp) ?_
              go_simp
              refine wpC_take 7 (v := .agg #[.bool (decide (x < 0)), .slice Ar (digs x.natAbs).length cr]) (by kernel_rfl) rfl rfl (fun _ _ _ h => h) (fun w' hC => by go_simp) ?_
              go_simp
              have hsb : w.heap.size < b8 ∧ w.heap.size < b9 ∧ b8 ≠ b9 := by omega
              have hc8 := blk_cell h8y21
              have hf8 := blk_frozen h8y21
              obtain ⟨_, hl2, _⟩ := wide_laid h8y21 mqy21 (decide (qq < 0))
              have hmr8 := mry21.off hc8 (wide_cells _ _ _ _) hl2
              have hx8 := hl2.blk hy21x (by show ¬ w.heap.size = b8; omega)
              have h98 := hl2.blk h9y21 (by show ¬ b9 = b8; omega)
              have hk8 := ky21.step hl2 (fun b hb => .inr (by have h' : b = b8 := hb; omega))
              have HF := Lib.hid (And.intro hmr8 hk8)
              clear hmr8 hk8 hl2
              refine wpC_only 10 (by kernel_rfl) hy21x rfl ?_
              go_wp2_with fail
              generalize (y21.setCell ⟨b8, 0, none⟩ (.bool (decide (qq < 0)))).setCell ⟨b8, 1, none⟩ (.slice Aq (digs qq.natAbs).length cq) = z8 at *
              clear hc8 hf8
              have hc9 := blk_cell h98
              have hf9 := blk_frozen h98
              obtain ⟨hl1, hl2, _⟩ := wide_laid h98 HF.out.1 (decide (x < 0))
              have h99 := blk_set (blk_set h98 0 (.bool (decide (x < 0)))) 1 (.slice Ar (digs x.natAbs).length cr)
              have hx9' := hl2.blk hx8 (by show ¬ w.heap.size = b9; omega)
              have hk9 := HF.out.2.step hl2 (fun b hb => .inr (by have h' : b = b9 := hb; omega))
              have HG := Lib.hid (And.intro hl1 (And.intro h99 hk9))
              clear hl1 h99 hk9 HF hl2
              refine wpC_only 11 (by kernel_rfl) hx8 rfl ?_
              go_wp2_with fail
              refine wpC_stop (by kernel_rfl) hx9' ?_
              go_wp2_with fail
              go_meet
              exact ⟨b9, rfl, by omega, ⟨_, _, HG.out.2.1, HG.out.1⟩, ⟨_, _, hx9'⟩, HG.out.2.2⟩
        · have hby23 := blk_new w6 (.cells #[.bool false, .slice none 0 0] 29)
          have hky23 : Keep (fun _ => False) w6 (w6.alloc (.cells #[.bool false, .slice none 0 0] 29)) := (Keep.refl _ w6).alloc _
          have lxy23 := blk_lt h06
          obtain ⟨b8, eby23⟩ : ∃ z, z = w6.heap.size := ⟨_, rfl⟩
          have hy23x := hky23.blk h06 (fun h => h)
          have my23 := mx6.keep hky23 (fun _ _ h => h)
          have ky23 := k6.trans hky23
          go_wp2_with fail
          rw [← eby23]
          rw [← eby23] at hby23 lxy23
          clear eby23 hky23
          generalize w6.alloc (.cells #[.bool false, .slice none 0 0] 29) = y23 at *
          refine wpC_two 3 9 (by kernel_rfl) hy23x rfl rfl ?_ ?_
          · have HTy24 := Lib.hid (two60_128 y23)
            go_wp2_with fail
            refine HTy24.out.mono ?_
            rintro e y24 ⟨vy24, rfl, hvy24, hky24⟩
            have hy24x := hky24.blk hy23x (fun h => h)
            have my24 := my23.keep hky24 (fun _ _ h => h)
            have ky24 := ky23.trans hky24
            have h8y24 := hky24.blk hby23 (fun h => h)
            rw [← HP2.out] at hvy24
            obtain ⟨mvy24, rfl, mpy24⟩ := hvy24
            have mp'y24 := mpy24
            obtain ⟨Av, cv, rfl, _, _⟩ := mp'y24
            clear HTy24 hky24
            go_wp2_with fail
            refine wpC_two 4 9 (by kernel_rfl) hy24x rfl rfl ?_ ?_
            · have HDy25 := Lib.hid (wideDiv23 (.agg #[.bool true, .slice A (digs x.natAbs).length c]) (.agg #[.bool (decide (p2 < 0)), .slice Av (digs p2.natAbs).length cv]) x p2 y24 (WV.of HBX.out my24) ⟨_, rfl, mpy24⟩ (by have := HP2.out; omega) (by omega) (by omega))
              rw [HTM.out] at HDy25
              obtain ⟨qq, hqq⟩ : ∃ z, z = x.tdiv p2 := ⟨_, rfl⟩
              rw [← hqq] at HDy25
              clear hqq
              go_wp2_with fail
              refine HDy25.out.mono ?_
              rintro e y25 ⟨vy25, uy25, rfl, hvy25, huy25, hky25⟩
              have hy25x := hky25.blk hy24x (fun h => h)
              have my25 := my24.keep hky25 (fun _ _ h => h)
              have ky25 := ky24.trans hky25
              have h8y25 := hky25.blk h8y24 (fun h => h)
              have py25 := mpy24.keep hky25 (fun _ _ h => h)
              obtain ⟨_, rfl, mqy25⟩ := hvy25
              obtain ⟨_, rfl, mry25⟩ := huy25
              have mq'y25 := mqy25
              have mr'y25 := mry25
              obtain ⟨Aq, cq, rfl, _, _⟩ := mq'y25
              obtain ⟨Ar, cr, rfl, _, _⟩ := mr'y25
              clear HDy25 hky25
              go_wp2_with fail
              refine wpC_take 5 (by kernel_rfl) rfl rfl (fun _ _ _ h => h) (fun w' hC => BigFrame.run_move _ rfl w') ?_
              go_simp
              refine wpC_take 6 (v := .agg #[.bool (decide (qq < 0)), .slice Aq (digs qq.natAbs).length cq]) (by kernel_rfl) rfl rfl (fun _ _ _ h => h) (fun w' hC => by go_simp) ?_
              go_simp
              refine wpC_take 7 (v := .agg #[.bool (decide (x < 0)), .slice Ar (digs x.natAbs).length cr]) (by kernel_rfl) rfl rfl (fun _ _ _ h => h) (fun w' hC => by go_simp) ?_
              go_simp
              refine wpC_only 9 (by kernel_rfl) hy25x rfl ?_
              have hby26 := blk_new y25 (.cells #[.bool false, .slice none 0 0] 29)
              have hky26 : Keep (fun _ => False) y25 (y25.alloc (.cells #[.bool false, .slice none 0 0] 29)) := (Keep.refl _ y25).alloc _
              have lxy26 := blk_lt hy25x
              have loy26 := blk_lt h8y25
              obtain ⟨b9, eby26⟩ : ∃ z, z = y25.heap.size := ⟨_, rfl⟩
              have hy26x := hky26.blk hy25x (fun h => h)
              have my26 := my25.keep hky26 (fun _ _ h => h)
              have ky26 := ky25.trans hky26
              have h8y26 := hky26.blk h8y25 (fun h => h)
              have qy26 := mqy25.keep hky26 (fun _ _ h => h)
              have ry26 := mry25.keep hky26 (fun _ _ h => h)
              go_wp2_with fail
              rw [← eby26]
              rw [← eby26] at hby26 lxy26 loy26
              clear eby26 hky26
              generalize y25.alloc (.cells #[.bool false, .slice none 0 0] 29) = y26 at *
              have hsb : w.heap.size < b8 ∧ w.heap.size < b9 ∧ b8 ≠ b9 := by omega
              have hc8 := blk_cell h8y26
              have hf8 := blk_frozen h8y26
              obtain ⟨_, hl2, _⟩ := wide_laid h8y26 qy26 (decide (qq < 0))
              have hmr8 := ry26.off hc8 (wide_cells _ _ _ _) hl2
              have hx8 := hl2.blk hy26x (by show ¬ w.heap.size = b8; omega)
              have h98 := hl2.blk hby26 (by show ¬ b9 = b8; omega)
              have hk8 := ky26.step hl2 (fun b hb => .inr (by have h' : b = b8 := hb; omega))
              have HF := Lib.hid (And.intro hmr8 hk8)
              clear hmr8 hk8 hl2
              refine wpC_only 10 (by kernel_rfl) hy26x rfl ?_
              go_wp2_with fail
              generalize (y26.setCell ⟨b8, 0, none⟩ (.bool (decide (qq < 0)))).setCell ⟨b8, 1, none⟩ (.slice Aq (digs qq.natAbs).length cq) = z8 at *
              clear hc8 hf8
              have hc9 := blk_cell h98
              have hf9 := blk_frozen h98
              obtain ⟨hl1, hl2, _⟩ := wide_laid h98 HF.out.1 (decide (x < 0))
              have h99 := blk_set (blk_set h98 0 (.bool (decide (x < 0)))) 1 (.slice Ar (digs x.natAbs).length cr)
              have hx9' := hl2.blk hx8 (by show ¬ w.heap.size = b9; omega)
              have hk9 := HF.out.2.step hl2 (fun b hb => .inr (by have h' : b = b9 := hb; omega))
              have HG := Lib.hid (And.intro hl1 (And.intro h99 hk9))
              clear hl1 h99 hk9 HF hl2
              refine wpC_only 11 (by kernel_rfl) hx8 rfl ?_
              go_wp2_with fail
              refine wpC_stop (by kernel_rfl) hx9' ?_
              go_wp2_with fail
              go_meet
              exact ⟨b9, rfl, by omega, ⟨_, _, HG.out.2.1, HG.out.1⟩, ⟨_, _, hx9'⟩, HG.out.2.2⟩
            · have hby28 := blk_new y24 (.cells #[.bool false, .slice none 0 0] 29)
              have hky28 : Keep (fun _ => False) y24 (y24.alloc (.cells #[.bool false, .slice none 0 0] 29)) := (Keep.refl _ y24).alloc _
              have lxy28 := blk_lt hy24x
              have loy28 := blk_lt h8y24
              obtain ⟨b9, eby28⟩ : ∃ z, z = y24.heap.size := ⟨_, rfl⟩
              have hy28x := hky28.blk hy24x (fun h => h)
              have my28 := my24.keep hky28 (fun _ _ h => h)
              have ky28 := ky24.trans hky28
              have h8y28 := hky28.blk h8y24 (fun h => h)
              have py28 := mpy24.keep hky28 (fun _ _ h => h)
              go_wp2_with fail
              rw [← eby28]
              rw [← eby28] at hby28 lxy28 loy28
              clear eby28 hky28
              generalize y24.alloc (.cells #[.bool false, .slice none 0 0] 29) = y28 at *
              refine wpC_only 4 (by kernel_rfl) hy28x rfl ?_
              have HDy29 := Lib.hid (wideDiv23 (.agg #[.bool true, .slice A (digs x.natAbs).length c]) (.agg #[.bool (decide (p2 < 0)), .slice Av (digs p2.natAbs).length cv]) x p2 y28 (WV.of HBX.out my28) ⟨_, rfl, py28⟩ (by have := HP2.out; omega) (by omega) (by omega))
              rw [HTM.out] at HDy29
              obtain ⟨qq, hqq⟩ : ∃ z, z = x.tdiv p2 := ⟨_, rfl⟩
              rw [← hqq] at HDy29
              clear hqq
              go_wp2_with fail
              refine HDy29.out.mono ?_
              rintro e y29 ⟨vy29, uy29, rfl, hvy29, huy29, hky29⟩
              have hy29x := hky29.blk hy28x (fun h => h)
              have my29 := my28.keep hky29 (fun _ _ h => h)
              have ky29 := ky28.trans hky29
              have h8y29 := hky29.blk h8y28 (fun h => h)
              have h9y29 := hky29.blk hby28 (fun h => h)
              have py29 := py28.keep hky29 (fun _ _ h => h)
              obtain ⟨_, rfl, mqy29⟩ := hvy29
              obtain ⟨_, rfl, mry29⟩ := huy29
              have mq'y29 := mqy29
              have mr'y29 := mry29
              obtain ⟨Aq, cq, rfl, _, _⟩ := mq'y29
              obtain ⟨Ar, cr, rfl, _, _⟩ := mr'y29
              clear HDy29 hky29
              go_wp2_with fail
              refine wpC_take 5 (by kernel_rfl) rfl rfl (fun _ _ _ h => h) (fun w' hC => BigFrame.run_move _ rfl w') ?_
              go_simp
              refine wpC_take 6 (v := .agg #[.bool (decide (qq < 0)), .slice Aq (digs qq.natAbs).length cq]) (by kernel_rfl) rfl rfl (fun _ _ _ h => h) (fun w' hC => by go_simp) ?_
              go_simp
              refine wpC_take 7 (v := .agg #[.bool (decide (x < 0)), .slice Ar (digs x.natAbs).length cr]) (by kernel_rfl) rfl rfl (fun _ _ _ h => h) (fun w' hC => by go_simp) ?_
              go_simp
              have hsb : w.heap.size < b8 ∧ w.heap.size < b9 ∧ b8 ≠ b9 := by omega
              have hc8 := blk_cell h8y29
              have hf8 := blk_frozen h8y29
              obtain ⟨_, hl2, _⟩ := wide_laid h8y29 mqy29 (decide (qq < 0))
              have hmr8 := mry29.off hc8 (wide_cells _ _ _ _) hl2
              have hx8 := hl2.blk hy29x (by show ¬ w.heap.size = b8; omega)
              have h98 := hl2.blk h9y29 (by show ¬ b9 = b8; omega)
              have hk8 := ky29.step hl2 (fun b hb => .inr (by have h' : b = b8 := hb; omega))
              have HF := Lib.hid (And.intro hmr8 hk8)
              clear hmr8 hk8 hl2
              refine wpC_only 10 (by kernel_rfl) hy29x rfl ?_
              go_wp2_with fail
              generalize (y29.setCell ⟨b8, 0, none⟩ (.bool (decide (qq < 0)))).setCell ⟨b8, 1, none⟩ (.slice Aq (digs qq.natAbs).length cq) = z8 at *
              clear hc8 hf8
              have hc9 := blk_cell h98
              have hf9 := blk_frozen h98
              obtain ⟨hl1, hl2, _⟩ := wide_laid h98 HF.out.1 (decide (x < 0))
              have h99 := blk_set (blk_set h98 0 (.bool (decide (x < 0)))) 1 (.slice Ar (digs x.natAbs).length cr)
              have hx9' := hl2.blk hx8 (by show ¬ w.heap.size = b9; omega)
              have hk9 := HF.out.2.step hl2 (fun b hb => .inr (by have h' : b = b9 := hb; omega))
              have HG := Lib.hid (And.intro hl1 (And.intro h99 hk9))
              clear hl1 h99 hk9 HF hl2
              refine wpC_only 11 (by kernel_rfl) hx8 rfl ?_
              go_wp2_with fail
              refine wpC_stop (by kernel_rfl) hx9' ?_
              go_wp2_with fail
              go_meet
              exact ⟨b9, rfl, by omega, ⟨_, _, HG.out.2.1, HG.out.1⟩, ⟨_, _, hx9'⟩, HG.out.2.2⟩
          · have hby31 := blk_new y23 (.cells #[.bool false, .slice none 0 0] 29)
            have hky31 : Keep (fun _ => False) y23 (y23.alloc (.cells #[.bool false, .slice none 0 0] 29)) := (Keep.refl _ y23).alloc _
            have lxy31 := blk_lt hy23x
            have loy31 := blk_lt hby23
            obtain ⟨b9, eby31⟩ : ∃ z, z = y23.heap.size := ⟨_, rfl⟩
            have hy31x := hky31.blk hy23x (fun h => h)
            have my31 := my23.keep hky31 (fun _ _ h => h)
            have ky31 := ky23.trans hky31
            have h8y31 := hky31.blk hby23 (fun h => h)
            go_wp2_with fail
            rw [← eby31]
            rw [← eby31] at hby31 lxy31 loy31
            clear eby31 hky31
            generalize y23.alloc (.cells #[.bool false, .slice none 0 0] 29) = y31 at *
            refine wpC_only 3 (by kernel_rfl) hy31x rfl ?_
            have HTy32 := Lib.hid (two60_128 y31)
            go_wp2_with fail
            refine HTy32.out.mono ?_
            rintro e y32 ⟨vy32, rfl, hvy32, hky32⟩
            have hy32x := hky32.blk hy31x (fun h => h)
            have my32 := my31.keep hky32 (fun _ _ h => h)
            have ky32 := ky31.trans hky32
            have h8y32 := hky32.blk h8y31 (fun h => h)
            have h9y32 := hky32.blk hby31 (fun h => h)
            rw [← HP2.out] at hvy32
            obtain ⟨mvy32, rfl, mpy32⟩ := hvy32
            have mp'y32 := mpy32
            obtain ⟨Av, cv, rfl, _, _⟩ := mp'y32
            clear HTy32 hky32
            go_wp2_with fail
            refine wpC_only 4 (by kernel_rfl) hy32x rfl ?_
            have HDy33 := Lib.hid (wideDiv23 (.agg #[.bool true, .slice A (digs x.natAbs).length c]) (.agg #[.bool (decide (p2 < 0)), .slice Av (digs p2.natAbs).length cv]) x p2 y32 (WV.of HBX.out my32) ⟨_, rfl, mpy32⟩ (by have := HP2.out; omega) (by omega) (by omega))
            rw [HTM.out] at HDy33
            obtain ⟨qq, hqq⟩ : ∃ z, z = x.tdiv p2 := ⟨_, rfl⟩
            rw [← hqq] at HDy33
            clear hqq
            go_wp2_with fail
            refine HDy33.out.mono ?_
            rintro e y33 ⟨vy33, uy33, rfl, hvy33, huy33, hky33⟩
            have hy33x := hky33.blk hy32x (fun h => h)
            have my33 := my32.keep hky33 (fun _ _ h => h)
            have ky33 := ky32.trans hky33
            have h8y33 := hky33.blk h8y32 (fun h => h)
            have h9y33 := hky33.blk h9y32 (fun h => h)
            have py33 := mpy32.keep hky33 (fun _ _ h => h)
            obtain ⟨_, rfl, mqy33⟩ := hvy33
            obtain ⟨_, rfl, mry33⟩ := huy33
            have mq'y33 := mqy33
            have mr'y33 := mry33
            obtain ⟨Aq, cq, rfl, _, _⟩ := mq'y33
            obtain ⟨Ar, cr, rfl, _, _⟩ := mr'y33
            clear HDy33 hky33
            go_wp2_with fail
            refine wpC_take 5 (by kernel_rfl) rfl rfl (fun _ _ _ h => h) (fun w' hC => BigFrame.run_move _ rfl w') ?_
            go_simp
            refine wpC_take 6 (v := .agg #[.bool (decide (qq < 0)), .slice Aq (digs qq.natAbs).length cq]) (by kernel_rfl) rfl rfl (fun _ _ _ h => h) (fun w' hC => by go_simp) ?_
            go_simp
            refine wpC_take 7 (v := .agg #[.bool (decide (x < 0)), .slice Ar (digs x.natAbs).length cr]) (by kernel_rfl) rfl rfl (fun _ _ _ h => h) (fun w' hC => by go_simp) ?_
            go_simp
            have hsb : w.heap.size < b8 ∧ w.heap.size < b9 ∧ b8 ≠ b9 := by omega
            have hc8 := blk_cell h8y33
            have hf8 := blk_frozen h8y33
            obtain ⟨_, hl2, _⟩ := wide_laid h8y33 mqy33 (decide (qq < 0))
            have hmr8 := mry33.off hc8 (wide_cells _ _ _ _) hl2
            have hx8 := hl2.blk hy33x (by show ¬ w.heap.size = b8; omega)
            have h98 := hl2.blk h9y33 (by show ¬ b9 = b8; omega)
            have hk8 := ky33.step hl2 (fun b hb => .inr (by have h' : b = b8 := hb; omega))
            have HF := Lib.hid (And.intro hmr8 hk8)
            clear hmr8 hk8 hl2
            refine wpC_only 10 (by kernel_rfl) hy33x rfl ?_
            go_wp2_with fail
            generalize (y33.setCell ⟨b8, 0, none⟩ (.bool (decide (qq < 0)))).setCell ⟨b8, 1, none⟩ (.slice Aq (digs qq.natAbs).length cq) = z8 at *
            clear hc8 hf8
            have hc9 := blk_cell h98
            have hf9 := blk_frozen h98
            obtain ⟨hl1, hl2, _⟩ := wide_laid h98 HF.out.1 (decide (x < 0))
            have h99 := blk_set (blk_set h98 0 (.bool (decide (x < 0)))) 1 (.slice Ar (digs x.natAbs).length cr)
            have hx9' := hl2.blk hx8 (by show ¬ w.heap.size = b9; omega)
            have hk9 := HF.out.2.step hl2 (fun b hb => .inr (by have h' : b = b9 := hb; omega))
            have HG := Lib.hid (And.intro hl1 (And.intro h99 hk9))
            clear hl1 h99 hk9 HF hl2
            refine wpC_only 11 (by kernel_rfl) hx8 rfl ?_
            go_wp2_with fail
            refine wpC_stop (by kernel_rfl) hx9' ?_
            go_wp2_with fail
            go_meet
            exact ⟨b9, rfl, by omega, ⟨_, _, HG.out.2.1, HG.out.1⟩, ⟨_, _, hx9'⟩, HG.out.2.2⟩
        · have hby35 := blk_new w6 (.cells #[.bool false, .slice none 0 0] 29)
          have hky35 : Keep (fun _ => False) w6 (w6.alloc (.cells #[.bool false, .slice none 0 0] 29)) := (Keep.refl _ w6).alloc _
          have lxy35 := blk_lt h06
          obtain ⟨b9, eby35⟩ : ∃ z, z = w6.heap.size := ⟨_, rfl⟩
          have hy35x := hky35.blk h06 (fun h => h)
          have my35 := mx6.keep hky35 (fun _ _ h => h)
          have ky35 := k6.trans hky35
          go_wp2_with fail
          rw [← eby35]
          rw [← eby35] at hby35 lxy35
          clear eby35 hky35
          generalize w6.alloc (.cells #[.bool false, .slice none 0 0] 29) = y35 at *
          refine wpC_two 3 8 (by kernel_rfl) hy35x rfl rfl ?_ ?_
          · have HTy36 := Lib.hid (two60_128 y35)
            go_wp2_with fail
            refine HTy36.out.mono ?_
            rintro e y36 ⟨vy36, rfl, hvy36, hky36⟩
            have hy36x := hky36.blk hy35x (fun h => h)
            have my36 := my35.keep hky36 (fun _ _ h => h)
            have ky36 := ky35.trans hky36
            have h9y36 := hky36.blk hby35 (fun h => h)
            rw [← HP2.out] at hvy36
            obtain ⟨mvy36, rfl, mpy36⟩ := hvy36
            have mp'y36 := mpy36
            obtain ⟨Av, cv, rfl, _, _⟩ := mp'y36
            clear HTy36 hky36
            go_wp2_with fail
            refine wpC_two 4 8 (by kernel_rfl) hy36x rfl rfl ?_ ?_
            · have HDy37 := Lib.hid (wideDiv23 (.agg #[.bool true, .slice A (digs x.natAbs).length c]) (.agg #[.bool (decide (p2 < 0)), .slice Av (digs p2.natAbs).length cv]) x p2 y36 (WV.of HBX.out my36) ⟨_, rfl, mpy36⟩ (by have := HP2.out; omega) (by omega) (by omega))
              rw [HTM.out] at HDy37
              obtain ⟨qq, hqq⟩ : ∃ z, z = x.tdiv p2 := ⟨_, rfl⟩
              rw [← hqq] at HDy37
              clear hqq
              go_wp2_with fail
              refine HDy37.out.mono ?_
              rintro e y37 ⟨vy37, uy37, rfl, hvy37, huy37, hky37⟩
              have hy37x := hky37.blk hy36x (fun h => h)
              have my37 := my36.keep hky37 (fun _ _ h => h)
              have ky37 := ky36.trans hky37
              have h9y37 := hky37.blk h9y36 (fun h => h)
              have py37 := mpy36.keep hky37 (fun _ _ h => h)
              obtain ⟨_, rfl, mqy37⟩ := hvy37
              obtain ⟨_, rfl, mry37⟩ := huy37
              have mq'y37 := mqy37
              have mr'y37 := mry37
              obtain ⟨Aq, cq, rfl, _, _⟩ := mq'y37
              obtain ⟨Ar, cr, rfl, _, _⟩ := mr'y37
              clear HDy37 hky37
              go_wp2_with fail
              refine wpC_take 5 (by kernel_rfl) rfl rfl (fun _ _ _ h => h) (fun w' hC => BigFrame.run_move _ rfl w') ?_
              go_simp
              refine wpC_take 6 (v := .agg #[.bool (decide (qq < 0)), .slice Aq (digs qq.natAbs).length cq]) (by kernel_rfl) rfl rfl (fun _ _ _ h => h) (fun w' hC => by go_simp) ?_
              go_simp
              refine wpC_take 7 (v := .agg #[.bool (decide (x < 0)), .slice Ar (digs x.natAbs).length cr]) (by kernel_rfl) rfl rfl (fun _ _ _ h => h) (fun w' hC => by go_simp) ?_
              go_simp
              refine wpC_only 8 (by kernel_rfl) hy37x rfl ?_
              have hby38 := blk_new y37 (.cells #[.bool false, .slice none 0 0] 29)
              have hky38 : Keep (fun _ => False) y37 (y37.alloc (.cells #[.bool false, .slice none 0 0] 29)) := (Keep.refl _ y37).alloc _
              have lxy38 := blk_lt hy37x
              have loy38 := blk_lt h9y37
              obtain ⟨b8, eby38⟩ : ∃ z, z = y37.heap.size := ⟨_, rfl⟩
              have hy38x := hky38.blk hy37x (fun h => h)
              have my38 := my37.keep hky38 (fun _ _ h => h)
              have ky38 := ky37.trans hky38
              have h9y38 := hky38.blk h9y37 (fun h => h)
              have qy38 := mqy37.keep hky38 (fun _ _ h => h)
              have ry38 := mry37.keep hky38 (fun _ _ h => h)
              go_wp2_with fail
              rw [← eby38]
              rw [← eby38] at hby38 lxy38 loy38
              clear eby38 hky38
              generalize y37.alloc (.cells #[.bool false, .slice none 0 0] 29) = y38 at *
              have hsb : w.heap.size < b8 ∧ w.heap.size < b9 ∧ b8 ≠ b9 := by omega
              have hc8 := blk_cell hby38
              have hf8 := blk_frozen hby38
              obtain ⟨_, hl2, _⟩ := wide_laid hby38 qy38 (decide (qq < 0))
              have hmr8 := ry38.off hc8 (wide_cells _ _ _ _) hl2
              have hx8 := hl2.blk hy38x (by show ¬ w.heap.size = b8; omega)
              have h98 := hl2.blk h9y38 (by show ¬ b9 = b8; omega)
              have hk8 := ky38.step hl2 (fun b hb => .inr (by have h' : b = b8 := hb; omega))
              have HF := Lib.hid (And.intro hmr8 hk8)
              clear hmr8 hk8 hl2
              refine wpC_only 10 (by kernel_rfl) hy38x rfl ?_
              go_wp2_with fail
              generalize (y38.setCell ⟨b8, 0, none⟩ (.bool (decide (qq < 0)))).setCell ⟨b8, 1, none⟩ (.slice Aq (digs qq.natAbs).length cq) = z8 at *
              clear hc8 hf8
              have hc9 := blk_cell h98
              have hf9 := blk_frozen h98
              obtain ⟨hl1, hl2, _⟩ := wide_laid h98 HF.out.1 (decide (x < 0))
              have h99 := blk_set (blk_set h98 0 (.bool (decide (x < 0)))) 1 (.slice Ar (digs x.natAbs).length cr)
              have hx9' := hl2.blk hx8 (by show ¬ w.heap.size = b9; omega)
              have hk9 := HF.out.2.step hl2 (fun b hb => .inr (by have h' : b = b9 := hb; omega))
              have HG := Lib.hid (And.intro hl1 (And.intro h99 hk9))
              clear hl1 h99 hk9 HF hl2
              refine wpC_only 11 (by kernel_rfl) hx8 rfl ?_
              go_wp2_with fail
              refine wpC_stop (by kernel_rfl) hx9' ?_
              go_wp2_with fail
              go_meet
              exact ⟨b9, rfl, by omega, ⟨_, _, HG.out.2.1, HG.out.1⟩, ⟨_, _, hx9'⟩, HG.out.2.2⟩
            · have hby40 := blk_new y36 (.cells #[.bool false, .slice none 0 0] 29)
              have hky40 : Keep (fun _ => False) y36 (y36.alloc (.cells #[.bool false, .slice none 0 0] 29)) := (Keep.refl _ y36).alloc _
              have lxy40 := blk_lt hy36x
              have loy40 := blk_lt h9y36
              obtain ⟨b8, eby40⟩ : ∃ z, z = y36.heap.size := ⟨_, rfl⟩
              have hy40x := hky40.blk hy36x (fun h => h)
              have my40 := my36.keep hky40 (fun _ _ h => h)
              have ky40 := ky36.trans hky40
              have h9y40 := hky40.blk h9y36 (fun h => h)
              have py40 := mpy36.keep hky40 (fun _ _ h => h)
              go_wp2_with fail
              rw [← eby40]
              rw [← eby40] at hby40 lxy40 loy40
              clear eby40 hky40
              generalize y36.alloc (.cells #[.bool false, .slice none 0 0] 29) = y40 at *
              refine wpC_only 4 (by kernel_rfl) hy40x rfl ?_
              have HDy41 := Lib.hid (wideDiv23 (.agg #[.bool true, .slice A (digs x.natAbs).length c]) (.agg #[.bool (decide (p2 < 0)), .slice Av (digs p2.natAbs).length cv]) x p2 y40 (WV.of HBX.out my40) ⟨_, rfl, py40⟩ (by have := HP2.out; omega) (by omega) (by omega))
              rw [HTM.out] at HDy41
              obtain ⟨qq, hqq⟩ : ∃ z, z = x.tdiv p2 := ⟨_, rfl⟩
              rw [← hqq] at HDy41
              clear hqq
              go_wp2_with fail
              refine HDy41.out.mono ?_
              rintro e y41 ⟨vy41, uy41, rfl, hvy41, huy41, hky41⟩
              have hy41x := hky41.blk hy40x (fun h => h)
              have my41 := my40.keep hky41 (fun _ _ h => h)
              have ky41 := ky40.trans hky41
              have h8y41 := hky41.blk hby40 (fun h => h)
              have h9y41 := hky41.blk h9y40 (fun h => h)
              have py41 := py40.keep hky41 (fun _ _ h => h)
              obtain ⟨_, rfl, mqy41⟩ := hvy41
              obtain ⟨_, rfl, mry41⟩ := huy41
              have mq'y41 := mqy41
              have mr'y41 := mry41
              obtain ⟨Aq, cq, rfl, _, _⟩ := mq'y41
              obtain ⟨Ar, cr, rfl, _, _⟩ := mr'y41
              clear HDy41 hky41
              go_wp2_with fail
              refine wpC_take 5 (by kernel_rfl) rfl rfl (fun _ _ _ h => h) (fun w' hC => BigFrame.run_move _ rfl w') ?_
              go_simp
              refine wpC_take 6 (v := .agg #[.bool (decide (qq < 0)), .slice Aq (digs qq.natAbs).length cq]) (by kernel_rfl) rfl rfl (fun _ _ _ h => h) (fun w' hC => by go_simp) ?_
              go_simp
              refine wpC_take 7 (v := .agg #[.bool (decide (x < 0)), .slice Ar (digs x.natAbs).length cr]) (by kernel_rfl) rfl rfl (fun _ _ _ h => h) (fun w' hC => by go_simp) ?_
              go_simp
              have hsb : w.heap.size < b8 ∧ w.heap.size < b9 ∧ b8 ≠ b9 := by omega
              have hc8 := blk_cell h8y41
              have hf8 := blk_frozen h8y41
              obtain ⟨_, hl2, _⟩ := wide_laid h8y41 mqy41 (decide (qq < 0))
              have hmr8 := mry41.off hc8 (wide_cells _ _ _ _) hl2
              have hx8 := hl2.blk hy41x (by show ¬ w.heap.size = b8; omega)
              have h98 := hl2.blk h9y41 (by show ¬ b9 = b8; omega)
              have hk8 := ky41.step hl2 (fun b hb => .inr (by have h' : b = b8 := hb; omega))
              have HF := Lib.hid (And.intro hmr8 hk8)
              clear hmr8 hk8 hl2
              refine wpC_only 10 (by kernel_rfl) hy41x rfl ?_
              go_wp2_with fail
              generalize (y41.setCell ⟨b8, 0, none⟩ (.bool (decide (qq < 0)))).setCell ⟨b8, 1, none⟩ (.slice Aq (digs qq.natAbs).length cq) = z8 at *
              clear hc8 hf8
              have hc9 := blk_cell h98
              have hf9 := blk_frozen h98
              obtain ⟨hl1, hl2, _⟩ := wide_laid h98 HF.out.1 (decide (x < 0))
              have h99 := blk_set (blk_set h98 0 (.bool (decide (x < 0)))) 1 (.slice Ar (digs x.natAbs).length cr)
              have hx9' := hl2.blk hx8 (by show ¬ w.heap.size = b9; omega)
              have hk9 := HF.out.2.step hl2 (fun b hb => .inr (by have h' : b = b9 := hb; omega))
              have HG := Lib.hid (And.intro hl1 (And.intro h99 hk9))
              clear hl1 h99 hk9 HF hl2
              refine wpC_only 11 (by kernel_rfl) hx8 rfl ?_
              go_wp2_with fail
              refine wpC_stop (by kernel_rfl) hx9' ?_
              go_wp2_with fail
              go_meet
              exact ⟨b9, rfl, by omega, ⟨_, _, HG.out.2.1, HG.out.1⟩, ⟨_, _, hx9'⟩, HG.out.2.2⟩
          · have hby43 := blk_new y35 (.cells #[.bool false, .slice none 0 0] 29)
            have hky43 : Keep (fun _ => False) y35 (y35.alloc (.cells #[.bool false, .slice none 0 0] 29)) := (Keep.refl _ y35).alloc _
            have lxy43 := blk_lt hy35x
            have loy43 := blk_lt hby35
            obtain ⟨b8, eby43⟩ : ∃ z, z = y35.heap.size := ⟨_, rfl⟩
            have hy43x := hky43.blk hy35x (fun h => h)
            have my43 := my35.keep hky43 (fun _ _ h => h)
            have ky43 := ky35.trans hky43
            have h9y43 := hky43.blk hby35 (fun h => h)
            go_wp2_with fail
            rw [← eby43]
            rw [← eby43] at hby43 lxy43 loy43
            clear eby43 hky43
            generalize y35.alloc (.cells #[.bool false, .slice none 0 0] 29) = y43 at *
            refine wpC_only 3 (by kernel_rfl) hy43x rfl ?_
            have HTy44 := Lib.hid (two60_128 y43)
            go_wp2_with fail
            refine HTy44.out.mono ?_
            rintro e y44 ⟨vy44, rfl, hvy44, hky44⟩
            have hy44x := hky44.blk hy43x (fun h => h)
            have my44 := my43.keep hky44 (fun _ _ h => h)
            have ky44 := ky43.trans hky44
            have h8y44 := hky44.blk hby43 (fun h => h)
            have h9y44 := hky44.blk h9y43 (fun h => h)
            rw [← HP2.out] at hvy44
            obtain ⟨mvy44, rfl, mpy44⟩ := hvy44
            have mp'y44 := mpy44
            obtain ⟨Av, cv, rfl, _, _⟩ := mp'y44
            clear HTy44 hky44
            go_wp2_with fail
            refine wpC_only 4 (by kernel_rfl) hy44x rfl ?_
            have HDy45 := Lib.hid (wideDiv23 (.agg #[.bool true, .slice A (digs x.natAbs).length c]) (.agg #[.bool (decide (p2 < 0)), .slice Av (digs p2.natAbs).length cv]) x p2 y44 (WV.of HBX.out my44) ⟨_, rfl, mpy44⟩ (by have := HP2.out; omega) (by omega) (by omega))
            rw [HTM.out] at HDy45
            obtain ⟨qq, hqq⟩ : ∃ z, z = x.tdiv p2 := ⟨_, rfl⟩
            rw [← hqq] at HDy45
            clear hqq
            go_wp2_with fail
            refine HDy45.out.mono ?_
            rintro e y45 ⟨vy45, uy45, rfl, hvy45, huy45, hky45⟩
            have hy45x := hky45.blk hy44x (fun h => h)
            have my45 := my44.keep hky45 (fun _ _ h => h)
            have ky45 := ky44.trans hky45
            have h8y45 := hky45.blk h8y44 (fun h => h)
            have h9y45 := hky45.blk h9y44 (fun h => h)
            have py45 := mpy44.keep hky45 (fun _ _ h => h)
            obtain ⟨_, rfl, mqy45⟩ := hvy45
            obtain ⟨_, rfl, mry45⟩ := huy45
            have mq'y45 := mqy45
            have mr'y45 := mry45
            obtain ⟨Aq, cq, rfl, _, _⟩ := mq'y45
            obtain ⟨Ar, cr, rfl, _, _⟩ := mr'y45
            clear HDy45 hky45
            go_wp2_with fail
            refine wpC_take 5 (by kernel_rfl) rfl rfl (fun _ _ _ h => h) (fun w' hC => BigFrame.run_move _ rfl w') ?_
            go_simp
            refine wpC_take 6 (v := .agg #[.bool (decide (qq < 0)), .slice Aq (digs qq.natAbs).length cq]) (by kernel_rfl) rfl rfl (fun _ _ _ h => h) (fun w' hC => by go_simp) ?_
            go_simp
            refine wpC_take 7 (v := .agg #[.bool (decide (x < 0)), .slice Ar (digs x.natAbs).length cr]) (by kernel_rfl) rfl rfl (fun _ _ _ h => h) (fun w' hC => by go_simp) ?_
            go_simp
            have hsb : w.heap.size < b8 ∧ w.heap.size < b9 ∧ b8 ≠ b9 := by omega
            have hc8 := blk_cell h8y45
            have hf8 := blk_frozen h8y45
            obtain ⟨_, hl2, _⟩ := wide_laid h8y45 mqy45 (decide (qq < 0))
            have hmr8 := mry45.off hc8 (wide_cells _ _ _ _) hl2
            have hx8 := hl2.blk hy45x (by show ¬ w.heap.size = b8; omega)
            have h98 := hl2.blk h9y45 (by show ¬ b9 = b8; omega)
            have hk8 := ky45.step hl2 (fun b hb => .inr (by have h' : b = b8 := hb; omega))
            have HF := Lib.hid (And.intro hmr8 hk8)
            clear hmr8 hk8 hl2
            refine wpC_only 10 (by kernel_rfl) hy45x rfl ?_
            go_wp2_with fail
            generalize (y45.setCell ⟨b8, 0, none⟩ (.bool (decide (qq < 0)))).setCell ⟨b8, 1, none⟩ (.slice Aq (digs qq.natAbs).length cq) = z8 at *
            clear hc8 hf8
            have hc9 := blk_cell h98
            have hf9 := blk_frozen h98
            obtain ⟨hl1, hl2, _⟩ := wide_laid h98 HF.out.1 (decide (x < 0))
            have h99 := blk_set (blk_set h98 0 (.bool (decide (x < 0)))) 1 (.slice Ar (digs x.natAbs).length cr)
            have hx9' := hl2.blk hx8 (by show ¬ w.heap.size = b9; omega)
            have hk9 := HF.out.2.step hl2 (fun b hb => .inr (by have h' : b = b9 := hb; omega))
            have HG := Lib.hid (And.intro hl1 (And.intro h99 hk9))
            clear hl1 h99 hk9 HF hl2
            refine wpC_only 11 (by kernel_rfl) hx8 rfl ?_
            go_wp2_with fail
            refine wpC_stop (by kernel_rfl) hx9' ?_
            go_wp2_with fail
            go_meet
            exact ⟨b9, rfl, by omega, ⟨_, _, HG.out.2.1, HG.out.1⟩, ⟨_, _, hx9'⟩, HG.out.2.2⟩
      case rest =>
        obtain ⟨b9, rfl, hb9, ⟨A9, c9, h9, m9⟩, ⟨Ax, cx, hxb⟩, hk⟩ := hcut
        clear h05 h65 hc05 HA5
        have HT := Lib.hid (two60_128 wc.drew)
        go_wp2_with fail
        refine wp_region_takesC (fun w' => w'.heap[b9]? = some (.cells #[.bool (decide (x < 0)), .slice A9 (digs x.natAbs).length c9] 29 (0, 0))) (by kernel_rfl) ?_
        go_simp
        refine wpC_take 0 (v := .agg #[.bool (decide (x < 0)), .slice A9 (digs x.natAbs).length c9]) (by kernel_rfl) rfl rfl (fun _ _ _ h => h) (fun w' hC => by have hc := blk_cell hC; go_simp) ?_
        go_simp
        refine wpC_take 1 (by kernel_rfl) rfl rfl (fun _ _ _ h => h) (fun w' hC => BigFrame.run_move _ rfl w') ?_
        go_simp
        refine wpC_take 2 (v := .int .i64 128) (by kernel_rfl) rfl rfl (fun _ _ _ h => h) (fun w' hC => by go_simp; rfl) ?_
        go_simp
        refine wpC_only 3 (by kernel_rfl) (blk_drew h9) rfl ?_
        go_wp2_with fail
        refine HT.out.mono ?_
        rintro e wd ⟨vd, rfl, hvd, hkd⟩
        have hkd := (Keep.refl (fun _ => False) wc).drew.trans hkd
        rw [← HP2.out] at hvd
        have h9d := hkd.blk h9 (fun h => h)
        have hxd := hkd.blk hxb (fun h => h)
        have HAd := wideAdd26 (.agg #[.bool (decide (x < 0)), .slice A9 (digs x.natAbs).length c9]) vd x p2 wd ⟨_, rfl, m9.keep hkd (fun _ _ h => h)⟩ hvd (by omega) (by omega)
        obtain ⟨y, hy⟩ : ∃ y, y = x + p2 := ⟨_, rfl⟩
        rw [← hy] at HAd
        have HAd := Lib.hid HAd
        have HY := Lib.hid (show x % 340282366920938463463374607431768211456 = y by
          rw [hy, HP2.out]
          have := HX.out
          have := HP.out
          have := HNEG.out
          omega)
        have hkD := hk.trans hkd
        obtain ⟨md, rfl, hmd⟩ := hvd
        obtain ⟨Ad, cd, rfl, _, _⟩ := hmd
        clear HT hkd h9 hxb m9 hk hy
        go_wp2_with fail
        refine wpC_only 4 (by kernel_rfl) h9d rfl ?_
        go_wp2_with fail
        refine HAd.out.mono ?_
        rintro e we ⟨ve, rfl, hve, hke⟩
        obtain ⟨me, rfl, hme⟩ := hve
        have hme' := hme
        obtain ⟨Ae, ce, rfl, _, _⟩ := hme'
        have h9e := hke.blk h9d (fun h => h)
        have hxe := hke.blk hxd (fun h => h)
        have hcx := blk_cell hxe
        have hfx := blk_frozen hxe
        obtain ⟨hl1, hl2, _⟩ := wide_laid hxe hme (decide (y < 0))
        have hxf := blk_set (blk_set hxe 0 (.bool (decide (y < 0)))) 1 (.slice Ae (digs y.natAbs).length ce)
        have h9f := hl2.blk h9e (by show ¬ b9 = w.heap.size; omega)
        have hkE := (hkD.trans hke).step hl2 (fun b hb => .inr (by have h' : b = w.heap.size := hb; omega))
        have HL := Lib.hid (And.intro hl1 (And.intro hxf hkE))
        clear hl1 hl2 hxf hkE HAd hkD hke hme
        go_wp2_with fail
        refine wpC_only 5 (by kernel_rfl) h9e rfl ?_
        go_wp2_with fail
        refine wpC_stop (by kernel_rfl) h9f ?_
        go_wp2_with fail
        go_meet
        rw [HY.out]
        exact ⟨⟨_, _, HL.out.2.1, HL.out.1⟩, HL.out.2.2⟩
    case false =>
      have hneg : ¬ x < 0 := of_decide_eq_false HBX.out
      have hxm : x % 340282366920938463463374607431768211456 = x := by
        have := HX.out
        have := HP.out
        omega
      have HXM := Lib.hid hxm
      clear hxm hneg
      go_wp2_with fail
      go_meet
      rw [HXM.out]
      exact ⟨⟨_, _, by rw [HBX.out]; exact h05, HA5.out.1⟩, HA5.out.2⟩
  case rest =>
    obtain ⟨⟨B, d, hb, hm⟩, hk⟩ := hcut
    obtain ⟨y, hy⟩ : ∃ y : Nat, (y : Int) = x % 340282366920938463463374607431768211456 := ⟨(x % 340282366920938463463374607431768211456).toNat, by omega⟩
    rw [← hy, Int.natAbs_natCast] at hb hm
    have hy9 : y < 340282366920938463463374607431768211456 := by omega
    have hl4 : (digs y).length ≤ 4 := digs_length_le hy9
    have HYW := Lib.hid (show (x % 18446744073709551616).toNat = y % 18446744073709551616 ∧ (x / 18446744073709551616 % 18446744073709551616).toNat = y / 18446744073709551616 by omega)
    rw [show decide ((y : Int) < 0) = false by simp] at hb
    have hcb := blk_cell hb
    have hmk : (Instr.makeSlice 22 (.int .i64 2) (.int .i64 2)).run Tryz.prog wc = .ok (.slice (some ⟨wc.heap.size, 0, none⟩) 2 2) (wc.alloc (.cells (madeCells #[.int .u64 0] 2) 25)) :=
      make_small (t := 22) (e := 25) (by kernel_rfl) (by kernel_rfl : (Tryz.prog.info? 25).map (fun i => (i.zero, i.size, i.bytes)) = some (some (.int .u64 0), 1, 8)) rfl (by omega) 2 (by omega) wc
    clear hy h05 h65 hc05 HA5
    go_wp2_with fail
    obtain ⟨q, hq⟩ : ∃ q, q = wc.heap.size := ⟨_, rfl⟩
    have hg0 : (wc.alloc (.cells (madeCells #[.int .u64 0] 2) 25)).heap[q]? = some (.cells (cvs y 0 0) 25 (0, 0)) := by
      rw [hq, show cvs y 0 0 = madeCells #[.int .u64 0] 2 by apply Array.ext'; rw [made_list]; simp [cvs, cv, List.replicate]]
      exact blk_new wc _
    have hk1 : Keep (fun _ => False) wc (wc.alloc (.cells (madeCells #[.int .u64 0] 2) 25)) := (Keep.refl _ wc).alloc _
    have hb1 := hk1.blk hb (fun h => h)
    have hm1 := hm.keep hk1 (fun _ _ h => h)
    have hkA := hk.trans hk1
    have hsq := blk_lt hb
    rw [← hq] at hsq ⊢
    have hwq : w.heap.size ≤ q := by omega
    clear hb hm hcb hmk hk1 hk hq
    generalize wc.alloc (.cells (madeCells #[.int .u64 0] 2) 25) = wd at *
    have HD := Lib.hid (And.intro hm1 (And.intro hkA (blk_cell hg0)))
    clear hm1 hkA
    go_loopw [47] (fun i wr => ∃ k : Nat, k ≤ 2 ∧ i = .int .i64 k ∧ wr.heap[q]? = some (.cells (cvs y k 0) 25 (0, 0)) ∧ Keep (fun b => b = q) wd wr) (fun i _ => 2 - (intOf i).toNat)
    case atStart => exact ⟨0, by omega, rfl, hg0, Keep.refl _ _⟩
    case round =>
      obtain ⟨k, hk2, rfl, hgk, hkr⟩ := hrel
      by_cases hend : k < 2
      · have hkk : (k : Int) < 2 := by omega
        go_wp2_with fail
        go_loopw [12] (fun i wr => ∃ t : Nat, t ≤ 2 ∧ i = .int .i64 t ∧ wr.heap[q]? = some (.cells (cvs y k t) 25 (0, 0)) ∧ Keep (fun b => b = q) wd wr) (fun i _ => 2 - (intOf i).toNat)
        case atStart => exact ⟨0, by omega, rfl, hgk, hkr⟩
        case round =>
          obtain ⟨t, ht2, rfl, hgt, hkt⟩ := hrel
          have hbt := hkt.blk hb1 (by show ¬ w.heap.size = q; omega)
          have hcb := blk_cell hbt
          have hcq := blk_cell hgt
          have hfq := blk_frozen hgt
          have hmt := HD.out.1.off HD.out.2.2 (cvs_no32 y 0 0) hkt
          by_cases htt : t < 2
          · obtain rfl | rfl : k = 0 ∨ k = 1 := by omega
            · obtain rfl | rfl : t = 0 ∨ t = 1 := by omega
              · have hval : cvs y 0 (1) = (cvs y 0 0).setIfInBounds 0 (.int .u64 ((cv y 0 0 0 + (digs y).getD 0 0 : Nat) : Int)) := by
                  simp [cvs, cv]
                by_cases hin : 0 < (digs y).length
                · obtain ⟨g, oo, rfl, hcell⟩ := hmt.cell 0 hin
                  obtain ⟨dd, hdd⟩ : ∃ z, z = (digs y).getD 0 0 := ⟨_, rfl⟩
                  rw [← hdd] at hcell hval
                  rw [Nat.add_zero] at hcell
                  have hd9 : dd < 4294967296 := by rw [hdd]; exact getD_lt (digs_digs y) _
                  have hi : (0 : Int) < ((digs y).length : Nat) := by omega
                  obtain ⟨cc, hcc⟩ : ∃ z, z = cv y 0 0 0 := ⟨_, rfl⟩
                  have hcc9 : cc < 1 := by rw [hcc]; simp [cv]
                  have hcK : wr.cell? ⟨q, 0, none⟩ = some (.int .u64 cc) := by rw [hcq, hcc]; rfl
                  rw [← hcc] at hval
                  have w5 : IntKind.u64.wrap (dd : Int) = (dd : Int) := by rw [IntKind.wrap_u64]; omega
                  have w6 : IntKind.u64.wrap (dd : Int) = (dd : Int) := by rw [IntKind.wrap_u64]; omega
                  have hor : bits .or .u64 (cc : Int) (dd : Int) = ((cc + dd : Nat) : Int) := by
                    have hc0 : cc = 0 := by omega
                    subst hc0
                    have := bits_or_u64_nat 0 dd (by decide) (by omega)
                    rw [Nat.zero_or] at this
                    rw [Nat.zero_add]
                    exact this
                  have HV := Lib.hid (And.intro hval hor)
                  clear hval hdd hcc hcq hgk hor hcc9
                  go_wp2_with fail
                  refine wp_region_mid 18 (by kernel_rfl) (by kernel_rfl) rfl ?_
                  simp only [List.take_succ_cons, List.take_zero, List.drop_succ_cons, List.drop_zero]
                  repeat (go_big_quiet_step (fail))
                  refine wpQuiet_nil ?_
                  rintro _ ⟨nq2, rfl⟩
                  go_wp2_with fail
                  refine wpQuiet_nil ?_
                  rintro _ ⟨nq3, rfl⟩
                  go_wp2_with fail
                  go_roundw
                  case rel =>
                    rw [HV.out.2]
                    exact ⟨1, by omega, by go_num, by rw [HV.out.1]; exact blk_drewN (blk_set (blk_drewN hgt nq2) 0 _) nq3, ((hkt.drewN nq2).setCell (p := ⟨q, 0, none⟩) (.inl rfl) _).drewN nq3⟩
                  case measure => simp [intOf]
                · have hz : (digs y).getD 0 0 = 0 := getD_out 0 (by omega)
                  have hi : ¬ ((0 : Int) < ((digs y).length : Nat)) := by omega
                  have hsame : cvs y 0 (1) = cvs y 0 0 := by
                    rw [hval, hz]
                    simp [cvs, cv]
                  have HV := Lib.hid hsame
                  clear hval hz hsame hcq hgk
                  go_wp2_with fail
                  go_roundw
                  case rel => exact ⟨1, by omega, by go_num, by rw [HV.out]; exact hgt, hkt⟩
                  case measure => simp [intOf]
              · have hval : cvs y 0 (2) = (cvs y 0 1).setIfInBounds 0 (.int .u64 ((cv y 0 0 1 + 4294967296 * (digs y).getD 1 0 : Nat) : Int)) := by
                  simp [cvs, cv]
                by_cases hin : 1 < (digs y).length
                · obtain ⟨g, oo, rfl, hcell⟩ := hmt.cell 1 hin
                  obtain ⟨dd, hdd⟩ : ∃ z, z = (digs y).getD 1 0 := ⟨_, rfl⟩
                  rw [← hdd] at hcell hval
                  have hd9 : dd < 4294967296 := by rw [hdd]; exact getD_lt (digs_digs y) _
                  have hi : (1 : Int) < ((digs y).length : Nat) := by omega
                  obtain ⟨cc, hcc⟩ : ∃ z, z = cv y 0 0 1 := ⟨_, rfl⟩
                  have hcc9 : cc < 4294967296 := by rw [hcc]; simp [cv]; exact getD_lt (digs_digs y) _
                  have hcK : wr.cell? ⟨q, 0, none⟩ = some (.int .u64 cc) := by rw [hcq, hcc]; rfl
                  rw [← hcc] at hval
                  have w5 : IntKind.u64.wrap (dd : Int) = (dd : Int) := by rw [IntKind.wrap_u64]; omega
                  have w6 : IntKind.u64.wrap ((dd : Int) * 4294967296) = (dd : Int) * 4294967296 := by rw [IntKind.wrap_u64]; omega
                  have hor : bits .or .u64 (cc : Int) ((dd : Int) * 4294967296) = ((cc + 4294967296 * dd : Nat) : Int) := by
                    have := bits_or_u64_nat cc (4294967296 * dd) (by omega) (by omega)
                    rw [Nat.or_comm, ← Nat.two_pow_add_eq_or_of_lt (i := 32) hcc9 dd] at this
                    rw [show ((dd : Int) * 4294967296) = ((4294967296 * dd : Nat) : Int) by omega, this, Nat.add_comm]
                  have HV := Lib.hid (And.intro hval hor)
                  clear hval hdd hcc hcq hgk hor hcc9
                  go_wp2_with fail
                  refine wp_region_mid 18 (by kernel_rfl) (by kernel_rfl) rfl ?_
                  simp only [List.take_succ_cons, List.take_zero, List.drop_succ_cons, List.drop_zero]
                  repeat (go_big_quiet_step (fail))
                  refine wpQuiet_nil ?_
                  rintro _ ⟨nq2, rfl⟩
                  go_wp2_with fail
                  refine wpQuiet_nil ?_
                  rintro _ ⟨nq3, rfl⟩
                  go_wp2_with fail
                  go_roundw
                  case rel =>
                    rw [HV.out.2]
                    exact ⟨2, by omega, by go_num, by rw [HV.out.1]; exact blk_drewN (blk_set (blk_drewN hgt nq2) 0 _) nq3, ((hkt.drewN nq2).setCell (p := ⟨q, 0, none⟩) (.inl rfl) _).drewN nq3⟩
                  case measure => simp [intOf]
                · have hz : (digs y).getD 1 0 = 0 := getD_out 1 (by omega)
                  have hi : ¬ ((1 : Int) < ((digs y).length : Nat)) := by omega
                  have hsame : cvs y 0 (2) = cvs y 0 1 := by
                    rw [hval, hz]
                    simp [cvs, cv]
                  have HV := Lib.hid hsame
                  clear hval hz hsame hcq hgk
                  go_wp2_with fail
                  go_roundw
                  case rel => exact ⟨2, by omega, by go_num, by rw [HV.out]; exact hgt, hkt⟩
                  case measure => simp [intOf]
            · obtain rfl | rfl : t = 0 ∨ t = 1 := by omega
              · have hval : cvs y 1 (1) = (cvs y 1 0).setIfInBounds 1 (.int .u64 ((cv y 1 1 0 + (digs y).getD 2 0 : Nat) : Int)) := by
                  simp [cvs, cv]
                by_cases hin : 2 < (digs y).length
                · obtain ⟨g, oo, rfl, hcell⟩ := hmt.cell 2 hin
                  obtain ⟨dd, hdd⟩ : ∃ z, z = (digs y).getD 2 0 := ⟨_, rfl⟩
                  rw [← hdd] at hcell hval
                  have hd9 : dd < 4294967296 := by rw [hdd]; exact getD_lt (digs_digs y) _
                  have hi : (2 : Int) < ((digs y).length : Nat) := by omega
                  obtain ⟨cc, hcc⟩ : ∃ z, z = cv y 1 1 0 := ⟨_, rfl⟩
                  have hcc9 : cc < 1 := by rw [hcc]; simp [cv]
                  have hcK : wr.cell? ⟨q, 1, none⟩ = some (.int .u64 cc) := by rw [hcq, hcc]; rfl
                  rw [← hcc] at hval
                  have w5 : IntKind.u64.wrap (dd : Int) = (dd : Int) := by rw [IntKind.wrap_u64]; omega
                  have w6 : IntKind.u64.wrap (dd : Int) = (dd : Int) := by rw [IntKind.wrap_u64]; omega
                  have hor : bits .or .u64 (cc : Int) (dd : Int) = ((cc + dd : Nat) : Int) := by
                    have hc0 : cc = 0 := by omega
                    subst hc0
                    have := bits_or_u64_nat 0 dd (by decide) (by omega)
                    rw [Nat.zero_or] at this
                    rw [Nat.zero_add]
                    exact this
                  have HV := Lib.hid (And.intro hval hor)
                  clear hval hdd hcc hcq hgk hor hcc9
                  go_wp2_with fail
                  refine wp_region_mid 18 (by kernel_rfl) (by kernel_rfl) rfl ?_
                  simp only [List.take_succ_cons, List.take_zero, List.drop_succ_cons, List.drop_zero]
                  repeat (go_big_quiet_step (fail))
                  refine wpQuiet_nil ?_
                  rintro _ ⟨nq2, rfl⟩
                  go_wp2_with fail
                  refine wpQuiet_nil ?_
                  rintro _ ⟨nq3, rfl⟩
                  go_wp2_with fail
                  go_roundw
                  case rel =>
                    rw [HV.out.2]
                    exact ⟨1, by omega, by go_num, by rw [HV.out.1]; exact blk_drewN (blk_set (blk_drewN hgt nq2) 1 _) nq3, ((hkt.drewN nq2).setCell (p := ⟨q, 1, none⟩) (.inl rfl) _).drewN nq3⟩
                  case measure => simp [intOf]
                · have hz : (digs y).getD 2 0 = 0 := getD_out 2 (by omega)
                  have hi : ¬ ((2 : Int) < ((digs y).length : Nat)) := by omega
                  have hsame : cvs y 1 (1) = cvs y 1 0 := by
                    rw [hval, hz]
                    simp [cvs, cv]
                  have HV := Lib.hid hsame
                  clear hval hz hsame hcq hgk
                  go_wp2_with fail
                  go_roundw
                  case rel => exact ⟨1, by omega, by go_num, by rw [HV.out]; exact hgt, hkt⟩
                  case measure => simp [intOf]
              · have hval : cvs y 1 (2) = (cvs y 1 1).setIfInBounds 1 (.int .u64 ((cv y 1 1 1 + 4294967296 * (digs y).getD 3 0 : Nat) : Int)) := by
                  simp [cvs, cv]
                by_cases hin : 3 < (digs y).length
                · obtain ⟨g, oo, rfl, hcell⟩ := hmt.cell 3 hin
                  obtain ⟨dd, hdd⟩ : ∃ z, z = (digs y).getD 3 0 := ⟨_, rfl⟩
                  rw [← hdd] at hcell hval
                  have hd9 : dd < 4294967296 := by rw [hdd]; exact getD_lt (digs_digs y) _
                  have hi : (3 : Int) < ((digs y).length : Nat) := by omega
                  obtain ⟨cc, hcc⟩ : ∃ z, z = cv y 1 1 1 := ⟨_, rfl⟩
                  have hcc9 : cc < 4294967296 := by rw [hcc]; simp [cv]; exact getD_lt (digs_digs y) _
                  have hcK : wr.cell? ⟨q, 1, none⟩ = some (.int .u64 cc) := by rw [hcq, hcc]; rfl
                  rw [← hcc] at hval
                  have w5 : IntKind.u64.wrap (dd : Int) = (dd : Int) := by rw [IntKind.wrap_u64]; omega
                  have w6 : IntKind.u64.wrap ((dd : Int) * 4294967296) = (dd : Int) * 4294967296 := by rw [IntKind.wrap_u64]; omega
                  have hor : bits .or .u64 (cc : Int) ((dd : Int) * 4294967296) = ((cc + 4294967296 * dd : Nat) : Int) := by
                    have := bits_or_u64_nat cc (4294967296 * dd) (by omega) (by omega)
                    rw [Nat.or_comm, ← Nat.two_pow_add_eq_or_of_lt (i := 32) hcc9 dd] at this
                    rw [show ((dd : Int) * 4294967296) = ((4294967296 * dd : Nat) : Int) by omega, this, Nat.add_comm]
                  have HV := Lib.hid (And.intro hval hor)
                  clear hval hdd hcc hcq hgk hor hcc9
                  go_wp2_with fail
                  refine wp_region_mid 18 (by kernel_rfl) (by kernel_rfl) rfl ?_
                  simp only [List.take_succ_cons, List.take_zero, List.drop_succ_cons, List.drop_zero]
                  repeat (go_big_quiet_step (fail))
                  refine wpQuiet_nil ?_
                  rintro _ ⟨nq2, rfl⟩
                  go_wp2_with fail
                  refine wpQuiet_nil ?_
                  rintro _ ⟨nq3, rfl⟩
                  go_wp2_with fail
                  go_roundw
                  case rel =>
                    rw [HV.out.2]
                    exact ⟨2, by omega, by go_num, by rw [HV.out.1]; exact blk_drewN (blk_set (blk_drewN hgt nq2) 1 _) nq3, ((hkt.drewN nq2).setCell (p := ⟨q, 1, none⟩) (.inl rfl) _).drewN nq3⟩
                  case measure => simp [intOf]
                · have hz : (digs y).getD 3 0 = 0 := getD_out 3 (by omega)
                  have hi : ¬ ((3 : Int) < ((digs y).length : Nat)) := by omega
                  have hsame : cvs y 1 (2) = cvs y 1 1 := by
                    rw [hval, hz]
                    simp [cvs, cv]
                  have HV := Lib.hid hsame
                  clear hval hz hsame hcq hgk
                  go_wp2_with fail
                  go_roundw
                  case rel => exact ⟨2, by omega, by go_num, by rw [HV.out]; exact hgt, hkt⟩
                  case measure => simp [intOf]
          · obtain rfl : t = 2 := by omega
            go_wp2_with fail
            go_roundw
            case rel => exact ⟨k + 1, by omega, by go_num, by rw [← cvs_next y k hend]; exact hgt, hkt⟩
            case measure => simp [intOf]; omega
      · obtain rfl : k = 2 := by omega
        have hfin := hgk
        rw [cvs_end y hy9] at hfin
        have hc := blk_cell hfin
        have hKE := HD.out.2.1.step hkr (fun b hb => .inr (by have h' : b = q := hb; omega))
        have HE := Lib.hid (And.intro hc hKE)
        clear hgk hfin hc hKE
        go_wp2_with fail
        go_ret2
        refine ⟨.slice (some ⟨q, 0, none⟩) 2 2, rfl, ⟨q, 0, 2, rfl, ?_, ?_⟩, HE.out.2⟩
        · rw [HYW.out.1, HE.out.1]; rfl
        · rw [HYW.out.2, HE.out.1]; rfl
end Go.Proofs.YtamkglgiaiejkaaGreatDoor
