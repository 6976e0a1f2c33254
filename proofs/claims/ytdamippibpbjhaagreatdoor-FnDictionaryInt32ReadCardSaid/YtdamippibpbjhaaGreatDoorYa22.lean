import Derived.Test.YtdamippibpbjhaaGreatDoorYa21
import Derived.Test.YtdamippibpbjhaaGreatDoorYa15
import Derived.Deep.CutBlock
import Derived.Deep.DeepCutAuto
import Derived.Laws.IdiomCopy
/-! Numbers are decoded: numbers of 64 bits. -/
namespace Go.Proofs.YtdamippibpbjhaaGreatDoor
open Go.RowKit

set_option maxRecDepth 100000 in
set_option maxHeartbeats 8000000 in
theorem decode64 {E : Env} {db mb : Nat} {y : Way} {l : List Int} {Y : Lay E.D y l} {O : Nat → Prop} {v : Nat} {w : World} (hF : Fine E db mb y l) (h : DSt E 206 2 enc64 db mb Y O v w) (og oo n cap : Nat) (ocs : Array Value) (ot : TypeId) (hcap : n ≤ cap ∧ cap ≤ 5000)
    (hog : w.heap[og]? = some (.cells ocs ot (0, 0))) (hosz : oo + n ≤ ocs.size) (hO : ¬ O og) (hg : og ≠ E.g) (h2 : og ≠ 2) :
    Calls Tryz.prog 76 #[.pointer (some ⟨db, 0, none⟩), .slice (some ⟨og, oo, none⟩) n cap] w fun e w' => e = .returned (.tuple #[.int .i64 (min n (l.length - v) : Nat), .nilIface]) ∧ Keep (fun b => O b ∨ b = og) w w' ∧
      (∃ O', (∀ b, O' b → O b ∨ w.heap.size ≤ b) ∧ DSt E 206 2 enc64 db mb Y O' (v + min n (l.length - v)) w') ∧
      ∃ ocs', w'.heap[og]? = some (.cells ocs' ot (0, 0)) ∧ ocs'.size = ocs.size ∧ ∀ j, j < min n (l.length - v) → ocs'[oo + j]? = some (enc64 (Y.acc (v + j))) := by
  obtain ⟨d, mc, hnv, hus, hat⟩ := h.st
  have hle := h.le
  have hlen := hF.hlen
  have hoc := h.oc
  have hogl := blk_lt hog
  have hdbo : og ≠ db := fun e => hO (e ▸ hoc.od)
  obtain ⟨R, hR⟩ : ∃ R, R = l.length - v := ⟨_, rfl⟩
  obtain ⟨K, hK⟩ : ∃ K, K = min n R := ⟨_, rfl⟩
  obtain ⟨ub, hub⟩ : ∃ ub, ub = decide (0 < v) := ⟨_, rfl⟩
  rw [← hR, ← hK]
  rw [← hR] at hnv
  rw [← hub] at hus
  have HMin := Lib.hid (min_any n R w)
  rw [← hK] at HMin
  have hc := blk_cell hat.dec
  have hf := blk_frozen hat.dec
  simp only [DV.cells] at hc
  rw [hnv, hus] at hc
  have HN := Lib.hid hnv
  have HUS := Lib.hid hus
  have HR := Lib.hid hR
  have HK := Lib.hid hK
  have HU := Lib.hid hub
  have hKn : K ≤ n := by omega
  have hKR : K ≤ R := by omega
  clear hR hK hub hnv hus
  go_enter Tryz.func76, Tryz.ntmps76
  go_wp2_with fail
  refine HMin.out.mono ?_
  rintro e w1 ⟨rfl, hw1⟩
  have hw1' := hw1.symm
  clear hw1
  subst hw1'
  by_cases h0 : K = 0
  · subst h0
    go_wp2_with fail
    go_ret2
    exact ⟨rfl, Keep.refl _ w, ⟨O, fun b hb => .inl hb, h⟩, ocs, hog, rfl, fun j hj => absurd hj (by omega)⟩
  · have hK0 : ((K : Int) == 0) = false := by simp; omega
    have hKi : (0 : Int) ≤ (K : Int) := by omega
    have hKc : (K : Int) ≤ (cap : Int) := by omega
    go_upto_if 27 with fail
    go_cut [1] from 27 to 38 (fun r wr => ∃ q s c1 a d', q + s = K ∧ q + c1 = cap ∧ (0 < s → a = oo + q) ∧ r = .slice (some ⟨og, a, none⟩) s c1 ∧ 1 ≤ v + q ∧ At E 206 2 enc64 db mb Y O (v + q) d' mc wr ∧ d'.nv = d.nv ∧ d'.used = true ∧ Keep (fun b => O b ∨ b = og) w wr ∧ Oc E db mb O wr ∧
      ∃ xs, wr.heap[og]? = some (.cells xs ot (0, 0)) ∧ xs.size = ocs.size ∧ ∀ j, j < q → xs[oo + j]? = some (enc64 (Y.acc (v + j))))
    case first =>
      by_cases hv0 : v = 0
      · obtain rfl : ub = false := by rw [HU.out]; simp [hv0]
        have hocl : w.cell? ⟨og, oo, none⟩ = some (ocs[oo]'(by omega)) := by rw [blk_cell hog]; simp
        have hofr := blk_frozen hog oo
        have hlv : d.lv = Y.acc 0 := by
          rcases hat with ⟨_, h2⟩ | ⟨dd, x, k, j, i, h1, _⟩
          · exact h2.lv
          · omega
        have hkx : Keep (fun b => b = og) w (w.setCell ⟨og, oo, none⟩ (enc64 (Y.acc 0))) := (Keep.refl (fun b => b = og) w).setCell (p := ⟨og, oo, none⟩) (.inl rfl) _
        have hat2 := hat.off hoc hkx (fun b hb => by rw [hb]; exact ⟨hO, hg, h2⟩)
        have hAt : At E 206 2 enc64 db mb Y O (v + 1) { d with used := true } mc ((w.setCell ⟨og, oo, none⟩ (enc64 (Y.acc 0))).setCell ⟨db, 4, none⟩ (.bool true)) := by
          rcases hat2.used hF.hA true with ⟨h1, h2⟩ | ⟨dd, x, k, j, i, h1, _⟩
          · exact .inl ⟨by omega, h2⟩
          · omega
        have hk1 : Keep (fun b => O b ∨ b = og) w ((w.setCell ⟨og, oo, none⟩ (enc64 (Y.acc 0))).setCell ⟨db, 4, none⟩ (.bool true)) := ((Keep.refl _ w).setCell (p := ⟨og, oo, none⟩) (.inl (.inr rfl)) _).setCell (p := ⟨db, 4, none⟩) (.inl (.inl hoc.od)) _
        have hog1 := blk_far (blk_set hog oo (enc64 (Y.acc 0))) (p := ⟨db, 4, none⟩) (fun e => hdbo e.symm) (.bool true)
        have hrow1 : ∀ j, j < 1 → (ocs.setIfInBounds oo (enc64 (Y.acc 0)))[oo + j]? = some (enc64 (Y.acc (v + j))) := fun j hj => by
          obtain rfl : j = 0 := by omega
          rw [Nat.add_zero, Array.getElem?_setIfInBounds_self_of_lt (by omega), hv0]
        have hoc1 := hoc.keep hk1
        have HX := Lib.hid (And.intro hAt (And.intro hk1 (And.intro hog1 (And.intro hrow1 hoc1))))
        clear hAt hk1 hog1 hrow1 hoc1 hat2 hkx
        by_cases hcap1 : cap = 1
        · subst hcap1
          go_wp2_with fail
          go_meet
          obtain ⟨x1, x2, x3, x4, x5⟩ := HX.out
          exact ⟨1, K - 1, 0, oo, { d with used := true }, by omega, by omega, fun h => absurd h (by omega), rfl, by omega, x1, rfl, rfl, x2, x5, _, x3, by simp, x4⟩
        · go_wp2_with fail
          go_meet
          obtain ⟨x1, x2, x3, x4, x5⟩ := HX.out
          exact ⟨1, K - 1, cap - 1, oo + 1, { d with used := true }, by omega, by omega, fun _ => rfl, rfl, by omega, x1, rfl, rfl, x2, x5, _, x3, by simp, x4⟩
      · obtain rfl : ub = true := by rw [HU.out]; simp; omega
        go_wp2_with fail
        go_meet
        exact ⟨0, K, cap, oo, d, by omega, by omega, fun _ => rfl, by go_num, by omega, hat, rfl, HUS.out, Keep.refl _ w, hoc, ocs, hog, rfl, fun j hj => absurd hj (by omega)⟩
    case rest =>
      obtain ⟨q0, s0, c0, a0, d0, hq0, hqc0, ha0, rfl, hv1, hat0, hn0, hu0, hk0, ho0, xs0, hx0, hxz0, hxv0⟩ := hcut
      clear hc hf
      go_wp2_with fail
      go_loopw [1, 7, 8, 9] (fun r e7 _ _ wr => e7 = .nilIface ∧ ∃ q s c1 a d' mc' O', q + s = K ∧ q + c1 = cap ∧ (0 < s → a = oo + q) ∧ r = .slice (some ⟨og, a, none⟩) s c1 ∧ 1 ≤ v + q ∧ At E 206 2 enc64 db mb Y O' (v + q) d' mc' wr ∧ d'.nv = d.nv ∧ d'.used = true ∧ Keep (fun b => O b ∨ b = og) w wr ∧ Oc E db mb O' wr ∧
        (∃ xs, wr.heap[og]? = some (.cells xs ot (0, 0)) ∧ xs.size = ocs.size ∧ ∀ j, j < q → xs[oo + j]? = some (enc64 (Y.acc (v + j)))) ∧ ∀ b, O' b → O b ∨ w.heap.size ≤ b) (fun r _ _ _ _ => match r with | .slice _ n _ => n | _ => 0)
      case atStart => exact ⟨rfl, q0, s0, c0, a0, d0, mc, O, hq0, hqc0, ha0, rfl, hv1, hat0, hn0, hu0, hk0, ho0, ⟨xs0, hx0, hxz0, hxv0⟩, fun b hb => .inl hb⟩
      case round =>
        obtain ⟨rfl, q, s, c1, a, d1, mc1, O1, hq, hqc, ha, rfl, hv2, hat1, hn1, hu1, hk1, ho1, ⟨xs, hxs, hxz, hxv⟩, hO1⟩ := hrel
        have hc := blk_cell hat1.dec
        have hf := blk_frozen hat1.dec
        simp only [DV.cells] at hc
        have HQ := Lib.hid hq
        have HQC := Lib.hid hqc
        have hO1g : ¬ O1 og := fun e => by rcases hO1 _ e with e | e; exact hO e; omega
        by_cases hs0 : 0 < s
        · obtain rfl := ha hs0
          have hrp : (0 : Int) < (s : Int) := by omega
          have hvq : v + q < l.length := by have := HK.out; have := HR.out; omega
          have hl2 : 1 < l.length := by omega
          clear hq hqc ha
          go_upto_if 46 with fail
          go_cut [7] from 45 to 51 (fun e wx => e = .nilIface ∧ ∃ d2 mc2 O2, Mid E 206 2 enc64 db mb Y O2 (v + q) d2 mc2 wx ∧ d2.nv = d.nv ∧ d2.used = true ∧ Keep O1 wr wx ∧ Oc E db mb O2 wx ∧ (∀ b, O2 b → O b ∨ w.heap.size ≤ b) ∧ wx.heap[og]? = some (.cells xs ot (0, 0)))
          case first =>
            rcases hat1.begin64 hF ho1 hv2 hvq with ⟨hcb, HC⟩ | ⟨hcb1, hcb2, hmid⟩
            · have HC := Lib.hid HC
              rw [hcb] at hc
              go_wp2_with fail
              refine HC.out.mono ?_
              rintro e w2 ⟨rfl, hk2, d2, mc2, hmid, hn2, hu2⟩
              go_wp2_with fail
              go_meet
              exact ⟨rfl, d2, mc2, _, hmid, hn2.trans hn1, hu2.trans hu1, hk2, ho1.grow hk2 (hat1.room hl2).1 (hat1.room hl2).2, Gr.sub hk1 hO1, hk2.blk hxs hO1g⟩
            · have hcbf : (d1.cb == 0) = false := by simp; omega
              go_wp2_with fail
              go_meet
              exact ⟨rfl, d1, mc1, O1, hmid, hn1, hu1, Keep.refl _ _, ho1, hO1, hxs⟩
          case rest =>
            obtain ⟨rfl, d2, mc2, O2, hmid, hn2, hu2, hk2, ho2, hO2, hxs2⟩ := hcut
            clear hc hf
            have hO2g : ¬ O2 og := fun e => by rcases hO2 _ e with e | e; exact hO e; omega
            have hc := blk_cell hmid.dec
            have hf := blk_frozen hmid.dec
            simp only [DV.cells] at hc
            go_upto_if 56 with fail
            go_cut [7] from 55 to 58 (fun e wx => e = .nilIface ∧ ∃ d3 mc3 O3, Full E 206 2 enc64 db mb Y O3 (v + q) d3 mc3 wx ∧ d3.nv = d.nv ∧ d3.used = true ∧ Keep O2 wc wx ∧ Oc E db mb O3 wx ∧ (∀ b, O3 b → O b ∨ w.heap.size ≤ b) ∧ wx.heap[og]? = some (.cells xs ot (0, 0)))
            case first =>
              rcases hmid.next64 hF ho2 hvq with ⟨hcm, HC⟩ | ⟨hcm1, hcm2, hfull⟩
              · have HC := Lib.hid HC
                rw [hcm] at hc
                go_wp2_with fail
                refine HC.out.mono ?_
                rintro e w3 ⟨rfl, hk3, d3, hfull, hn3, hu3⟩
                go_wp2_with fail
                go_meet
                exact ⟨rfl, d3, mc2, _, hfull, hn3.trans hn2, hu3.trans hu2, hk3, ho2.grow hk3 (hmid.room hl2).1 (hmid.room hl2).2, Gr.sub (hk1.step hk2 (fun b hb => by rcases hO1 b hb with h | h; exact .inl (.inl h); exact .inr h)) hO2, hk3.blk hxs2 hO2g⟩
              · have hcmf : (d2.cmv == 0) = false := by simp; omega
                go_wp2_with fail
                go_meet
                exact ⟨rfl, d2, mc2, O2, hfull, hn2, hu2, Keep.refl _ _, ho2, hO2, hxs2⟩
            case rest =>
              obtain ⟨rfl, d3, mc3, O3, hfull, hn3, hu3, hk3, ho3, hO3, hxs3⟩ := hcut
              clear hc hf
              have hO3g : ¬ O3 og := fun e => by rcases hO3 _ e with e | e; exact hO e; omega
              have hkw : Keep (fun b => O b ∨ b = og) w wc := (hk1.step hk2 (fun b hb => by rcases hO1 b hb with h | h; exact .inl (.inl h); exact .inr h)).step hk3 (fun b hb => by rcases hO2 b hb with h | h; exact .inl (.inl h); exact .inr h)
              obtain ⟨x, i, hin, hcmv, hcb1, hcb2, hvpm, hmv, hOx, ⟨rcs, hr1, hr2, hr3⟩, htake⟩ := hfull.take hF ho3
              have hxg : x ≠ og := fun e => hO3g (e ▸ hOx)
              have hc := blk_cell hfull.dec
              have hf := blk_frozen hfull.dec
              simp only [DV.cells] at hc
              rw [hcmv, hvpm, hmv] at hc
              obtain ⟨m, hm⟩ : ∃ m, m = y.n - i := ⟨_, rfl⟩
              rw [← hm] at hc hcmv
              have hcb3 : (m : Int) ≤ d3.cb := by omega
              clear hcb1
              have hyn := hF.hn
              have hi0 : (0 : Int) ≤ (i : Int) := by omega
              have hi1 : (i : Int) ≤ (y.n : Int) := by omega
              have hsub : IntKind.u32.wrap ((y.n : Int) - (m : Int)) = (i : Int) := by rw [IntKind.wrap_u32]; omega
              have HM := Lib.hid hm
              have hmr : y.n - i = m := hm.symm
              have hm1 : 1 ≤ m := by omega
              clear hm
              go_wp2_with fail
              go_quiet (fail)
              go_upto_region 20 with fail
              obtain ⟨c, hcd⟩ : ∃ c, c = min m s := ⟨_, rfl⟩
              have hcm : c ≤ m := by omega
              have hcs : c ≤ s := by omega
              have hc1 : 1 ≤ c := by omega
              have hqs : oo + q + s ≤ xs.size := by have := HQ.out; omega
              have hsc1 : s ≤ c1 := by have := HQ.out; have := HQC.out; omega
              have hk4 : Keep (fun b => b = og) wc (wc.drewN nq) := (Keep.refl _ wc).drewN nq
              have hcp := run_copy_cells (P := Tryz.prog) (wc.drewN nq) 22 22 3 2 og (oo + q) s c1 ⟨x, i, none⟩ m m (accs enc64 Y.acc (v + q) c) (by kernel_rfl) (by kernel_rfl) (by rw [accs_length, hcd]) (fun j u hj => by
                have hj' : j < c := by have := (List.getElem?_eq_some_iff.1 hj).1; rwa [accs_length] at this
                rw [accs_get _ _ _ _ _ hj'] at hj
                cases hj
                rw [show ((⟨x, i, none⟩ : Addr).add j) = ⟨x, i + j, none⟩ from by unfold Addr.add; split <;> simp_all, blk_cell (blk_drewN hr1 nq)]
                exact hr3 j (by omega)) (fun j hj => by rw [accs_length] at hj; rw [blk_cell (blk_drewN hxs3 nq)]; simp; omega) (fun j hj => blk_frozen (blk_drewN hxs3 nq) _) (by intro u hu; simp only [accs, List.mem_map] at hu; obtain ⟨j, _, rfl⟩ := hu; rfl)
              obtain ⟨xs5, hx5, hxz5, hxv5, hxo5⟩ := setCells_put (accs enc64 Y.acc (v + q) c) (oo + q) (wc.drewN nq) xs (blk_drewN hxs3 nq) (by rw [accs_length]; omega)
              have hk5 : Keep (fun b => b = og) wc ((wc.drewN nq).setCells og (oo + q) (accs enc64 Y.acc (v + q) c)) := Keep.setCells _ _ _ hk4 (.inl rfl)
              rw [accs_length] at hcp hxv5 hxo5
              have hxv6 : ∀ j, j < q + c → xs5[oo + j]? = some (enc64 (Y.acc (v + j))) := fun j hj => by
                by_cases hjq : j < q
                · rw [hxo5 (oo + j) (by omega)]
                  exact hxv j hjq
                · have := hxv5 (j - q) (by omega)
                  rw [accs_get _ _ _ _ _ (by omega)] at this
                  rw [show oo + q + (j - q) = oo + j by omega, show v + q + (j - q) = v + j by omega] at this
                  exact this
              generalize (wc.drewN nq).setCells og (oo + q) (accs enc64 Y.acc (v + q) c) = w5 at *
              have htk := htake w5 _ hk5 (fun b hb => by rw [hb]; exact ⟨hO3g, hg, h2⟩)
              have hdec5 := hk5.blk hfull.dec (fun e => hdbo e.symm)
              have ho5 := ho3.keep hk5
              clear htake hxo5 hxv5 hk4 hr1 hr2 hr3 hxs3 hxs2 hxs hxv
              have hc4 := blk_cell (blk_drewN hfull.dec nq)
              simp only [DV.cells] at hc4
              rw [hcmv, hvpm, hmv] at hc4
              generalize wc.drewN nq = w4 at *
              have HCD := Lib.hid hcd
              clear hcd
              have hci : (0 : Int) ≤ (c : Int) := by omega
              have hci2 : (c : Int) ≤ (s : Int) := by omega
              have hc := blk_cell hdec5
              have hf := blk_frozen hdec5
              simp only [DV.cells] at hc
              rw [hcmv] at hc
              have hHT := htk c (d3.cb - c) ((m : Int) - c) hc1 (by omega) rfl (by rw [hcmv])
              have hw1 : IntKind.u32.wrap (c : Int) = (c : Int) := by rw [IntKind.wrap_u32]; omega
              have hw2 : IntKind.u32.wrap (d3.cb - (c : Int)) = d3.cb - (c : Int) := by rw [IntKind.wrap_u32]; omega
              have hw3 : IntKind.u32.wrap ((m : Int) - (c : Int)) = (m : Int) - (c : Int) := by rw [IntKind.wrap_u32]; omega
              have hks : Keep O3 w5 ((w5.setCell ⟨db, 7, none⟩ (.int .u32 (d3.cb - c))).setCell ⟨db, 10, none⟩ (.int .u32 ((m : Int) - c))) := ((Keep.refl O3 w5).setCell (p := ⟨db, 7, none⟩) (.inl ho5.od) _).setCell (p := ⟨db, 10, none⟩) (.inl ho5.od) _
              have hxf := hks.blk hx5 hO3g
              have hkf : Keep (fun b => O b ∨ b = og) w ((w5.setCell ⟨db, 7, none⟩ (.int .u32 (d3.cb - c))).setCell ⟨db, 10, none⟩ (.int .u32 ((m : Int) - c))) := (hkw.step hk5 (fun b hb => .inl (.inr hb))).step hks (fun b hb => by rcases hO3 b hb with h | h; exact .inl (.inl h); exact .inr h)
              have hof := ho5.keep hks
              have HT := Lib.hid (And.intro hHT (And.intro hxf (And.intro hkf (And.intro hxv6 hof))))
              clear hHT htk hxf hkf hks hxv6 hof hx5 hk5 hdec5 ho5
              by_cases hce : c1 = c
              · subst hce
                go_wp2_with fail
                obtain ⟨x1, x2, x3, x4, x5⟩ := HT.out
                go_roundw
                case rel => exact ⟨rfl, q + c1, 0, 0, oo + q, { d3 with cb := d3.cb - c1, cmv := (m : Int) - c1 }, mc3, O3, by have := HQ.out; omega, by have := HQC.out; omega, fun h => absurd h (by omega), rfl, by omega, by rw [← Nat.add_assoc]; exact x1, hn3, hu3, x3, x5, ⟨xs5, x2, by omega, x4⟩, hO3⟩
                case measure => (show 0 < s); omega
              · go_wp2_with fail
                obtain ⟨x1, x2, x3, x4, x5⟩ := HT.out
                go_roundw
                case rel => exact ⟨rfl, q + c, s - c, c1 - c, oo + q + c, { d3 with cb := d3.cb - c, cmv := (m : Int) - c }, mc3, O3, by have := HQ.out; omega, by have := HQC.out; omega, fun _ => by omega, rfl, by omega, by rw [← Nat.add_assoc]; exact x1, hn3, hu3, x3, x5, ⟨xs5, x2, by omega, x4⟩, hO3⟩
                case measure => (show s - c < s); omega
        · obtain rfl : s = 0 := by omega
          obtain rfl : q = K := by omega
          have hr0 : ¬ ((0 : Int) < ((0 : Nat) : Int)) := by omega
          rw [hn1, HN.out] at hc
          have hw5 : IntKind.i64.wrap ((R : Int) - (q : Int)) = ((R - q : Nat) : Int) := by rw [IntKind.wrap_i64]; have := HK.out; have := HR.out; omega
          have hks : Keep O1 wr (wr.setCell ⟨db, 0, none⟩ (.int .i64 (R - q : Nat))) := (Keep.refl O1 wr).setCell (p := ⟨db, 0, none⟩) (.inl ho1.od) _
          go_wp2_with fail
          go_ret2
          have hRl := HR.out
          exact ⟨rfl, hk1.step hks (fun b hb => by rcases hO1 b hb with h | h; exact .inl (.inl h); exact .inr h), ⟨O1, hO1, ⟨⟨{ d1 with nv := (R - q : Nat) }, mc1, by show ((R - q : Nat) : Int) = _; congr 1; omega, by show d1.used = _; rw [hu1]; simp; omega, hat1.nv hF.hA _⟩, by have := HK.out; omega, ho1.keep hks⟩⟩, xs, hks.blk hxs hO1g, hxz, hxv⟩
end Go.Proofs.YtdamippibpbjhaaGreatDoor
