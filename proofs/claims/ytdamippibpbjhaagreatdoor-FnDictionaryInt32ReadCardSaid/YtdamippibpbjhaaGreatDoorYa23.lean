import Derived.Test.YtdamippibpbjhaaGreatDoorYa20
import Derived.Deep.CutBlock
import Derived.Deep.DeepCutAuto
/-! Numbers are left out: numbers of 64 bits. -/
namespace Go.Proofs.YtdamippibpbjhaaGreatDoor
open Go.RowKit

set_option maxRecDepth 100000 in
set_option maxHeartbeats 8000000 in
theorem discard64 {E : Env} {db mb : Nat} {y : Way} {l : List Int} {Y : Lay E.D y l} {O : Nat → Prop} {v : Nat} {w : World} (hF : Fine E db mb y l) (h : DSt E 206 2 enc64 db mb Y O v w) (n : Nat) (hn : 1 ≤ n ∧ n ≤ 5000) :
    Calls Tryz.prog 77 #[.pointer (some ⟨db, 0, none⟩), .int .i64 n] w fun e w' => e = .returned (.tuple #[.int .i64 (min n (l.length - v) : Nat), .nilIface]) ∧ Keep O w w' ∧
      ∃ O', (∀ b, O' b → O b ∨ w.heap.size ≤ b) ∧ DSt E 206 2 enc64 db mb Y O' (v + min n (l.length - v)) w' := by
  obtain ⟨d, mc, hnv, hus, hat⟩ := h.st
  have hle := h.le
  have hlen := hF.hlen
  have hoc := h.oc
  obtain ⟨R, hR⟩ : ∃ R, R = l.length - v := ⟨_, rfl⟩
  obtain ⟨K, hK⟩ : ∃ K, K = min n R := ⟨_, rfl⟩
  obtain ⟨ub, hub⟩ : ∃ ub, ub = decide (0 < v) := ⟨_, rfl⟩
  rw [← hR, ← hK]
  rw [← hR] at hnv
  rw [← hub] at hus
  have hif : (if R < n then (R : Int) else (n : Int)) = (K : Int) := by split <;> omega
  have hc := blk_cell hat.dec
  have hf := blk_frozen hat.dec
  simp only [DV.cells] at hc
  rw [hnv, hus] at hc
  have HN := Lib.hid hnv
  have HUS := Lib.hid hus
  have HR := Lib.hid hR
  have HK := Lib.hid hK
  have HU := Lib.hid hub
  clear hR hK hub hnv hus
  go_enter Tryz.func77, Tryz.ntmps77
  by_cases h0 : K = 0
  · subst h0
    have hif0 : (if R < n then (R : Int) else (n : Int)) = 0 := hif
    clear hif
    go_wp2_with fail
    go_ret2
    exact ⟨rfl, Keep.refl _ w, O, fun b hb => .inl hb, h⟩
  · have hK0 : ((K : Int) == 0) = false := by simp; omega
    go_upto_if 24 with fail
    go_cut [7] from 24 to 29 (fun r wr => ∃ q s d', q + s = K ∧ r = .int .i64 (s : Nat) ∧ 1 ≤ v + q ∧ At E 206 2 enc64 db mb Y O (v + q) d' mc wr ∧ d'.nv = d.nv ∧ d'.used = true ∧ Keep O w wr ∧ Oc E db mb O wr)
    case first =>
      by_cases hv0 : v = 0
      · obtain rfl : ub = false := by rw [HU.out]; simp [hv0]
        have hAt : At E 206 2 enc64 db mb Y O (v + 1) { d with used := true } mc (w.setCell ⟨db, 4, none⟩ (.bool true)) := by
          rcases hat.used hF.hA true with ⟨h1, h2⟩ | ⟨dd, x, k, j, i, h1, _⟩
          · exact .inl ⟨by omega, h2⟩
          · omega
        have hk1 : Keep O w (w.setCell ⟨db, 4, none⟩ (.bool true)) := (Keep.refl O w).setCell (p := ⟨db, 4, none⟩) (.inl hoc.od) _
        go_wp2_with fail
        go_meet
        exact ⟨1, K - 1, _, by omega, by go_num, by omega, hAt, rfl, rfl, hk1, hoc.keep hk1⟩
      · obtain rfl : ub = true := by rw [HU.out]; simp; omega
        go_wp2_with fail
        go_meet
        exact ⟨0, K, d, by omega, by go_num, by omega, hat, rfl, HUS.out, Keep.refl _ w, hoc⟩
    case rest =>
      obtain ⟨q0, s0, d0, hq0, rfl, hv1, hat0, hn0, hu0, hk0, ho0⟩ := hcut
      clear hc hf
      go_wp2_with fail
      go_loopw [6, 7, 8, 9] (fun _ r _ _ wr => ∃ q s d' mc' O', q + s = K ∧ r = .int .i64 (s : Nat) ∧ 1 ≤ v + q ∧ At E 206 2 enc64 db mb Y O' (v + q) d' mc' wr ∧ d'.nv = d.nv ∧ d'.used = true ∧ Keep O w wr ∧ Oc E db mb O' wr ∧ ∀ b, O' b → O b ∨ w.heap.size ≤ b) (fun _ r _ _ _ => (intOf r).toNat)
      case atStart => exact ⟨q0, s0, d0, mc, O, hq0, rfl, hv1, hat0, hn0, hu0, hk0, ho0, fun b hb => .inl hb⟩
      case round =>
        obtain ⟨q, s, d1, mc1, O1, hq, rfl, hv2, hat1, hn1, hu1, hk1, ho1, hO1⟩ := hrel
        have hc := blk_cell hat1.dec
        have hf := blk_frozen hat1.dec
        simp only [DV.cells] at hc
        have HQ := Lib.hid hq
        by_cases hs0 : 0 < s
        · have hrp : (0 : Int) < (s : Int) := by omega
          have hvq : v + q < l.length := by have := HK.out; have := HR.out; omega
          clear hq
          have hl2 : 1 < l.length := by omega
          go_upto_if 36 with fail
          go_cut [6] from 35 to 44 (fun _ wx => ∃ d2 mc2 O2, Mid E 206 2 enc64 db mb Y O2 (v + q) d2 mc2 wx ∧ d2.nv = d.nv ∧ d2.used = true ∧ Keep O w wx ∧ Oc E db mb O2 wx ∧ ∀ b, O2 b → O b ∨ w.heap.size ≤ b)
          case first =>
            rcases hat1.begin64 hF ho1 hv2 hvq with ⟨hcb, HC⟩ | ⟨hcb1, hcb2, hmid⟩
            · have HC := Lib.hid HC
              rw [hcb] at hc
              go_wp2_with fail
              refine HC.out.mono ?_
              rintro e w2 ⟨rfl, hk2, d2, mc2, hmid, hn2, hu2⟩
              go_wp2_with fail
              go_meet
              exact ⟨d2, mc2, _, hmid, hn2.trans hn1, hu2.trans hu1, hk1.step hk2 hO1, ho1.grow hk2 (hat1.room hl2).1 (hat1.room hl2).2, Gr.sub hk1 hO1⟩
            · have hcbf : (d1.cb == 0) = false := by simp; omega
              go_wp2_with fail
              go_meet
              exact ⟨d1, mc1, O1, hmid, hn1, hu1, hk1, ho1, hO1⟩
          case rest =>
            obtain ⟨d2, mc2, O2, hmid, hn2, hu2, hk2, ho2, hO2⟩ := hcut
            clear hc hf
            have hc := blk_cell hmid.dec
            have hf := blk_frozen hmid.dec
            simp only [DV.cells] at hc
            go_upto_if 49 with fail
            go_cut [6] from 48 to 57 (fun _ wx => ∃ d3 mc3 O3, Full E 206 2 enc64 db mb Y O3 (v + q) d3 mc3 wx ∧ d3.nv = d.nv ∧ d3.used = true ∧ Keep O w wx ∧ Oc E db mb O3 wx ∧ ∀ b, O3 b → O b ∨ w.heap.size ≤ b)
            case first =>
              rcases hmid.next64 hF ho2 hvq with ⟨hcm, HC⟩ | ⟨hcm1, hcm2, hfull⟩
              · have HC := Lib.hid HC
                rw [hcm] at hc
                go_wp2_with fail
                refine HC.out.mono ?_
                rintro e w3 ⟨rfl, hk3, d3, hfull, hn3, hu3⟩
                go_wp2_with fail
                go_meet
                exact ⟨d3, mc2, _, hfull, hn3.trans hn2, hu3.trans hu2, hk2.step hk3 hO2, ho2.grow hk3 (hmid.room hl2).1 (hmid.room hl2).2, Gr.sub hk2 hO2⟩
              · have hcmf : (d2.cmv == 0) = false := by simp; omega
                go_wp2_with fail
                go_meet
                exact ⟨d2, mc2, O2, hfull, hn2, hu2, hk2, ho2, hO2⟩
            case rest =>
              obtain ⟨d3, mc3, O3, hfull, hn3, hu3, hk3, ho3, hO3⟩ := hcut
              clear hc hf
              obtain ⟨x, i, hin, hcmv, hcb1, hcb2, hvpm, hmv, hOx, _, htake⟩ := hfull.take hF ho3
              have hc := blk_cell hfull.dec
              have hf := blk_frozen hfull.dec
              simp only [DV.cells] at hc
              rw [hcmv, hvpm, hmv] at hc
              obtain ⟨m, hm⟩ : ∃ m, m = y.n - i := ⟨_, rfl⟩
              rw [← hm] at hc hcmv
              have hcb3 : (m : Int) ≤ d3.cb := by omega
              clear hcb1
              have hyn := hF.hn
              have hi0 : (0 : Int) ≤ (i : Int) := by omega
              have hi1 : (i : Int) ≤ (y.n : Int) := by omega
              have hsub : IntKind.u32.wrap ((y.n : Int) - (m : Int)) = (i : Int) := by rw [IntKind.wrap_u32]; omega
              have HM := Lib.hid hm
              have hmr : y.n - i = m := hm.symm
              clear hm
              go_wp2_with fail
              go_quiet (fail)
              go_upto_if 76 with fail
              have hfq := hfull.drewN ho3 nq
              have htk := htake (wc.drewN nq) (fun _ => False) ((Keep.refl (fun _ => False) wc).drewN nq) (fun _ h => h.elim)
              clear htake
              have hkq := hk3.drewN nq
              have hoq := ho3.keep ((Keep.refl (fun _ => False) wc).drewN nq)
              clear hc hf hfull
              generalize wc.drewN nq = w4 at *
              go_cut [9] from 76 to 77 (fun c5 wx => ∃ c : Nat, 1 ≤ c ∧ c ≤ m ∧ c ≤ s ∧ c5 = .int .i64 c ∧ wx = w4)
              case first =>
                by_cases hsm : s < m
                · go_wp2_with fail
                  go_meet
                  exact ⟨s, by omega, by omega, by omega, rfl, rfl⟩
                · go_wp2_with fail
                  go_meet
                  exact ⟨m, by have := HM.out; omega, by omega, by omega, rfl, rfl⟩
              case rest =>
                obtain ⟨c, hc1, hcm, hcs, rfl, rfl⟩ := hcut
                have hc := blk_cell hfq.dec
                have hf := blk_frozen hfq.dec
                simp only [DV.cells] at hc
                rw [hcmv] at hc
                have hHT := htk c (d3.cb - c) ((m : Int) - c) hc1 (by omega) rfl (by rw [hcmv])
                have hw1 : IntKind.u32.wrap (c : Int) = (c : Int) := by rw [IntKind.wrap_u32]; omega
                have hw2 : IntKind.u32.wrap (d3.cb - (c : Int)) = d3.cb - (c : Int) := by rw [IntKind.wrap_u32]; omega
                have hw3 : IntKind.u32.wrap ((m : Int) - (c : Int)) = (m : Int) - (c : Int) := by rw [IntKind.wrap_u32]; omega
                have HT := Lib.hid hHT
                clear hHT htk
                go_wp2_with fail
                clear hw1 hw2 hw3
                have hw4 : wrap64 ((s : Int) - (c : Int)) = ((s - c : Nat) : Int) := by have := HQ.out; have := HK.out; unfold wrap64; omega
                rw [hw4]
                clear hw4
                go_roundw
                case rel =>
                  have hks : Keep O3 wc ((wc.setCell ⟨db, 7, none⟩ (.int .u32 (d3.cb - c))).setCell ⟨db, 10, none⟩ (.int .u32 ((m : Int) - c))) := ((Keep.refl O3 wc).setCell (p := ⟨db, 7, none⟩) (.inl hoq.od) _).setCell (p := ⟨db, 10, none⟩) (.inl hoq.od) _
                  exact ⟨q + c, s - c, { d3 with cb := d3.cb - c, cmv := (m : Int) - c }, mc3, O3, by have := HQ.out; omega, rfl, by omega, by rw [← Nat.add_assoc]; exact HT.out, hn3, hu3, hkq.step hks hO3, hoq.keep hks, hO3⟩
                case measure => simp only [intOf]; omega
        · obtain rfl : s = 0 := by omega
          obtain rfl : q = K := by omega
          have hr0 : ¬ ((0 : Int) < ((0 : Nat) : Int)) := by omega
          rw [hn1, HN.out] at hc
          have hw5 : IntKind.i64.wrap ((R : Int) - (q : Int)) = ((R - q : Nat) : Int) := by rw [IntKind.wrap_i64]; have := HK.out; have := HR.out; omega
          go_wp2_with fail
          go_ret2
          have hks : Keep O1 wr (wr.setCell ⟨db, 0, none⟩ (.int .i64 (R - q : Nat))) := (Keep.refl O1 wr).setCell (p := ⟨db, 0, none⟩) (.inl ho1.od) _
          have hRl := HR.out
          exact ⟨rfl, hk1.step hks hO1, O1, hO1, ⟨⟨{ d1 with nv := (R - q : Nat) }, mc1, by show ((R - q : Nat) : Int) = _; congr 1; omega, by show d1.used = _; rw [hu1]; simp; omega, hat1.nv hF.hA _⟩, by have := HK.out; omega, ho1.keep hks⟩⟩
end Go.Proofs.YtdamippibpbjhaaGreatDoor
