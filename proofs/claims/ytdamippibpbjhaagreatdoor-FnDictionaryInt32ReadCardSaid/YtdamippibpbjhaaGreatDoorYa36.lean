import Derived.Test.YtdamippibpbjhaaGreatDoorYa35
import Derived.Test.YtdamippibpbjhaaGreatDoorYa32
import Derived.Defers
import Derived.Recover
/-! Runs as they are written. -/
namespace Go.Proofs.YtdamippibpbjhaaGreatDoor
open Go.RowKit

/-- The bytes of the first k runs. -/
def bytesM (l : List SRunM) (W k : Nat) : List Int := runsB W ((l.take k).map SRunM.run)
theorem bytesM_succ (l : List SRunM) (W k : Nat) (h : k < l.length) : bytesM l W (k + 1) = bytesM l W k ++ l[k].run.bytes W := by
  unfold bytesM
  rw [List.take_succ_eq_append_getElem h, List.map_append]
  simp [runsB]
theorem bytesM_le (l : List SRunM) (W k : Nat) (hW : W ≤ 20) (hk : k ≤ l.length) (h : ∀ j (h : j < l.length), l[j].run.Ok W) : (bytesM l W k).length ≤ 410 * k := by
  have := (runsB_le W hW ((l.take k).map SRunM.run) (fun r hr => by
    simp only [List.mem_map] at hr
    obtain ⟨m, hm, rfl⟩ := hr
    obtain ⟨j, hj, rfl⟩ := List.getElem_of_mem hm
    simp only [List.length_take] at hj
    rw [List.getElem_take]
    exact h j (by omega))).2
  simp only [List.length_map, List.length_take] at this
  rw [Nat.min_eq_left hk] at this
  exact this
theorem or1 (N : Nat) (h : N ≤ 20) : bits .or .u64 ((N : Int) * 2) 1 = ((2 * N + 1 : Nat) : Int) := by
  have key : ∀ x : Fin 21, bits .or .u64 (((x.val : Nat) : Int) * 2) 1 = ((2 * x.val + 1 : Nat) : Int) := by decide +kernel
  exact key ⟨N, by omega⟩
def lenOf : Value → Nat
  | .slice _ n _ => n
  | _ => 0
/-- The first k runs are written. -/
structure PR (l : List SRunM) (W : Nat) (w : World) (k : Nat) (vv : Value) (wr : World) : Prop where
  own : OB wr w.heap.size vv (bytesM l W k)
  kp : Keep (fun _ => False) w wr

set_option maxRecDepth 100000 in
set_option maxHeartbeats 8000000 in
theorem putRuns_any (A : Option Addr) (l : List SRunM) (c W : Nat) (hW1 : 1 ≤ W) (hW20 : W ≤ 20) (w : World) (hl : Runs w A l) (h40 : l.length ≤ 40) (hok : ∀ j (h : j < l.length), l[j].run.Ok W) :
    Calls Tryz.prog 52 #[.slice A l.length c, .int .i64 W] w fun e w' => ∃ v, e = .returned v ∧ OB w' w.heap.size v (bytesM l W l.length) ∧ Keep (fun _ => False) w w' := by
  have hPR0 : PR l W w 0 (.slice none 0 0) w := ⟨OB.nil _ _, Keep.refl _ _⟩
  obtain ⟨i5, hi5, hi5z⟩ := Option.map_eq_some_iff.1 info5
  simp only [Prod.mk.injEq] at hi5z
  obtain ⟨hz1, hz2, hz3⟩ := hi5z
  obtain ⟨i45, hi45, hi45z⟩ := Option.map_eq_some_iff.1 info45
  simp only [Prod.mk.injEq] at hi45z
  obtain ⟨hy1, hy2, hy3⟩ := hi45z
  go_enter Tryz.func52, Tryz.ntmps52
  go_wp2_with fail
  go_loopw [5, 7, 8, 9, 12] (fun vv _ _ _ i wr => ∃ k : Nat, k ≤ l.length ∧ i = .int .i64 k ∧ PR l W w k vv wr) (fun _ _ _ _ i _ => l.length - (intOf i).toNat)
  case atStart => exact ⟨0, Nat.zero_le _, rfl, hPR0⟩
  case round =>
    obtain ⟨k, hk, rfl, hpr⟩ := hrel
    by_cases h : k < l.length
    · obtain ⟨g, o, rfl, hrow⟩ := hl (by omega)
      obtain ⟨x0, x1, x2, xu, xc, x47, xn, xb⟩ := (hrow.keep hpr.kp (fun h => h) (fun _ _ h => h)) k h
      have hk0 : (0 : Int) ≤ (k : Int) := by omega
      have hk1 : (k : Int) < (l.length : Int) := by omega
      have xw := (hrow k h).2.2.2.1
      have hall := bytesM_succ l W k h
      have hM := bytesM_le l W k hW20 hk hok
      have hokk := hok k h
      have hown := hpr.own
      have hkw := hpr.kp
      have HR := Lib.hid hall
      clear hpr hall hok
      obtain ⟨r, hr⟩ : ∃ r, r = l[k] := ⟨_, rfl⟩
      rw [← hr] at x0 x1 x2 xu xc x47 xn xb xw hokk
      have HRR := Lib.hid hr
      clear hr
      obtain ⟨⟨pk, cn, vs⟩, ra, rc⟩ := r
      simp only at x0 x1 x2 xu xc x47 xn xb xw
      clear xu
      have hc1 := hokk.c1
      have hcp := hokk.pk
      have hcr := hokk.rp
      simp only [SRunM.run] at hc1 hcp hcr
      have HOK := Lib.hid hokk
      clear hokk
      obtain ⟨N, rfl⟩ : ∃ N : Nat, cn = (N : Int) := ⟨cn.toNat, by omega⟩
      have hb := blk_new wr (.cells #[.bool pk, .int .i64 (N : Int), .slice ra vs.length rc] 76)
      have hkA : Keep (fun _ => False) wr (wr.alloc (.cells #[.bool pk, .int .i64 (N : Int), .slice ra vs.length rc] 76)) := (Keep.refl _ wr).alloc _
      have hownA := hown.keep hkA (fun _ _ h => h)
      have hkwA := hkw.trans hkA
      clear hown hkw
      cases pk
      · obtain ⟨h300, hvl1⟩ := hcr rfl
        clear hcp hcr
        have hN300 : N ≤ 300 := by omega
        obtain ⟨M, hMe⟩ : ∃ M, M = 2 * N := ⟨_, rfl⟩
        have hmul : (N : Int) * 2 = (M : Int) := by omega
        have hM64 : M < 18446744073709551616 := by omega
        have hMN := Lib.hid hMe
        clear hMe
        have HP := Lib.hid (fun w => putVlq_any M hM64 w)
        obtain ⟨v0, hv0⟩ := List.length_eq_one_iff.1 hvl1
        have hxb0 := xb 0 (by omega)
        obtain ⟨gv, ov, hra, hrv⟩ := xw (by omega)
        subst hra
        have hx0 := hrv 0 (by omega)
        have hgv : gv < w.heap.size := World.block_lt_of_cell? w _ hx0
        rw [hv0] at hx0 hxb0
        simp only [List.getD_cons_zero, Nat.add_zero] at hx0 hxb0
        obtain ⟨vn, hvn⟩ := Int.eq_ofNat_of_zero_le hxb0.1
        rw [hvn] at hx0
        have hf0 : vs.getD 0 0 = (vn : Int) := by rw [hv0, ← hvn]; rfl
        have hvl0 : (0 : Int) < (vs.length : Int) := by omega
        have HF0 := Lib.hid (And.intro hf0 hvl1)
        clear hv0 hvn hxb0 hf0 hvl1 hrv
        go_upto_region 11 with fail
        generalize hwa : wr.alloc (.cells #[.bool false, .int .i64 (N : Int), .slice (some ⟨gv, ov, none⟩) vs.length rc] 76) = wa at *
        clear hwa hkA
        generalize hrb : wr.heap.size = rb at *
        clear hrb
        have hcb := blk_cell hb
        go_wp2_with fail
        refine (HP.out _).mono ?_
        rintro e w1 ⟨vy, rfl, hob1, hk1⟩
        have hkw1 := hkwA.trans hk1
        have hown1 := hownA.keep hk1 (fun _ _ h => h)
        have hb1 := hk1.blk hb (fun h => h)
        have hleb := lebB_len10 M
        have hcb := blk_cell hb1
        clear HP hb hownA hkwA
        obtain ⟨gy2, cy2, rfl, hry2⟩ := hob1.parts (lebB_length0 M)
        have hbs2 := hkw1.size
        go_wp2_with (first | (at_builtin; refine wpList_append_own_at _ rfl _ _ _ rfl w.heap.size 5 i5 (.int .u8 0) 1 1 (by kernel_rfl) hi5 hz1 hz2 hz3 rfl (by omega) u5 (bytesM l W k).length (nums .u8 (bytesM l W k)) rfl hown1 ⟨gy2, 0, none⟩ (lebB 10 M).length cy2 (nums .u8 (lebB 10 M)) rfl (by simp) hry2.src (nums_ones _ _) (by simp only [maxLen]; omega) (by omega) hbs2 ?_))
        intro v2 wx2 hownx2 hgrow2 _ hat2
        obtain ⟨ja2, jk2, _, jb2⟩ := OB.join hkw1 hown1 hownx2 hgrow2 hat2
        have hbx2 := jb2 _ _ _ hb1 (by decide)
        clear hownx2 hgrow2 hat2 jb2 hob1 hry2 hown1 hcb hb1 hk1
        obtain ⟨X, hX⟩ : ∃ X, X = bytesM l W k ++ lebB 10 M := ⟨_, rfl⟩
        have hX9 : X.length ≤ 100000 := by rw [hX, List.length_append]; omega
        rw [← hX] at ja2
        obtain ⟨K, hK⟩ : ∃ K, K = (W + 7) / 8 := ⟨_, rfl⟩
        have hKi : ((W : Int) + 7) / 8 = (K : Int) := by omega
        have hK3 : K ≤ 3 := by omega
        have HX := Lib.hid (And.intro hX hK)
        clear hX hK
        have hx2 := jk2.cell hx0 (fun h => h)
        have hgx : gv < w.heap.size := hgv
        go_wp2_with fail
        go_loopw [5, 9] (fun vv i wr => ∃ z : Nat, z ≤ K ∧ i = .int .i64 z ∧ OB wr w.heap.size vv (X ++ (numB K vn).take z) ∧ Keep (fun _ => False) w wr ∧ wr.heap[rb]? = some (.cells #[.bool false, .int .i64 (N : Int), .slice (some ⟨gv, ov, none⟩) vs.length rc] 76 (0, 0)) ∧ wr.cell? ⟨gv, ov, none⟩ = some (.int .u64 (vn : Int))) (fun _ i _ => K - (intOf i).toNat)
        case atStart => exact ⟨0, Nat.zero_le _, rfl, by simpa using ja2, jk2, hbx2, hx2⟩
        case round =>
          obtain ⟨z, hz, rfl, hownz, hkz, hbz, hxz⟩ := hrel
          clear ja2 jk2 hbx2 hx2
          by_cases hzK : z < K
          · have hcz := blk_cell hbz
            have hzi : (z : Int) < (K : Int) := by omega
            have hz0 : (0 : Int) ≤ (z : Int) := by omega
            obtain ⟨y, hy⟩ : ∃ y, y = vn / 256 ^ z % 256 := ⟨_, rfl⟩
            have hyb : (vn : Int) / 2 ^ (8 * z) % 256 = (y : Int) := by
              rw [hy, show (256 : Nat) ^ z = 2 ^ (8 * z) by rw [show (256 : Nat) = 2 ^ 8 from rfl, ← Nat.pow_mul]]
              simp
            have htk : (numB K vn).take (z + 1) = (numB K vn).take z ++ [(y : Int)] := by
              rw [List.take_succ_eq_append_getElem (by rw [numB_length]; exact hzK), hy, ← numB_getD K vn z hzK, List.getD_eq_getElem?_getD, List.getElem?_eq_getElem (by rw [numB_length]; exact hzK)]
              rfl
            have hXz : (X ++ (numB K vn).take z).length ≤ 100003 := by
              have := numB_length K vn
              simp only [List.length_append, List.length_take]
              omega
            have HTK := Lib.hid htk
            obtain ⟨Z, hZ⟩ : ∃ Z, Z = X ++ (numB K vn).take z := ⟨_, rfl⟩
            rw [← hZ] at hownz hXz
            have HZ := Lib.hid hZ
            clear hy htk hZ
            have hA : Keep (fun _ => False) wr (wr.alloc (.cells #[.int .u8 y] 5)) := (Keep.refl _ wr).alloc _
            have hown1 := hownz.keep hA (fun _ _ h => h)
            have hks := (hkz.trans hA).size
            unfold OB at hown1
            have hcz1 := blk_cell (hA.blk hbz (fun h => h))
            go_wp2_with (first | (at_builtin; refine wpList_append_own_at _ rfl _ _ _ rfl w.heap.size 5 i5 (.int .u8 0) 1 1 (by kernel_rfl) hi5 hz1 hz2 hz3 rfl (by omega) u5 Z.length (nums .u8 Z) rfl hown1 ⟨wr.heap.size, 0, none⟩ 1 1 [.int .u8 y] rfl rfl (World.news_of_block (cs := #[.int .u8 y]) (t := 5) (fr := (0, 0)) (blk_new wr _)) (by simp [Value.oneCell']) (by simp only [maxLen]; omega) (by omega) hks ?_))
            intro v' w2 hown2 hgrow _ hat2
            obtain ⟨j1, _, j3⟩ := ap_step hkz hA hownz hgrow (by simpa using hat2)
            have hf := OB.snoc (xs := Z) (ys := [(y : Int)]) hown2 rfl
            rw [HZ.out, List.append_assoc, ← HTK.out] at hf
            have hb2 := j3 _ _ _ hbz (by decide)
            have hx2 : w2.cell? ⟨gv, ov, none⟩ = some (.int .u64 (vn : Int)) := (grown_keep hgrow).cell (hA.cell hxz (fun h => h)) (fun e => by have h2 := (ownsRow_lt hownz gv e).2; omega)
            have HF := Lib.hid (And.intro hf (And.intro j1 (And.intro hb2 hx2)))
            clear hcz hcz1 hownz hown1 hown2 hgrow hat2 hA j1 j3 hf hb2 hx2 hbz hxz hkz hyb
            go_wp2_with fail
            go_roundw
            case rel => exact ⟨z + 1, hzK, by go_num, HF.out.1, HF.out.2.1, HF.out.2.2.1, HF.out.2.2.2⟩
            case measure => simp [intOf]; omega
          · obtain rfl : z = K := by omega
            have e : X ++ (numB z vn).take z = bytesM l W (k + 1) := by
              rw [HR.out, ← HRR.out, HX.out.1, List.append_assoc, hMN.out, List.take_of_length_le (by rw [numB_length]; exact Nat.le_refl _)]
              unfold SRun.bytes SRunM.run SRun.f
              simp only [Bool.false_eq_true, if_false]
              rw [HF0.out.1, HX.out.2]
              rfl
            rw [e] at hownz
            have hcz := blk_cell hbz
            have HF := Lib.hid (And.intro hownz hkz)
            clear hownz hkz e
            go_wp2_with fail
            go_roundw
            case rel => exact ⟨k + 1, h, by go_num, HF.out.1, HF.out.2⟩
            case measure => simp [intOf]; omega
      · obtain ⟨h20, hv8⟩ := hcp rfl
        clear hcp hcr
        have hN20 : N ≤ 20 := by omega
        have hor := or1 N hN20
        obtain ⟨M, hMe⟩ : ∃ M, M = 2 * N + 1 := ⟨_, rfl⟩
        rw [← hMe] at hor
        have hM64 : M < 18446744073709551616 := by omega
        have hMN := Lib.hid hMe
        clear hMe
        have HP := Lib.hid (fun w => putVlq_any M hM64 w)
        go_upto_region 6 with fail
        generalize hwa : wr.alloc (.cells #[.bool true, .int .i64 (N : Int), .slice ra vs.length rc] 76) = wa at *
        clear hwa hkA
        generalize hrb : wr.heap.size = rb at *
        clear hrb
        have hcb := blk_cell hb
        go_wp2_with fail
        refine (HP.out _).mono ?_
        rintro e w1 ⟨vy, rfl, hob1, hk1⟩
        have hkw1 := hkwA.trans hk1
        have hown1 := hownA.keep hk1 (fun _ _ h => h)
        have hb1 := hk1.blk hb (fun h => h)
        have hleb := lebB_len10 M
        have hcb := blk_cell hb1
        clear HP hb hownA hkwA
        obtain ⟨gy2, cy2, rfl, hry2⟩ := hob1.parts (lebB_length0 M)
        have hbs2 := hkw1.size
        go_wp2_with (first | (at_builtin; refine wpList_append_own_at _ rfl _ _ _ rfl w.heap.size 5 i5 (.int .u8 0) 1 1 (by kernel_rfl) hi5 hz1 hz2 hz3 rfl (by omega) u5 (bytesM l W k).length (nums .u8 (bytesM l W k)) rfl hown1 ⟨gy2, 0, none⟩ (lebB 10 M).length cy2 (nums .u8 (lebB 10 M)) rfl (by simp) hry2.src (nums_ones _ _) (by simp only [maxLen]; omega) (by omega) hbs2 ?_))
        intro v2 wx2 hownx2 hgrow2 _ hat2
        obtain ⟨ja2, jk2, _, jb2⟩ := OB.join hkw1 hown1 hownx2 hgrow2 hat2
        have hbx2 := jb2 _ _ _ hb1 (by decide)
        clear hownx2 hgrow2 hat2 jb2 hob1 hry2 hown1 hcb hb1 hk1
        have hwy := blk_new wx2 (.cells #[] 45)
        have hkA : Keep (fun _ => False) wx2 (wx2.alloc (.cells #[] 45)) := (Keep.refl _ wx2).alloc _
        have hown3 : (wx2.alloc (.cells #[] 45)).ownsRow w.heap.size 45 1 (.slice (some ⟨wx2.heap.size, 0, none⟩) 0 0) 0 [] := ⟨rfl, .inr ⟨wx2.heap.size, 0, #[], rfl, jk2.size, hwy, Nat.le_refl _, by simp only [maxLen]; omega, rfl, rfl⟩⟩
        have hout3 := ja2.keep hkA (fun _ _ h => h)
        have hkw3 := jk2.trans hkA
        have hb3 := hkA.blk hbx2 (fun h => h)
        have hcb := blk_cell hb3
        have xuA := xw.keep hkw3 (fun _ _ h => h)
        have hraN : ra = none → vs.length = 0 ∧ rc = 0 := fun e => by
          refine ⟨?_, xn e⟩
          rcases Nat.eq_zero_or_pos vs.length with h0 | h0
          · exact h0
          · obtain ⟨_, _, e', _⟩ := xuA h0
            rw [e] at e'
            cases e'
        have hsrc : ∀ ad, ra = some ad → ∀ j u, (nums .u64 vs)[j]? = some u → (wx2.alloc (.cells #[] 45)).cell? (ad.add j) = some u := fun ad e j u hj => by
          have hj' : j < vs.length := by have := (List.getElem?_eq_some_iff.1 hj).1; simpa using this
          obtain ⟨gv, ov, e', hrv⟩ := xuA (by omega)
          rw [e] at e'
          cases e'
          exact hrv.src j u hj
        have hks := hkw3.size
        clear hwy hkA
        go_wp2_with (first | (at_builtin; refine wpList_append_own_src rfl _ _ _ rfl w.heap.size 45 i45 (.int .u64 0) 1 8 (by kernel_rfl) hi45 hy1 hy2 hy3 rfl (by omega) (.slice (some ⟨wx2.heap.size, 0, none⟩) 0 0) 0 [] rfl hown3 ra vs.length rc (nums .u64 vs) rfl hraN (by simp) hsrc (nums_ones _ _) (by simp only [maxLen]; omega) (by omega) hks ?_))
        intro v3 w3 hown4 hgrow hat
        obtain ⟨j1, j2, j3⟩ := ap_step hkw3 (Keep.refl _ _) hown3 hgrow (by simpa using hat)
        have hb4 := j3 _ _ _ hb3 (by decide)
        have hout4 : OB w3 w.heap.size v2 (bytesM l W k ++ lebB 10 M) := (j2 5 _ _ _ hout3 (Ne.types hout3 hown3 (by decide))).1
        have hown4 : OU w3 w.heap.size v3 (vs ++ List.replicate (vs.length - vs.length) 0) := by
          rw [Nat.sub_self, List.replicate_zero, List.append_nil]
          exact hown4
        clear hown3 hgrow hat j2 j3 hb3 hcb hout3 hkw3 hsrc hraN xuA hks ja2 jk2 hbx2 hbs2
        go_wp2_with fail
        go_loopw [8] (fun vv wr => ∃ z : Nat, vs.length ≤ z ∧ z ≤ 8 * N ∧ OU wr w.heap.size vv (vs ++ List.replicate (z - vs.length) 0) ∧ OB wr w.heap.size v2 (bytesM l W k ++ lebB 10 M) ∧ Keep (fun _ => False) w wr ∧ wr.heap[rb]? = some (.cells #[.bool true, .int .i64 (N : Int), .slice ra vs.length rc] 76 (0, 0))) (fun vv _ => 8 * N - lenOf vv)
        case atStart => exact ⟨vs.length, Nat.le_refl _, by omega, hown4, hout4, j1, hb4⟩
        case round =>
          obtain ⟨z, hz0, hz, hownz, houtz, hkz, hbz⟩ := hrel
          clear hown4 hout4 hb4 j1
          have hcz := blk_cell hbz
          obtain ⟨Az, cz, hvv, hcz2, huz⟩ := hownz.uints
          have hzl : (vs ++ List.replicate (z - vs.length) (0 : Int)).length = z := by simp; omega
          rw [hzl] at hvv hcz2
          subst hvv
          have hzz : lenOf (.slice Az z cz) = z := rfl
          have HZL := Lib.hid hzl
          by_cases hzN : z < 8 * N
          · have hzi : (z : Int) < 8 * (N : Int) := by omega
            have hA : Keep (fun _ => False) wr (wr.alloc (.cells #[.int .u64 0] 45)) := (Keep.refl _ wr).alloc _
            have hown1 := hownz.keep hA (fun _ _ h => h)
            have hks := (hkz.trans hA).size
            unfold OU at hown1
            rw [hzl] at hown1
            clear hzl
            go_wp2_with (first | (at_builtin; refine wpList_append_own_at _ rfl _ _ _ rfl w.heap.size 45 i45 (.int .u64 0) 1 8 (by kernel_rfl) hi45 hy1 hy2 hy3 rfl (by omega) (.slice Az z cz) z (nums .u64 (vs ++ List.replicate (z - vs.length) 0)) rfl hown1 ⟨wr.heap.size, 0, none⟩ 1 1 [.int .u64 0] rfl rfl (World.news_of_block (cs := #[.int .u64 0]) (t := 45) (fr := (0, 0)) (blk_new wr _)) (by simp [Value.oneCell']) (by simp only [maxLen]; omega) (by omega) hks ?_))
            intro v' w2 hown2 hgrow _ hat2
            obtain ⟨j1, j2, j3⟩ := ap_step hkz hA hownz hgrow (by simpa using hat2)
            have hf := OU.snoc (xs := vs ++ List.replicate (z - vs.length) 0) (ys := [0]) (by rw [HZL.out]; exact hown2) rfl
            rw [List.append_assoc, show List.replicate (z - vs.length) (0 : Int) ++ [0] = List.replicate (z + 1 - vs.length) 0 by rw [show z + 1 - vs.length = (z - vs.length) + 1 by omega, List.replicate_succ']] at hf
            have hb2 := j3 _ _ _ hbz (by decide)
            have ho2 : OB w2 w.heap.size v2 (bytesM l W k ++ lebB 10 M) := (j2 5 _ _ _ houtz (Ne.types houtz hownz (by decide))).1
            have hl2 : lenOf v' = z + 1 := by
              obtain ⟨_, _, e, _⟩ := hf.uints
              rw [e]
              show (vs ++ List.replicate (z + 1 - vs.length) (0 : Int)).length = _
              simp; omega
            have HF := Lib.hid (And.intro hf (And.intro ho2 (And.intro j1 (And.intro hb2 hl2))))
            clear hcz hownz hown1 hown2 hgrow hat2 hA j1 j2 j3 hf hb2 hbz hkz houtz ho2 hl2 huz
            go_wp2_with fail
            go_roundw
            case rel => exact ⟨z + 1, by omega, by omega, HF.out.1, HF.out.2.1, HF.out.2.2.1, HF.out.2.2.2.1⟩
            case measure =>
              rw [HF.out.2.2.2.2, hzz]
              omega
          · obtain rfl : z = 8 * N := by omega
            have hzi : ¬ (((8 * N : Nat) : Int) < 8 * (N : Int)) := by omega
            have hxz : ∀ i, (vs ++ List.replicate (8 * N - vs.length) (0 : Int)).getD i 0 = vs.getD i 0 := fun i => by
              simp only [List.getD_eq_getElem?_getD]
              by_cases hi : i < vs.length
              · rw [List.getElem?_append_left hi]
              · rw [List.getElem?_append_right (by omega), List.getElem?_eq_none (show vs.length ≤ i by omega), List.getElem?_replicate]
                split <;> rfl
            have HPB := Lib.hid (fun w' (hw : UInts w' Az (vs ++ List.replicate (8 * N - vs.length) (0 : Int))) => packBits_any Az (vs ++ List.replicate (8 * N - vs.length) 0) W cz w' hW1 hW20 (fun i => by
              rw [hxz i]
              by_cases hi : i < vs.length
              · exact xb i hi
              · rw [List.getD_eq_getElem?_getD, List.getElem?_eq_none (by omega)]
                exact ⟨Int.le_refl _, by decide⟩) (by rw [hzl]; omega) hw)
            simp only [hzl, hxz] at HPB
            have hpw := HPB.out wr huz
            have hpl := packed_len (fun i => (vs.getD i 0).toNat) W N
            obtain ⟨Y, hY⟩ : ∃ Y, Y = packB (valBits (fun i => (vs.getD i 0).toNat) W (8 * N)) := ⟨_, rfl⟩
            rw [← hY] at hpw hpl
            obtain ⟨X, hX⟩ : ∃ X, X = bytesM l W k ++ lebB 10 M := ⟨_, rfl⟩
            have hxl : X.length = (bytesM l W k).length + (lebB 10 M).length := by rw [hX, List.length_append]
            rw [← hX] at houtz
            have HXY := Lib.hid (And.intro hX hY)
            have HPW := Lib.hid hpw
            have hX9 : X.length ≤ 100000 := by omega
            clear hX hY hpw hxl
            clear HPB
            go_wp2_with fail
            refine HPW.out.mono ?_
            rintro e w4 ⟨vq, rfl, hob4, hk4⟩
            have hkw4 := hkz.trans hk4
            have hown4 := houtz.keep hk4 (fun _ _ h => h)
            have hb4 := hk4.blk hbz (fun h => h)
            have hNW : N * W ≤ 20 * 20 := Nat.mul_le_mul hN20 hW20
            have hNW1 : 1 * 1 ≤ N * W := Nat.mul_le_mul (by omega) hW1
            have hY9 : Y.length ≤ 1000 := by omega
            have hY0 : 0 < Y.length := by omega
            clear hpl
            clear hownz houtz hkz hbz huz hcz HPW
            obtain ⟨gy5, cy5, rfl, hry5⟩ := hob4.parts hY0
            have hbs5 := hkw4.size
            go_wp2_with (first | (at_builtin; refine wpList_append_own_at _ rfl _ _ _ rfl w.heap.size 5 i5 (.int .u8 0) 1 1 (by kernel_rfl) hi5 hz1 hz2 hz3 rfl (by omega) v2 (X).length (nums .u8 (X)) rfl hown4 ⟨gy5, 0, none⟩ (Y).length cy5 (nums .u8 (Y)) rfl (by simp) hry5.src (nums_ones _ _) (by simp only [maxLen]; omega) (by omega) hbs5 ?_))
            intro v5 wx5 hownx5 hgrow5 _ hat5
            obtain ⟨ja5, jk5, _, jb5⟩ := OB.join hkw4 hown4 hownx5 hgrow5 hat5
            have hbx5 := jb5 _ _ _ hb4 (by decide)
            clear hownx5 hgrow5 hat5 jb5 hob4 hry5 hown4 hb4 hk4
            have e : X ++ Y = bytesM l W (k + 1) := by
              rw [HR.out, ← HRR.out, HXY.out.1, HXY.out.2, List.append_assoc, hMN.out]
              rfl
            rw [e] at ja5
            have HF := Lib.hid (And.intro ja5 jk5)
            clear ja5 jk5 hbx5 e
            go_wp2_with fail
            go_roundw
            case rel => exact ⟨k + 1, h, by go_num, HF.out.1, HF.out.2⟩
            case measure => simp [intOf]; omega
    · obtain rfl : k = l.length := by omega
      go_wp2_with fail
      go_ret
      exact ⟨u5, rfl, hpr.own, hpr.kp⟩
end Go.Proofs.YtdamippibpbjhaaGreatDoor

/-! Runs behind their width; values by their numbers; what batches take. -/
namespace Go.Proofs.YtdamippibpbjhaaGreatDoor
open Go.RowKit

/-- A row of one's own, as what is appended. -/
theorem own_src {w : World} {base n : Nat} {e : TypeId} {v : Value} {xs : List Value} (h : w.ownsRow base e 1 v n xs) : ∃ A c, v = .slice A n c ∧ (A = none → n = 0 ∧ c = 0) ∧ n ≤ c ∧ ∀ ad, A = some ad → ∀ j u, xs[j]? = some u → w.cell? (ad.add j) = some u := by
  rcases h.2 with ⟨rfl, h0⟩ | ⟨g, cap, cur, rfl, _, hg, hc, _, hcs, ht⟩
  · exact ⟨none, 0, by rw [h0], fun _ => ⟨h0, rfl⟩, by omega, fun ad e => by cases e⟩
  · refine ⟨_, cap, rfl, fun e => (nomatch e), hc, fun ad e j u hj => ?_⟩
    cases e
    rw [addr_add0, blk_cell hg]
    have hjn : j < n := by have := (List.getElem?_eq_some_iff.1 hj).1; have := h.1; omega
    have h1 := congrArg (fun z => z[j]?) ht
    simp only [Nat.mul_one] at h1
    rw [List.getElem?_take_of_lt hjn, Array.getElem?_toList] at h1
    rw [h1]
    exact hj
/-- Two values and a bool come back. -/
def Three (P : Value → Value → World → Prop) (e : Ending) (w' : World) : Prop := ∃ u v b, e = .returned (.tuple #[u, v, .bool b]) ∧ (b = false → u = .slice none 0 0 ∧ v = .slice none 0 0) ∧ (b = true → P u v w')
theorem Three.no {P : Value → Value → World → Prop} {w' : World} : Three P (.returned (.tuple #[.slice none 0 0, .slice none 0 0, .bool false])) w' := ⟨_, _, false, rfl, fun _ => ⟨rfl, rfl⟩, fun h => (nomatch h)⟩
theorem Three.yes {P : Value → Value → World → Prop} {w' : World} {u v : Value} (h : P u v w') : Three P (.returned (.tuple #[u, v, .bool true])) w' := ⟨_, _, true, rfl, fun h => (nomatch h), fun _ => h⟩
/-- Runs behind the byte of their width, and all their values. -/
def ByIx (l : List SRunM) (W : Int) (w : World) (u v : Value) (w' : World) : Prop := ∃ n : Nat, W = (n : Int) ∧ 1 ≤ n ∧ n ≤ 20 ∧ l.length ≤ 40 ∧ (∀ j (h : j < l.length), l[j].run.Ok n) ∧ OB w' w.heap.size u ((n : Int) :: bytesM l n l.length) ∧ OU w' w.heap.size v (allM l l.length)

set_option maxRecDepth 100000 in
set_option maxHeartbeats 4000000 in
theorem byIndex_any (A : Option Addr) (l : List SRunM) (c : Nat) (W : Int) (w : World) (hl : Runs w A l) :
    Calls Tryz.prog 18 #[.slice A l.length c, .int .i64 W] w fun e w' => Three (ByIx l W w) e w' ∧ Keep (fun _ => False) w w' := by
  obtain ⟨i5, hi5, hi5z⟩ := Option.map_eq_some_iff.1 info5
  simp only [Prod.mk.injEq] at hi5z
  obtain ⟨hz1, hz2, hz3⟩ := hi5z
  by_cases hW1 : W < 1
  · go_enter Tryz.func18, Tryz.ntmps18
    go_wp2_with fail
    go_ret3
    exact ⟨.no, Keep.refl _ _⟩
  by_cases hW20 : 20 < W
  · go_enter Tryz.func18, Tryz.ntmps18
    go_wp2_with fail
    go_ret3
    exact ⟨.no, Keep.refl _ _⟩
  obtain ⟨n, rfl⟩ : ∃ n : Nat, W = (n : Int) := ⟨W.toNat, by omega⟩
  have HF := Lib.hid (runsFit_any A l c n (by omega) (by omega) w hl)
  go_enter Tryz.func18, Tryz.ntmps18
  go_wp2_with fail
  refine HF.out.mono ?_
  rintro e w1 ⟨⟨v, b, rfl, hb0, hb1⟩, hk1⟩
  cases b
  · obtain rfl := hb0 rfl
    clear hb0 hb1
    go_wp2_with fail
    go_ret3
    exact ⟨.no, hk1⟩
  obtain ⟨h40, hrf⟩ := hb1 rfl
  clear hb0 hb1 HF
  have hok : ∀ j (h : j < l.length), l[j].run.Ok n := fun j h => hrf.ok j h h
  have hnew := blk_new w1 (.cells #[.int .u8 n] 5)
  have hkA : Keep (fun _ => False) w1 (w1.alloc (.cells #[.int .u8 n] 5)) := (Keep.refl _ w1).alloc _
  have HP := Lib.hid (putRuns_any A l c n (by omega) (by omega) (w1.alloc (.cells #[.int .u8 n] 5)) (hl.keep (hk1.trans hkA) (fun _ _ h => h)) h40 hok)
  have hB9 := bytesM_le l n l.length (by omega) (Nat.le_refl _) hok
  have hown0 : OB (w1.alloc (.cells #[.int .u8 n] 5)) w1.heap.size (.slice (some ⟨w1.heap.size, 0, none⟩) 1 1) [(n : Int)] := ⟨rfl, .inr ⟨w1.heap.size, 1, _, rfl, Nat.le_refl _, hnew, Nat.le_refl _, by simp only [maxLen]; omega, rfl, rfl⟩⟩
  have hall := hrf.own
  have HOK := Lib.hid hok
  clear hrf hok hnew
  have hn256 : IntKind.u8.wrap (n : Int) = (n : Int) := by rw [IntKind.wrap_u8]; omega
  go_wp2_with fail
  refine HP.out.mono ?_
  rintro e w2 ⟨v2, rfl, hob2, hk2⟩
  have hown2 := hown0.keep hk2 (fun _ _ h => h)
  have hk12 := hkA.trans hk2
  obtain ⟨A2, c2, rfl, hA2, _, hsrc⟩ := own_src hob2
  have hks := hk12.size
  have hoi := hob2
  unfold OB at hown2
  clear HP
  go_wp2_with (first | (at_builtin; refine wpList_append_own_src rfl _ _ _ rfl w1.heap.size 5 i5 (.int .u8 0) 1 1 (by kernel_rfl) hi5 hz1 hz2 hz3 rfl (by omega) (.slice (some ⟨w1.heap.size, 0, none⟩) 1 1) 1 (nums .u8 [(n : Int)]) rfl hown2 A2 (bytesM l n l.length).length c2 (nums .u8 (bytesM l n l.length)) rfl hA2 (by simp) hsrc (nums_ones _ _) (by simp only [maxLen]; omega) (by omega) hks ?_))
  intro v3 w3 hown3 hgrow hat
  have hk3 : Keep (fun _ => False) w1 w3 := hk12.step (grown_keep hgrow) (fun b hb => .inr (ownsRow_lt hown2 b hb).2)
  have hall3 := hall.keep hk3 (fun _ _ h => h)
  have hf : OB w3 w.heap.size v3 ((n : Int) :: bytesM l n l.length) := OB.lower (base := w1.heap.size) (OB.snoc (xs := [(n : Int)]) (ys := bytesM l n l.length) hown3 rfl) hk1.size
  have HFF := Lib.hid (And.intro hf (And.intro hall3 (hk1.trans hk3)))
  clear hown3 hgrow hat hown2 hsrc hoi hob2 hf hall3 hall hk3 hown0
  go_wp2_with fail
  go_ret3
  exact ⟨.yes ⟨n, rfl, by omega, by omega, h40, HOK.out, HFF.out.1, HFF.out.2.1⟩, HFF.out.2.2⟩

def SVal.dflt : SVal := ⟨false, 0, ⟨#[]⟩, none, 0, 0⟩
/-- The value that a number stands for. -/
def pickV (l : List SVal) (x : Nat) : SVal := l.getD x .dflt
theorem pickV_get (l : List SVal) (x : Nat) (h : x < l.length) : pickV l x = l[x] := by
  unfold pickV
  rw [List.getD_eq_getElem?_getD, List.getElem?_eq_getElem h]
  rfl
theorem info47' : (Tryz.prog.info? 47).map (fun i => (i.zero, i.size, i.bytes)) = some (some (.agg #[.bool false, .int .u64 0, .string ⟨#[]⟩, .slice none 0 0]), 4, 56) := info47
/-- Values in a row of one's own. -/
def OV (w : World) (base : Nat) (v : Value) (l : List SVal) : Prop := w.ownsRow base 47 4 v l.length (vcells l)
theorem OV.nil (w : World) (base : Nat) : OV w base (.slice none 0 0) [] := World.ownsRow_nil w base 47 4
theorem OV.keep {S : Nat → Prop} {w w' : World} {base : Nat} {v : Value} {l : List SVal} (h : OV w base v l) (hk : Keep S w w') (hS : ∀ g, v.ownBlock = some g → ¬ S g) : OV w' base v l := ownsRow_keep h hk hS
theorem OV.lower {w : World} {base base' : Nat} {v : Value} {l : List SVal} (h : OV w base v l) (hb : base' ≤ base) : OV w base' v l := by
  refine ⟨h.1, h.2.imp (fun h => h) ?_⟩
  rintro ⟨g, c, cur, e1, e2, e3⟩
  exact ⟨g, c, cur, e1, by omega, e3⟩
theorem vcells_get (l : List SVal) : ∀ (j : Nat) (h : j < l.length) (i : Nat), i < 4 → (vcells l)[j * 4 + i]? = (l[j].cells)[i]? := by
  induction l with
  | nil => intro j h; simp at h
  | cons v l ih =>
    intro j h i hi
    simp only [vcells, List.flatMap_cons]
    have hv : v.cells.length = 4 := rfl
    cases j with
    | zero =>
      rw [List.getElem?_append_left (by omega)]
      simp
    | succ j =>
      rw [List.getElem?_append_right (by omega), hv, show (j + 1) * 4 + i - 4 = j * 4 + i by omega]
      exact ih j (by simpa using h) i hi
theorem OV.vals {w : World} {base : Nat} {v : Value} {l : List SVal} (h : OV w base v l) : ∃ A c, v = .slice A l.length c ∧ l.length ≤ c ∧ Vals w A l := by
  rcases h.2 with ⟨rfl, h0⟩ | ⟨g, cap, cur, rfl, _, hg, hc, _, hcs, ht⟩
  · exact ⟨none, 0, by rw [h0], by omega, fun h => absurd h (by omega)⟩
  · refine ⟨_, _, rfl, hc, fun _ => ⟨g, 0, rfl, fun j hj => ?_⟩⟩
    have hcell : ∀ i, i < 4 → w.cell? ⟨g, j * 4 + i, none⟩ = (l[j].cells)[i]? := fun i hi => by
      rw [blk_cell hg, ← vcells_get l j hj i hi, ← ht, List.getElem?_take_of_lt (by omega), Array.getElem?_toList]
    simp only [Nat.zero_add]
    exact ⟨hcell 0 (by omega), hcell 1 (by omega), hcell 2 (by omega), hcell 3 (by omega)⟩
theorem OV.snoc {w : World} {base : Nat} {v : Value} {l : List SVal} {x : SVal} (h : w.ownsRow base 47 4 v (l.length + 1) (vcells l ++ x.cells)) : OV w base v (l ++ [x]) := by
  unfold OV
  rw [List.length_append, List.length_singleton, vcells_append, show vcells [x] = x.cells by simp [vcells]]
  exact h
theorem natsI_getD (l : List Nat) (j : Nat) (h : j < l.length) : (natsI l).getD j 0 = ((l[j] : Nat) : Int) := by
  rw [List.getD_eq_getElem?_getD, natsI, List.getElem?_map, List.getElem?_eq_getElem h]
  rfl

set_option maxRecDepth 100000 in
set_option maxHeartbeats 4000000 in
theorem indexed_any (A B : Option Addr) (l : List SVal) (at' : List Nat) (c d : Nat) (w : World) (hl : Vals w A l) (hlen : l.length ≤ 140737488351232) (hB : UInts w B (natsI at')) (hat9 : at'.length ≤ 100000) :
    Calls Tryz.prog 19 #[.slice A l.length c, .slice B at'.length d] w fun e w' => Two (fun v w' => (∀ x ∈ at', x < l.length) ∧ OV w' w.heap.size v (at'.map (pickV l))) e w' ∧ Keep (fun _ => False) w w' := by
  obtain ⟨i47, hi47, hi47z⟩ := Option.map_eq_some_iff.1 info47
  simp only [Prod.mk.injEq] at hi47z
  obtain ⟨hz1, hz2, hz3⟩ := hi47z
  have HB := Lib.hid (And.intro hl hB)
  clear hl hB
  go_enter Tryz.func19, Tryz.ntmps19
  go_wp2_with fail
  go_loopw [6, 8, 11] (fun vv _ i wr => ∃ k : Nat, k ≤ at'.length ∧ i = .int .i64 k ∧ (∀ x ∈ at'.take k, x < l.length) ∧ OV wr w.heap.size vv ((at'.take k).map (pickV l)) ∧ Keep (fun _ => False) w wr) (fun _ _ i _ => at'.length - (intOf i).toNat)
  case atStart => exact ⟨0, Nat.zero_le _, rfl, fun x hx => by simp at hx, OV.nil _ _, Keep.refl _ _⟩
  case round =>
    obtain ⟨k, hk, rfl, hin, hown, hkr⟩ := hrel
    by_cases h : k < at'.length
    · obtain ⟨gb, ob, rfl, hrow⟩ := HB.out.2 (by rw [natsI_length]; omega)
      have hx := hkr.cell (hrow k (by rw [natsI_length]; exact h)) (fun h => h)
      rw [natsI_getD _ _ h] at hx
      have hk0 : (0 : Int) ≤ (k : Int) := by omega
      have hk1 : (k : Int) < (at'.length : Int) := by omega
      have htk := List.take_succ_eq_append_getElem h
      obtain ⟨x, hxx⟩ : ∃ x, x = at'[k] := ⟨_, rfl⟩
      rw [← hxx] at hx htk
      have HT := Lib.hid htk
      have HIN := Lib.hid hin
      clear hrow hxx htk hin
      by_cases hxl : x < l.length
      · obtain ⟨g, o, rfl, hv⟩ := HB.out.1 (by omega)
        obtain ⟨y0, y1, y2, y3⟩ := (hv.keep hkr (fun h => h)) x hxl
        have hxli : (x : Int) < (l.length : Int) := by omega
        have hx0 : (0 : Int) ≤ (x : Int) := by omega
        obtain ⟨v, hvv⟩ : ∃ v, v = l[x] := ⟨_, rfl⟩
        rw [← hvv] at y0 y1 y2 y3
        rw [← pickV_get l x hxl] at hvv
        have HV := Lib.hid hvv
        clear hvv hv
        obtain ⟨null, num, text, ka, kn, kc⟩ := v
        simp only at y0 y1 y2 y3
        have hA : Keep (fun _ => False) wr (wr.alloc (.cells #[.bool null, .int .u64 num, .string text, .slice ka kn kc] 47)) := (Keep.refl _ wr).alloc _
        have hown1 := hown.keep hA (fun _ _ h => h)
        have hnew := blk_new wr (.cells #[.bool null, .int .u64 num, .string text, .slice ka kn kc] 47)
        have hnews : ∀ j u, ([.bool null, .int .u64 num, .string text, .slice ka kn kc] : List Value)[j]? = some u → (wr.alloc (.cells #[.bool null, .int .u64 num, .string text, .slice ka kn kc] 47)).cell? ((⟨wr.heap.size, 0, none⟩ : Addr).add j) = some u := fun j u hj => by
          rw [addr_add0, blk_cell hnew]
          simpa using hj
        have hb1 := (hkr.trans hA).size
        have hl1 : ((at'.take k).map (pickV l)).length = k := by simp; omega
        unfold OV at hown1
        rw [hl1] at hown1
        clear hnew
        go_wp2_with (first | (at_builtin; refine wpList_append_own_at _ rfl _ _ _ rfl w.heap.size 47 i47 (.agg #[.bool false, .int .u64 0, .string ⟨#[]⟩, .slice none 0 0]) 4 56 (by kernel_rfl) hi47 hz1 hz2 hz3 rfl (by omega) u6 k (vcells ((at'.take k).map (pickV l))) rfl hown1 ⟨wr.heap.size, 0, none⟩ 1 1 [.bool null, .int .u64 num, .string text, .slice ka kn kc] rfl rfl hnews (by simp [Value.oneCell']) (by simp only [maxLen]; omega) (by omega) hb1 ?_))
        intro v' w2 hown2 hgrow _ hat2
        have hkf : Keep (fun _ => False) w w2 := (hkr.trans hA).step (grown_keep hgrow) (fun b hb => .inr (ownsRow_lt hown b hb).2)
        have hf := OV.snoc (l := (at'.take k).map (pickV l)) (x := ⟨null, num, text, ka, kn, kc⟩) (by rw [hl1, List.map_take]; exact hown2)
        rw [HV.out, show (at'.take k).map (pickV l) ++ [pickV l x] = (at'.take (k + 1)).map (pickV l) by rw [HT.out]; simp] at hf
        have hin2 : ∀ y ∈ at'.take (k + 1), y < l.length := fun y hy => by
          rw [HT.out, List.mem_append, List.mem_singleton] at hy
          rcases hy with hy | rfl
          · exact HIN.out y hy
          · exact hxl
        have HF := Lib.hid (And.intro hin2 (And.intro hf hkf))
        clear hown hown1 hown2 hgrow hat2 hkf hf hA hkr hnews hin2 y0 y1 y2 y3
        go_wp2_with fail
        go_roundw
        case rel => exact ⟨k + 1, h, by go_num, HF.out.1, HF.out.2.1, HF.out.2.2⟩
        case measure => simp [intOf]; omega
      · have hxli : ¬ ((x : Int) < (l.length : Int)) := by omega
        have hxli' : (l.length : Int) ≤ (x : Int) := by omega
        go_wp2_with fail
        go_ret2
        exact ⟨.no, hkr⟩
    · obtain rfl : k = at'.length := by omega
      rw [List.take_length] at hin hown
      go_wp2_with fail
      go_ret2
      exact ⟨.yes ⟨hin, hown⟩, hkr⟩
end Go.Proofs.YtdamippibpbjhaaGreatDoor

/-! A slot that no result rests on, in a function that defers. -/
namespace Go.Proofs.YtdamippibpbjhaaGreatDoor
open Go.RowKit

theorem leaves_tmps {P : Program} {fn : Func} {R : Ending → World → Prop} {tmps tmps' : Array Value} (hres : ∀ w, (results fn tmps).run P w = (results fn tmps').run P w) : ∀ (ds : List Deferred) (u : FrameMode) (w : World), Leaves P fn tmps R ds u w → Leaves P fn tmps' R ds u w
  | [], .run, _, h => h.elim
  | [], .returning, w, ⟨v, hr, hR⟩ => ⟨v, (hres w) ▸ hr, hR⟩
  | [], .panicking _, _, h => h
  | d :: ds, u, w, ⟨hrun, fv, cap, f, args, htar, hinv, hcall⟩ => ⟨hrun, fv, cap, f, args, htar, hinv, hcall.mono fun e u' w' he => by
      cases e with
      | returned v => exact leaves_tmps hres ds _ _ he
      | panicked chain => exact leaves_tmps hres ds _ _ he
      | outgrown => exact he⟩
theorem getD_put (a : Act) (d k : Nat) (v : Value) (h : d ≠ k) : (a.put (some d) v).tmps.getD k undef = a.tmps.getD k undef := by
  show (a.tmps.setIfInBounds d v).getD k undef = _
  simp only [Array.getD_eq_getD_getElem?]
  rw [Array.getElem?_setIfInBounds_ne h]
/-- Two results that are read out of variables. -/
theorem post_put2 {P : Program} {fn : Func} {R : Ending → World → Prop} {t1 t2 : TypeId} {k1 k2 : Nat} (hr : fn.results = #[.cell k1 t1, .cell k2 t2]) (d : Nat) (v : Value) (h1 : d ≠ k1) (h2 : d ≠ k2) (c : List PanicEntry) (a : Act) (w : World) (h : bodyPostD P fn R (.panic c) (a.put (some d) v) w) : bodyPostD P fn R (.panic c) a w := by
  refine leaves_tmps (fun w => ?_) _ _ _ h
  unfold results
  rw [hr]
  simp only [Array.mapM_eq_mapM_toList, List.mapM_cons, List.mapM_nil, getD_put a d k1 v h1, getD_put a d k2 v h2]
end Go.Proofs.YtdamippibpbjhaaGreatDoor
