import Derived.Test.YtdamippibpbjhaaGreatDoorYa27
import Derived.Laws.AppendOwnNone
import Derived.Deep.RegionHeld3
import Derived.Deep.DrawnRows
import Derived.Deep.CutBlock
import Derived.Deep.DeepCutAuto
/-! The writer of deltas (the reference). -/
namespace Go.Proofs.YtdamippibpbjhaaGreatDoor
open Go.RowKit

set_option maxRecDepth 100000 in
set_option maxHeartbeats 8000000 in
theorem putDeltas_any (y : Way) (A : Option Addr) (l : List Int) (c : Nat) (odd : Bool) (w : World) (hA : Ints w A l) (hl0 : 0 < l.length) (hl : l.length ≤ 2000) (hc : l.length ≤ c) (hW : y.W = 32 ∨ y.W = 64) (hy : y.Wf) (hS : 128 ≤ y.S ∧ y.S ≤ 1024) (hM : y.M ≤ 32) (hmore : y.more ≤ 8) (hodd : y.odd = if odd then 7 else 0)
    (hb : ∀ t, t < l.length → -9223372036854775808 ≤ l.getD t 0 ∧ l.getD t 0 < 9223372036854775808) :
    Calls Tryz.prog 11 #[.slice A l.length c, .int .i64 y.W, .agg #[.int .i64 y.S, .int .i64 y.M, .int .i64 y.more, .bool odd]] w fun e w' =>
      ∃ v nb, e = .returned v ∧ OB w' w.heap.size v (y.put l nb) ∧ (∀ k, k * y.S + 1 < l.length → k < nb) ∧ (y.put l nb).length ≤ 140737488351232 ∧ Keep (fun _ => False) w w' := by
  obtain ⟨g, o, rfl, hrow⟩ := hA hl0
  obtain ⟨W, S, M, n, more, od⟩ := y
  simp only at hW hS hM hmore hodd ⊢
  obtain ⟨bcs, hbcs⟩ : ∃ bcs : Array Value, bcs = #[.int .i64 S, .int .i64 M, .int .i64 more, .bool odd] := ⟨_, rfl⟩
  have hbb : (w.alloc (.cells #[.int .i64 S, .int .i64 M, .int .i64 more, .bool odd] 24)).heap[w.heap.size]? = some (.cells bcs 24 (0, 0)) := by rw [hbcs]; exact blk_new w _
  have hkA : Keep (fun _ => False) w (w.alloc (.cells #[.int .i64 S, .int .i64 M, .int .i64 more, .bool odd] 24)) := (Keep.refl _ w).alloc _
  obtain ⟨i5, hi5, hi5z⟩ := Option.map_eq_some_iff.1 info5
  simp only [Prod.mk.injEq] at hi5z
  obtain ⟨hz1, hz2, hz3⟩ := hi5z
  have hwS : IntKind.u64.wrap (S : Int) = (S : Int) := by rw [IntKind.wrap_u64]; omega
  have hwM : IntKind.u64.wrap (M : Int) = (M : Int) := by rw [IntKind.wrap_u64]; omega
  have hc0 : (w.alloc (.cells #[.int .i64 S, .int .i64 M, .int .i64 more, .bool odd] 24)).cell? ⟨w.heap.size, 0, none⟩ = some (.int .i64 S) := by rw [blk_cell (blk_new w _)]; rfl
  have hc1 : (w.alloc (.cells #[.int .i64 S, .int .i64 M, .int .i64 more, .bool odd] 24)).cell? ⟨w.heap.size, 1, none⟩ = some (.int .i64 M) := by rw [blk_cell (blk_new w _)]; rfl
  have HRow := Lib.hid (And.intro hrow (And.intro hb (And.intro hy hbb)))
  have HP := Lib.hid (And.intro (fun w => putLeb_any S (by omega) w) (fun w => putLeb_any M (by omega) w))
  have HODD := Lib.hid hodd
  have HBCS := Lib.hid hbcs
  clear hrow hb hA hy hbb hbcs hodd
  have hl10 : ∀ v, (lebB 10 v).length ≤ 10 := fun v => by
    have key : ∀ f v, (lebB f v).length ≤ f := fun f => by
      induction f with
      | zero => intro v; simp [lebB]
      | succ f ih => intro v; unfold lebB; split; simp; simp; exact ih _
    exact key 10 v
  have hml : (lebB 10 S).length + (lebB 10 M).length ≤ maxLen := by have := hl10 S; have := hl10 M; simp only [maxLen]; omega
  have hml2 : ((lebB 10 S).length + (lebB 10 M).length) * 1 ≤ 140737488355328 := by have := hl10 S; have := hl10 M; omega
  go_enter Tryz.func11, Tryz.ntmps11
  go_upto_region 1 with fail
  generalize w.alloc (.cells #[.int .i64 S, .int .i64 M, .int .i64 more, .bool odd] 24) = w1 at *
  go_cut [7] from 27 to 35 (fun v7 wr => OB wr w.heap.size v7 (lebB 10 S ++ lebB 10 M) ∧ Keep (fun _ => False) w wr ∧ wr.heap[w.heap.size]? = some (.cells bcs 24 (0, 0)))
  case first =>
    refine wp_region_takes (by kernel_rfl) ?_
    have hc0 : w1.drew.cell? ⟨w.heap.size, 0, none⟩ = some (.int .i64 S) := hc0
    have hc1 : w1.drew.cell? ⟨w.heap.size, 1, none⟩ = some (.int .i64 M) := hc1
    have hbb2 : w1.drew.heap[w.heap.size]? = some (.cells bcs 24 (0, 0)) := HRow.out.2.2.2
    have hkA : Keep (fun _ => False) w w1.drew := hkA.drew
    have hs2 : w.heap.size ≤ w1.drew.heap.size := hkA.size
    generalize w1.drew = w2 at *
    refine wpAny_pure 0 (v := .pointer (some ⟨w.heap.size, 0, none⟩)) (by kernel_rfl) rfl rfl (fun _ _ _ h => h) (fun w' => by go_simp) ?_
    go_simp
    refine wpAny_pure 4 (v := .pointer (some ⟨w.heap.size, 1, none⟩)) (by kernel_rfl) rfl rfl (fun _ _ _ h => h) (fun w' => by go_simp) ?_
    go_simp
    refine wpAny_two 1 5 (by kernel_rfl) rfl rfl ?_ ?_
    · go_wp2_with fail
      refine wpAny_pure 2 (v := .int .u64 S) (by kernel_rfl) rfl rfl (fun _ _ _ h => h) (fun w' => by go_simp) ?_
      go_simp
      refine wpAny_two 3 5 (by kernel_rfl) rfl rfl ?_ ?_
      · go_wp2_with fail
        refine (HP.out.1 _).mono ?_
        rintro e w3 ⟨v30, rfl, ho30, hk30⟩
        have hc1' := hk30.cell hc1 (fun h => h)
        go_wp2_with fail
        refine wpAny_only 5 (by kernel_rfl) rfl ?_
        go_wp2_with fail
        refine wpAny_pure 6 (v := .int .u64 M) (by kernel_rfl) rfl rfl (fun _ _ _ h => h) (fun w' => by go_simp) ?_
        go_simp
        refine wpAny_only 7 (by kernel_rfl) rfl ?_
        go_wp2_with fail
        refine (HP.out.2 _).mono ?_
        rintro e w4 ⟨v34, rfl, ho34, hk34⟩
        go_wp2_with fail
        refine wpAny_only 8 (by kernel_rfl) rfl ?_
        have hk24 := (hkA.trans hk30).trans hk34
        have ho30' := (ho30.lower hs2).keep hk34 (fun _ _ h => h)
        have hbf := hk34.blk (hk30.blk hbb2 (fun h => h)) (fun h => h)
        obtain ⟨g4, c4, rfl, hr4⟩ := ho34.parts (lebB_length0 M)
        refine wpList_append_own_at _ rfl _ _ _ rfl w.heap.size 5 i5 (.int .u8 0) 1 1 (by kernel_rfl) hi5 hz1 hz2 hz3 rfl (by omega) v30 (lebB 10 S).length (nums .u8 (lebB 10 S)) rfl ho30' ⟨g4, 0, none⟩ (lebB 10 M).length c4 (nums .u8 (lebB 10 M)) rfl (by simp) hr4.src0 (nums_ones _ _) hml hml2 (hk24.size) ?_
        intro v' w5 hown2 hgrow _ hat
        obtain ⟨x1, x2, x3, x4⟩ := OB.join hk24 ho30' hown2 hgrow hat
        have HX := Lib.hid (And.intro x1 (And.intro x2 (x4 _ _ _ hbf (by decide))))
        clear x1 x2 x3 x4 hown2 hgrow hat ho30' hr4 ho34 hk34 ho30 hk30 hbf hk24
        go_wp2_with fail
        refine wpAny_only 9 (by kernel_rfl) rfl ?_
        go_wp2_with fail
        refine wpAny_stop (by kernel_rfl) ?_
        go_wp2_with fail
        go_meet
        exact ⟨HX.out.1, HX.out.2.1, HX.out.2.2⟩
      · go_wp2_with fail
        refine wpAny_pure 6 (v := .int .u64 M) (by kernel_rfl) rfl rfl (fun _ _ _ h => h) (fun w' => by go_simp) ?_
        go_simp
        refine wpAny_only 3 (by kernel_rfl) rfl ?_
        go_wp2_with fail
        refine (HP.out.1 _).mono ?_
        rintro e w3 ⟨v30, rfl, ho30, hk30⟩
        go_wp2_with fail
        refine wpAny_only 7 (by kernel_rfl) rfl ?_
        go_wp2_with fail
        refine (HP.out.2 _).mono ?_
        rintro e w4 ⟨v34, rfl, ho34, hk34⟩
        go_wp2_with fail
        refine wpAny_only 8 (by kernel_rfl) rfl ?_
        have hk24 := (hkA.trans hk30).trans hk34
        have ho30' := (ho30.lower hs2).keep hk34 (fun _ _ h => h)
        have hbf := hk34.blk (hk30.blk hbb2 (fun h => h)) (fun h => h)
        obtain ⟨g4, c4, rfl, hr4⟩ := ho34.parts (lebB_length0 M)
        refine wpList_append_own_at _ rfl _ _ _ rfl w.heap.size 5 i5 (.int .u8 0) 1 1 (by kernel_rfl) hi5 hz1 hz2 hz3 rfl (by omega) v30 (lebB 10 S).length (nums .u8 (lebB 10 S)) rfl ho30' ⟨g4, 0, none⟩ (lebB 10 M).length c4 (nums .u8 (lebB 10 M)) rfl (by simp) hr4.src0 (nums_ones _ _) hml hml2 (hk24.size) ?_
        intro v' w5 hown2 hgrow _ hat
        obtain ⟨x1, x2, x3, x4⟩ := OB.join hk24 ho30' hown2 hgrow hat
        have HX := Lib.hid (And.intro x1 (And.intro x2 (x4 _ _ _ hbf (by decide))))
        clear x1 x2 x3 x4 hown2 hgrow hat ho30' hr4 ho34 hk34 ho30 hk30 hbf hk24
        go_wp2_with fail
        refine wpAny_only 9 (by kernel_rfl) rfl ?_
        go_wp2_with fail
        refine wpAny_stop (by kernel_rfl) ?_
        go_wp2_with fail
        go_meet
        exact ⟨HX.out.1, HX.out.2.1, HX.out.2.2⟩
    · go_wp2_with fail
      refine wpAny_pure 6 (v := .int .u64 M) (by kernel_rfl) rfl rfl (fun _ _ _ h => h) (fun w' => by go_simp) ?_
      go_simp
      refine wpAny_only 1 (by kernel_rfl) rfl ?_
      go_wp2_with fail
      refine wpAny_pure 2 (v := .int .u64 S) (by kernel_rfl) rfl rfl (fun _ _ _ h => h) (fun w' => by go_simp) ?_
      go_simp
      refine wpAny_only 3 (by kernel_rfl) rfl ?_
      go_wp2_with fail
      refine (HP.out.1 _).mono ?_
      rintro e w3 ⟨v30, rfl, ho30, hk30⟩
      go_wp2_with fail
      refine wpAny_only 7 (by kernel_rfl) rfl ?_
      go_wp2_with fail
      refine (HP.out.2 _).mono ?_
      rintro e w4 ⟨v34, rfl, ho34, hk34⟩
      go_wp2_with fail
      refine wpAny_only 8 (by kernel_rfl) rfl ?_
      have hk24 := (hkA.trans hk30).trans hk34
      have ho30' := (ho30.lower hs2).keep hk34 (fun _ _ h => h)
      have hbf := hk34.blk (hk30.blk hbb2 (fun h => h)) (fun h => h)
      obtain ⟨g4, c4, rfl, hr4⟩ := ho34.parts (lebB_length0 M)
      refine wpList_append_own_at _ rfl _ _ _ rfl w.heap.size 5 i5 (.int .u8 0) 1 1 (by kernel_rfl) hi5 hz1 hz2 hz3 rfl (by omega) v30 (lebB 10 S).length (nums .u8 (lebB 10 S)) rfl ho30' ⟨g4, 0, none⟩ (lebB 10 M).length c4 (nums .u8 (lebB 10 M)) rfl (by simp) hr4.src0 (nums_ones _ _) hml hml2 (hk24.size) ?_
      intro v' w5 hown2 hgrow _ hat
      obtain ⟨x1, x2, x3, x4⟩ := OB.join hk24 ho30' hown2 hgrow hat
      have HX := Lib.hid (And.intro x1 (And.intro x2 (x4 _ _ _ hbf (by decide))))
      clear x1 x2 x3 x4 hown2 hgrow hat ho30' hr4 ho34 hk34 ho30 hk30 hbf hk24
      go_wp2_with fail
      refine wpAny_only 9 (by kernel_rfl) rfl ?_
      go_wp2_with fail
      refine wpAny_stop (by kernel_rfl) ?_
      go_wp2_with fail
      go_meet
      exact ⟨HX.out.1, HX.out.2.1, HX.out.2.2⟩
  case rest =>
    obtain ⟨ho7, hk7, hb7⟩ := hcut
    clear hc0 hc1 hkA hml hml2
    obtain ⟨o1, ho1⟩ : ∃ o1, o1 = lebB 10 S ++ lebB 10 M := ⟨_, rfl⟩
    have hl1 : o1.length ≤ 20 := by have := hl10 S; have := hl10 M; rw [ho1, List.length_append]; omega
    rw [← ho1] at ho7
    have hwL : IntKind.u64.wrap (l.length : Int) = (l.length : Int) := by rw [IntKind.wrap_u64]; omega
    have hl0b : ((l.length : Int) == 0) = false := beq_eq_false_iff_ne.2 (by omega)
    have HPL := Lib.hid (fun w => putLeb_any l.length (by omega) w)
    have HO1 := Lib.hid ho1
    clear ho1
    go_wp2_with fail
    refine (HPL.out _).mono ?_
    rintro e w4 ⟨v40, rfl, ho40, hk40⟩
    obtain ⟨g4, c4, rfl, hr4⟩ := ho40.parts (lebB_length0 _)
    have hk74 := hk7.trans hk40
    have ho74 := ho7.keep hk40 (fun _ _ h => h)
    have hb74 := hk40.blk hb7 (fun h => h)
    obtain ⟨o2, ho2⟩ : ∃ o2, o2 = lebB 10 l.length := ⟨_, rfl⟩
    have hl2 : o2.length ≤ 10 := by rw [ho2]; exact hl10 _
    rw [← ho2] at hr4
    have HO2 := Lib.hid ho2
    clear ho2 ho40
    rw [← HO2.out]
    go_wp2_with (first | (at_builtin; refine wpList_append_own_at _ rfl _ _ _ rfl w.heap.size 5 i5 (.int .u8 0) 1 1 (by kernel_rfl) hi5 hz1 hz2 hz3 rfl (by omega) u7 (o1).length (nums .u8 (o1)) rfl ho74 ⟨g4, 0, none⟩ (o2).length c4 (nums .u8 (o2)) rfl (by simp) hr4.src0 (nums_ones _ _) (by simp only [maxLen]; omega) (by omega) hk74.size ?_))
    intro v7 w5 hown2 hgrow _ hat
    obtain ⟨x1, x2, x3, x4⟩ := OB.join hk74 ho74 hown2 hgrow hat
    have hb5 := x4 _ _ _ hb74 (by decide)
    obtain ⟨o12, ho12⟩ : ∃ o12, o12 = o1 ++ o2 := ⟨_, rfl⟩
    have hl12 : o12.length ≤ 30 := by rw [ho12, List.length_append]; omega
    rw [← ho12] at x1
    have HO12 := Lib.hid ho12
    clear ho12
    clear x3 x4 hown2 hgrow hat hr4 ho74 hk74 hb74 hk40 ho7 hk7 hb7
    have hx0 : w5.cell? ⟨g, o, none⟩ = some (.int .i64 (l.getD 0 0)) := x2.cell (HRow.out.1 0 hl0) (fun h => h)
    have hl0i : (0 : Int) < (l.length : Int) := by omega
    have hbz := HRow.out.2.1 0 hl0
    generalize hx : l.getD 0 0 = x at *
    have hzn := zg_nat hbz
    have hzi := zig_any x hbz
    have HZ := Lib.hid (fun w => putLeb_any (zg x).toNat hzn.2 w)
    rw [hzn.1] at HZ
    have HX := Lib.hid hx
    clear hx
    go_wp2_with fail
    refine (hzi w5).mono ?_
    rintro e w5' ⟨rfl, hw⟩
    have hw' := hw.symm
    clear hw
    subst hw'
    go_wp2_with fail
    refine (HZ _).mono ?_
    rintro e w6 ⟨v53, rfl, ho53, hk53⟩
    obtain ⟨g6, c6, rfl, hr6⟩ := ho53.parts (lebB_length0 _)
    have hk76 := x2.trans hk53
    have ho76 := x1.keep hk53 (fun _ _ h => h)
    have hb76 := hk53.blk hb5 (fun h => h)
    obtain ⟨o3, ho3⟩ : ∃ o3, o3 = lebB 10 (zg x).toNat := ⟨_, rfl⟩
    have hl3 : o3.length ≤ 10 := by rw [ho3]; exact hl10 _
    rw [← ho3] at hr6
    have HO3 := Lib.hid ho3
    clear ho3 ho53 x1 x2 hb5 HZ
    rw [← HO3.out]
    go_wp2_with (first | (at_builtin; refine wpList_append_own_at _ rfl _ _ _ rfl w.heap.size 5 i5 (.int .u8 0) 1 1 (by kernel_rfl) hi5 hz1 hz2 hz3 rfl (by omega) v7 o12.length (nums .u8 o12) rfl ho76 ⟨g6, 0, none⟩ (o3).length c6 (nums .u8 (o3)) rfl (by simp) hr6.src0 (nums_ones _ _) (by simp only [maxLen]; omega) (by omega) hk76.size ?_))
    intro v8 w7 hown2 hgrow _ hat
    obtain ⟨y1, y2, y3, y4⟩ := OB.join hk76 ho76 hown2 hgrow hat
    have hb8 := y4 _ _ _ hb76 (by decide)
    clear y3 y4 hown2 hgrow hat hr6 ho76 hk76 hb76 hk53
    have hput0 : OB w7 w.heap.size v8 (Way.put ⟨W, S, M, n, more, od⟩ l 0) := by
      have e : Way.put ⟨W, S, M, n, more, od⟩ l 0 = o12 ++ o3 := by
        rw [HO12.out, HO1.out, HO2.out, HO3.out, ← HX.out]
        rfl
      rw [e]
      exact y1
    clear y1
    go_wp2_with fail
    go_loopw [7, 8, 9, 10, 11, 12, 13, 14, 15, 16, 17, 18, 19, 21, 22, 23, 24, 25, 26] (fun v7 at' _ _ _ _ _ _ _ _ _ _ _ _ _ _ _ _ _ wr => ∃ k : Nat, at' = .int .i64 (k * S + 1 : Nat) ∧ k * S ≤ l.length + 1024 ∧ OB wr w.heap.size v7 (Way.put ⟨W, S, M, n, more, od⟩ l k) ∧ Keep (fun _ => False) w wr ∧ wr.heap[w.heap.size]? = some (.cells bcs 24 (0, 0))) (fun _ at' _ _ _ _ _ _ _ _ _ _ _ _ _ _ _ _ _ _ => l.length - (intOf at').toNat)
    case atStart => exact ⟨0, by go_num, by omega, hput0, y2, hb8⟩
    case round =>
      obtain ⟨k, rfl, hkS, hown, hkw, hbw⟩ := hrel
      clear hput0 y2 hb8
      by_cases hk : k * S + 1 < l.length
      · have hput := hown
        obtain ⟨oo, hoo⟩ : ∃ oo, oo = Way.put ⟨W, S, M, n, more, od⟩ l k := ⟨_, rfl⟩
        rw [← hoo] at hown
        obtain ⟨a, ha⟩ : ∃ a, a = k * S := ⟨_, rfl⟩
        obtain ⟨a1, ha1⟩ : ∃ a1, a1 = k * S + 1 := ⟨_, rfl⟩
        obtain ⟨m, hm⟩ : ∃ m, m = min S (l.length - 1 - a) := ⟨_, rfl⟩
        have haa : a1 = a + 1 := by omega
        have hal : a1 < l.length := by omega
        have hm1 : 1 ≤ m := by omega
        have hmE : a1 + m ≤ l.length := by omega
        have hif : (if (a1 : Int) + (S : Int) < (l.length : Int) then (a1 : Int) + (S : Int) else (l.length : Int)) = ((a1 + m : Nat) : Int) := by split <;> omega
        have hif2 : (if a1 + S < l.length then ((a1 + S : Nat) : Int) else (l.length : Int)) = ((a1 + m : Nat) : Int) := by split <;> omega
        rw [← ha1]
        have hbw0 : wr.cell? ⟨w.heap.size, 0, none⟩ = some (.int .i64 S) := by rw [blk_cell hbw, HBCS.out]; rfl
        have hbw1 : wr.cell? ⟨w.heap.size, 1, none⟩ = some (.int .i64 M) := by rw [blk_cell hbw, HBCS.out]; rfl
        have hbw2 : wr.cell? ⟨w.heap.size, 2, none⟩ = some (.int .i64 more) := by rw [blk_cell hbw, HBCS.out]; rfl
        have hbw3 : wr.cell? ⟨w.heap.size, 3, none⟩ = some (.bool odd) := by rw [blk_cell hbw, HBCS.out]; rfl
        have ha1i : (0 : Int) ≤ (a1 : Int) := by omega
        have ha1m : (a1 : Int) ≤ (a1 : Int) + (m : Int) := by omega
        have ha1c : (a1 : Int) + (m : Int) ≤ (c : Int) := by omega
        have HOO := Lib.hid hoo
        have HA := Lib.hid ha
        have HA1 := Lib.hid ha1
        have HMM := Lib.hid hm
        have HAA := Lib.hid haa
        clear hput hoo ha ha1 hm haa hk hkS
        have hamm : a1 + m - a1 = m := by omega
        have HW := Lib.hid (fun (z : Int) (w : World) => (wrapTo_any W hW z w).mono (fun e w' (h : e = .returned (.int .i64 (wrapW W z)) ∧ w' = w) => (⟨h.1, 0, h.2⟩ : e = .returned (.int .i64 (wrapW W z)) ∧ ∃ q, w' = w.drewN q)))
        have hn10 : wr.ownsRow w.heap.size 2 1 (.slice none 0 0) 0 (nums .i64 (dsOf W l a 0)) := World.ownsRow_nil _ _ 2 1
        obtain ⟨i2, hi2, hi2z⟩ := Option.map_eq_some_iff.1 info2
        simp only [Prod.mk.injEq] at hi2z
        obtain ⟨hy1, hy2, hy3⟩ := hi2z
        go_wp2_with fail
        generalize hmm0 : a1 + m - a1 = mm0
        have hmm1 : m = mm0 := by omega
        clear hmm0 hamm
        subst hmm1
        go_loopw [10, 11, 12, 13, 75] (fun v10 v11 _ _ i wx => ∃ j : Nat, j ≤ m ∧ i = .int .i64 j ∧ v11 = .int .i64 (leastOf W l a j) ∧ wx.ownsRow w.heap.size 2 1 v10 j (nums .i64 (dsOf W l a j)) ∧ OB wx w.heap.size u7 oo ∧ Keep (fun _ => False) w wx ∧ wx.heap[w.heap.size]? = some (.cells bcs 24 (0, 0))) (fun _ _ _ _ i _ => m - (intOf i).toNat)
        case atStart => exact ⟨0, Nat.zero_le _, rfl, rfl, hn10, hown, hkw, hbw⟩
        case round =>
          obtain ⟨j, hj, rfl, rfl, hown10, hown7, hkx, hbx⟩ := hrel
          clear hbw0 hbw1 hbw2 hbw3 hown hkw hbw hn10
          by_cases hjm : j < m
          · have hc1 := hkx.cell (HRow.out.1 (a1 + j) (by omega)) (fun h => h)
            have hc2 := hkx.cell (HRow.out.1 (a1 + j - 1) (by omega)) (fun h => h)
            have hji : (0 : Int) ≤ (a1 : Int) + (j : Int) := by omega
            have hji2 : (a1 : Int) + (j : Int) < (l.length : Int) := by omega
            have hji3 : (0 : Int) ≤ (a1 : Int) + (j : Int) - 1 := by have := HAA.out; omega
            have hji4 : (a1 : Int) + (j : Int) - 1 < (l.length : Int) := by omega
            generalize hx1 : l.getD (a1 + j) 0 = x1 at *
            generalize hx0 : l.getD (a1 + j - 1) 0 = x0 at *
            have hdl : wrapW W (wrap64 (x1 - x0)) = dlt W l (a + j) := by
              unfold dlt
              rw [show a + j + 1 = a1 + j by have := HAA.out; omega, show a + j = a1 + j - 1 by have := HAA.out; omega, hx1, hx0]
              unfold wrapW
              split
              · simp only [wrap64, IntKind.wrap_i64]; omega
              · simp only [wrap64, IntKind.wrap_i32]; omega
            have HDL := Lib.hid hdl
            clear hdl hx1 hx0
            go_wp2_with fail
            go_quiet ((go_at_call 33; exact Calls.quiet_of (HW.out _ _)))
            generalize hdd : wrapW W (wrap64 (x1 - x0)) = dd at *
            clear hdd
            have HDS := Lib.hid (show nums .i64 (dsOf W l a (j + 1)) = nums .i64 (dsOf W l a j) ++ [.int .i64 dd] by rw [dsOf, ← HDL.out]; simp [nums])
            have HLE := Lib.hid (show leastOf W l a (j + 1) = if j = 0 ∨ dd < leastOf W l a j then dd else leastOf W l a j by rw [leastOf, ← HDL.out])
            have hkq := hkx.drewN nq
            have hown10q : (wr.drewN nq).ownsRow w.heap.size 2 1 u10 j (nums .i64 (dsOf W l a j)) := hown10
            have hown7q : OB (wr.drewN nq) w.heap.size u7 oo := hown7
            have hbq := blk_drewN hbx nq
            clear hc1 hc2 hown10 hown7 hkx hbx hji hji2 hji3 hji4 hif hif2 ha1i ha1m ha1c hbz hzn hzi hl0b hwL hwS hwM
            generalize wr.drewN nq = wq at *
            have hAq : Keep (fun _ => False) wq (wq.alloc (.cells #[.int .i64 dd] 2)) := (Keep.refl _ wq).alloc _
            have hown10a := ownsRow_keep hown10q hAq (fun _ _ h => h)
            have hne7 := Ne.types hown7q hown10q (by decide)
            have hszq : w.heap.size ≤ (wq.alloc (.cells #[.int .i64 dd] 2)).heap.size := by have := hkq.size; simp; omega
            generalize leastOf W l a j = lst at *
            by_cases hj0 : j = 0
            · subst hj0
              go_wp2_with (first | (at_builtin; refine wpList_append_own_at _ rfl _ _ _ rfl w.heap.size 2 i2 (.int .i64 0) 1 8 (by kernel_rfl) hi2 hy1 hy2 hy3 rfl (by omega) u10 0 (nums .i64 (dsOf W l a 0)) rfl hown10a ⟨wq.heap.size, 0, none⟩ 1 1 [.int .i64 dd] rfl rfl (World.news_of_block (cs := #[.int .i64 dd]) (t := 2) (fr := (0, 0)) (blk_new wq _)) (by simp [Value.oneCell']) (by simp only [maxLen]; omega) (by omega) hszq ?_))
              intro v' wz hownz hgrow _ hat
              obtain ⟨z1, z2, z3⟩ := ap_step hkq hAq hown10q hgrow (by simpa using hat)
              have hownz' : wz.ownsRow w.heap.size 2 1 v' (0 + 1) (nums .i64 (dsOf W l a (0 + 1))) := by rw [HDS.out]; exact hownz
              have HZZ := Lib.hid (And.intro hownz' (And.intro (z2 5 u7 _ _ hown7q hne7).1 (And.intro z1 (z3 _ _ _ hbq (by decide)))))
              clear z1 z2 z3 hownz hownz' hgrow hat
              go_wp2_with fail
              go_roundw
              case rel => exact ⟨0 + 1, hjm, by go_num, by rw [HLE.out, if_pos (.inl trivial)], HZZ.out.1, HZZ.out.2.1, HZZ.out.2.2.1, HZZ.out.2.2.2⟩
              case measure => simp [intOf]; omega
            · have hj0b : ((j : Int) == 0) = false := beq_eq_false_iff_ne.2 (by omega)
              by_cases hdl : dd < lst
              · go_wp2_with (first | (at_builtin; refine wpList_append_own_at _ rfl _ _ _ rfl w.heap.size 2 i2 (.int .i64 0) 1 8 (by kernel_rfl) hi2 hy1 hy2 hy3 rfl (by omega) u10 j (nums .i64 (dsOf W l a j)) rfl hown10a ⟨wq.heap.size, 0, none⟩ 1 1 [.int .i64 dd] rfl rfl (World.news_of_block (cs := #[.int .i64 dd]) (t := 2) (fr := (0, 0)) (blk_new wq _)) (by simp [Value.oneCell']) (by simp only [maxLen]; omega) (by omega) hszq ?_))
                intro v' wz hownz hgrow _ hat
                obtain ⟨z1, z2, z3⟩ := ap_step hkq hAq hown10q hgrow (by simpa using hat)
                have hownz' : wz.ownsRow w.heap.size 2 1 v' (j + 1) (nums .i64 (dsOf W l a (j + 1))) := by rw [HDS.out]; exact hownz
                have HZZ := Lib.hid (And.intro hownz' (And.intro (z2 5 u7 _ _ hown7q hne7).1 (And.intro z1 (z3 _ _ _ hbq (by decide)))))
                clear z1 z2 z3 hownz hownz' hgrow hat
                go_wp2_with fail
                go_roundw
                case rel => exact ⟨j + 1, hjm, by go_num, by rw [HLE.out, if_pos (.inr hdl)], HZZ.out.1, HZZ.out.2.1, HZZ.out.2.2.1, HZZ.out.2.2.2⟩
                case measure => simp [intOf]; omega
              · go_wp2_with (first | (at_builtin; refine wpList_append_own_at _ rfl _ _ _ rfl w.heap.size 2 i2 (.int .i64 0) 1 8 (by kernel_rfl) hi2 hy1 hy2 hy3 rfl (by omega) u10 j (nums .i64 (dsOf W l a j)) rfl hown10a ⟨wq.heap.size, 0, none⟩ 1 1 [.int .i64 dd] rfl rfl (World.news_of_block (cs := #[.int .i64 dd]) (t := 2) (fr := (0, 0)) (blk_new wq _)) (by simp [Value.oneCell']) (by simp only [maxLen]; omega) (by omega) hszq ?_))
                intro v' wz hownz hgrow _ hat
                obtain ⟨z1, z2, z3⟩ := ap_step hkq hAq hown10q hgrow (by simpa using hat)
                have hownz' : wz.ownsRow w.heap.size 2 1 v' (j + 1) (nums .i64 (dsOf W l a (j + 1))) := by rw [HDS.out]; exact hownz
                have HZZ := Lib.hid (And.intro hownz' (And.intro (z2 5 u7 _ _ hown7q hne7).1 (And.intro z1 (z3 _ _ _ hbq (by decide)))))
                clear z1 z2 z3 hownz hownz' hgrow hat
                go_wp2_with fail
                go_roundw
                case rel => exact ⟨j + 1, hjm, by go_num, by rw [HLE.out, if_neg (by rintro (e | e); exact hj0 e; omega)], HZZ.out.1, HZZ.out.2.1, HZZ.out.2.2.1, HZZ.out.2.2.2⟩
                case measure => simp [intOf]; omega
          · obtain rfl : j = m := by omega
            have hlb := least_bounds W l a j (by omega)
            have hzn2 := zg_nat hlb
            have HZI := Lib.hid (fun w => zig_any (leastOf W l a j) hlb w)
            have HPZ := Lib.hid (fun w => putLeb_any (zg (leastOf W l a j)).toNat hzn2.2 w)
            rw [hzn2.1] at HPZ
            clear hif hif2
            go_wp2_with fail
            refine (HZI.out _).mono ?_
            rintro e wz ⟨rfl, hw⟩
            have hw' := hw.symm
            clear hw
            subst hw'
            go_wp2_with fail
            refine (HPZ.out _).mono ?_
            rintro e wp ⟨v110, rfl, ho110, hk110⟩
            obtain ⟨g10, c10, cs10, rfl, hc10, hcm10, hds, hdv⟩ := deltas_blk hown10 (by omega) (dsOf_length _ _ _ _)
            have HDV := Lib.hid (fun i (hi : i < j) => (hdv i hi).trans (by rw [dsOf_getD W l a j i hi] : some (Value.int .i64 ((dsOf W l a j).getD i 0)) = some (.int .i64 (dlt W l (a + i)))))
            obtain ⟨g11, c11, rfl, hr11⟩ := ho110.parts (lebB_length0 _)
            have hk11 := hkx.trans hk110
            have ho7 := hown7.keep hk110 (fun _ _ h => h)
            have hb11 := hk110.blk hbx (fun h => h)
            have hds11 := hk110.blk hds (fun h => h)
            obtain ⟨o4, ho4⟩ : ∃ o4, o4 = lebB 10 (zg (leastOf W l a j)).toNat := ⟨_, rfl⟩
            have hl4 : o4.length ≤ 10 := by rw [ho4]; exact lebB_length10 _
            rw [← ho4] at hr11
            have HO4 := Lib.hid ho4
            have hko : k ≤ a := by have := HA.out; rw [this]; exact Nat.le_mul_of_pos_right k (by omega)
            have hnS : n ≤ 1024 := by have := HRow.out.2.2.1.S; have := HRow.out.2.2.1.M0; have h1 : 1 * n ≤ M * n := Nat.mul_le_mul_right n this; simp only at *; omega
            have hod7 : od ≤ 7 := by have := HODD.out; rw [this]; split <;> omega
            have hk2 : k ≤ 2000 := by have := HAA.out; omega
            have hlo : oo.length ≤ 30000000000 := by
              rw [HOO.out]
              have h1 := Way.put_le ⟨W, S, M, n, more, od⟩ (by simp only; omega) (by simp only; omega) hnS (by simp only; omega) l k
              omega
            clear hk2 hko
            clear ho4 ho110 hdv hown10 hown7 hkx hbx hds hk110
            rw [← HO4.out]
            go_wp2_with (first | (at_builtin; refine wpList_append_own_at _ rfl _ _ _ rfl w.heap.size 5 i5 (.int .u8 0) 1 1 (by kernel_rfl) hi5 hz1 hz2 hz3 rfl (by omega) u7 oo.length (nums .u8 oo) rfl ho7 ⟨g11, 0, none⟩ o4.length c11 (nums .u8 o4) rfl (by simp) hr11.src0 (nums_ones _ _) (by simp only [maxLen]; omega) (by omega) hk11.size ?_))
            intro v7 w20 hown2 hgrow _ hat
            obtain ⟨x1, x2, _, x4⟩ := OB.join hk11 ho7 hown2 hgrow hat
            have hH0 : Hold w w20 bcs g10 cs10 v7 (.slice none 0 0) (.slice none 0 0) (oo ++ o4) [] [] := ⟨x1, OB.nil _ _, OB.nil _ _, Ne.nil _, Ne.nil _, Ne.nil _, x2, x4 _ _ _ hb11 (by decide), x4 _ _ _ hds11 (by decide)⟩
            obtain ⟨o5, ho5⟩ : ∃ o5, o5 = oo ++ o4 := ⟨_, rfl⟩
            have hlo5 : o5.length ≤ 30000000100 := by rw [ho5, List.length_append]; omega
            rw [← ho5] at hH0
            have HO5 := Lib.hid ho5
            clear ho5 x1 x2 x4 hown2 hgrow hat hb11 hds11 hk11 ho7 hr11
            obtain ⟨yy, hyy⟩ : ∃ yy : Way, yy = ⟨W, S, M, n, more, od⟩ := ⟨_, rfl⟩
            have HYY := Lib.hid hyy
            clear hyy
            have hM0 : 0 < M := HRow.out.2.2.1.M0
            have hn0 : 0 < n := HRow.out.2.2.1.n0
            have hSMn : S = M * n := HRow.out.2.2.1.S
            have hbw0 : w20.cell? ⟨w.heap.size, 0, none⟩ = some (.int .i64 S) := by rw [blk_cell hH0.bb, HBCS.out]; rfl
            have hbw1 : w20.cell? ⟨w.heap.size, 1, none⟩ = some (.int .i64 M) := by rw [blk_cell hH0.bb, HBCS.out]; rfl
            have hdiv : (S : Int) / (M : Int) = (n : Int) := by rw [hSMn, Int.natCast_mul, Int.mul_ediv_cancel_left _ (by omega)]
            have hMz : ((M : Int) == 0) = false := beq_eq_false_iff_ne.2 (by omega)
            have HSM := Lib.hid hSMn
            clear hSMn
            go_wp2_with fail
            go_loopw [15, 16, 17, 18, 19, 21, 22, 23, 24, 25, 26] (fun v15 v16 kv _ _ _ _ _ _ _ _ wx => ∃ jj : Nat, jj ≤ M ∧ kv = .int .i64 (jj * n : Nat) ∧ Hold w wx bcs g10 cs10 v7 v15 v16 o5 (yy.widths l a j jj) (yy.bodies l a j jj)) (fun _ _ kv _ _ _ _ _ _ _ _ _ => S - (intOf kv).toNat)
            case atStart => exact ⟨0, Nat.zero_le _, by go_num, hH0⟩
            case round =>
              obtain ⟨jj, hjM, rfl, hH⟩ := hrel
              clear hH0 hbw0 hbw1 hdiv hMz
              have hbw0 : wr.cell? ⟨w.heap.size, 0, none⟩ = some (.int .i64 S) := by rw [blk_cell hH.bb, HBCS.out]; rfl
              obtain ⟨xw, hxw⟩ : ∃ xw, xw = yy.widths l a j jj := ⟨_, rfl⟩
              obtain ⟨xb, hxb⟩ : ∃ xb, xb = yy.bodies l a j jj := ⟨_, rfl⟩
              rw [← hxw, ← hxb] at hH
              have hlw : xw.length ≤ 32 := by rw [hxw, Way.widths_length]; omega
              have hlxb : xb.length ≤ 262144 := by
                rw [hxb]
                have h1 := Way.bodies_le yy (by rw [HYY.out]; simp only; omega) (by rw [HYY.out]; simp only; omega) (by rw [HYY.out]; exact hnS) l a j jj
                omega
              have HXW := Lib.hid hxw
              have HXB := Lib.hid hxb
              clear hxw hxb
              by_cases hjj : jj < M
              · have hbw2 : wr.cell? ⟨w.heap.size, 2, none⟩ = some (.int .i64 more) := by rw [blk_cell hH.bb, HBCS.out]; rfl
                have hbw3 : wr.cell? ⟨w.heap.size, 3, none⟩ = some (.bool odd) := by rw [blk_cell hH.bb, HBCS.out]; rfl
                obtain ⟨kk, hkk⟩ : ∃ kk, kk = jj * n := ⟨_, rfl⟩
                rw [← hkk]
                have hkS : kk + n ≤ S := by
                  have h1 : (jj + 1) * n ≤ M * n := Nat.mul_le_mul_right n hjj
                  rw [Nat.add_mul, Nat.one_mul] at h1
                  rw [HSM.out, hkk]
                  exact h1
                have hkn : kk + n = (jj + 1) * n := by rw [Nat.add_mul, Nat.one_mul, hkk]
                have HKK := Lib.hid hkk
                have HKN := Lib.hid hkn
                clear hkk hkn
                by_cases hthere : j ≤ kk
                ·
                  have hth : (j : Int) ≤ (kk : Int) := by omega
                  have hwd : yy.wd l a j jj = od := by unfold Way.wd; rw [HYY.out]; simp only; rw [if_pos (by rw [← HKK.out]; exact hthere)]
                  have hbd : yy.body l a j jj = [] := by unfold Way.body; rw [HYY.out]; simp only; rw [if_pos (by rw [← HKK.out]; exact hthere)]
                  have HWD := Lib.hid (And.intro hwd hbd)
                  clear hwd hbd
                  obtain ⟨tv, htv⟩ : ∃ tv : Int, tv = if odd then 1 else 0 := ⟨_, rfl⟩
                  have htv0 : 0 ≤ tv ∧ tv ≤ 1 := by rw [htv]; split <;> omega
                  have hto : tv * 7 = (od : Int) := by rw [htv, HODD.out]; split <;> rfl
                  have HTV := Lib.hid (fun w => truth_any odd w)
                  rw [← htv] at HTV
                  clear htv
                  go_wp2_with fail
                  refine (HTV.out _).mono ?_
                  rintro e wt ⟨rfl, hw⟩
                  have hw' := hw.symm
                  clear hw
                  subst hw'
                  have hA1 : Keep (fun _ => False) wr (wr.alloc (.cells #[.int .u8 od] 5)) := (Keep.refl _ wr).alloc _
                  have hown15 := hH.fw.keep hA1 (fun _ _ h => h)
                  have hszr : w.heap.size ≤ (wr.alloc (.cells #[.int .u8 od] 5)).heap.size := by have := hH.k.size; simp; omega
                  go_wp2_with (first | (at_builtin; refine wpList_append_own_at _ rfl _ _ _ rfl w.heap.size 5 i5 (.int .u8 0) 1 1 (by kernel_rfl) hi5 hz1 hz2 hz3 rfl (by omega) u15 xw.length (nums .u8 xw) rfl hown15 ⟨wr.heap.size, 0, none⟩ 1 1 [.int .u8 od] rfl rfl (World.news_of_block (cs := #[.int .u8 od]) (t := 5) (fr := (0, 0)) (blk_new wr _)) (by simp [Value.oneCell']) (by simp only [maxLen]; omega) (by omega) hszr ?_))
                  intro v' w2 hown2 hgrow _ hat
                  have hH2 := hH.apW hA1 hown2 hgrow (by simpa using hat)
                  clear hown2 hgrow hat hown15 hA1 hszr
                  go_wp2_with fail
                  go_roundw
                  case rel => exact ⟨jj + 1, hjj, by rw [← HKN.out]; go_num, by rw [Way.widths, Way.bodies, HWD.out.1, HWD.out.2, List.append_nil, ← HXW.out, ← HXB.out]; exact hH2⟩
                  case measure => simp [intOf]; omega
                ·
                  have hth : ¬ ((j : Int) ≤ (kk : Int)) := by omega
                  obtain ⟨pn, hpn⟩ : ∃ pn, pn = min n (j - kk) := ⟨_, rfl⟩
                  have hif3 : (if (kk : Int) + (n : Int) < (j : Int) then (kk : Int) + (n : Int) else (j : Int)) = ((kk + pn : Nat) : Int) := by split <;> omega
                  have hif4 : (if kk + n < j then ((kk + n : Nat) : Int) else (j : Int)) = ((kk + pn : Nat) : Int) := by split <;> omega
                  have hp0 : (0 : Int) ≤ (kk : Int) := by omega
                  have hp1 : (kk : Int) ≤ (kk : Int) + (pn : Int) := by omega
                  have hp2 : (kk : Int) + (pn : Int) ≤ (c10 : Int) := by omega
                  have hpj : kk + pn ≤ j := by omega
                  have HPN := Lib.hid hpn
                  clear hpn
                  have HMK := Lib.hid (fun w => mask_any W hW w)
                  have HVM := Lib.hid (fun z => vOf_mask W hW z)
                  have HMQ := Lib.hid (fun (w : World) => (mask_any W hW w).mono (fun e w' (h : e = .returned (.int .u64 (2 ^ W - 1)) ∧ w' = w) => (⟨h.1, 0, h.2⟩ : e = .returned (.int .u64 (2 ^ W - 1)) ∧ ∃ q, w' = w.drewN q)))
                  obtain ⟨lst, hlst⟩ : ∃ lst, lst = leastOf W l a j := ⟨_, rfl⟩
                  rw [← hlst]
                  have HLST := Lib.hid hlst
                  clear hlst
                  go_wp2_with fail
                  generalize hpp : kk + pn - kk = pp
                  have hpp1 : pn = pp := by omega
                  clear hpp
                  subst hpp1
                  go_loopw [19, 21, 148] (fun v19 _ i wx => ∃ q : Nat, q ≤ pn ∧ i = .int .i64 q ∧ v19 = .int .i64 (mostOf W l lst (a + kk) q) ∧ Hold w wx bcs g10 cs10 v7 u15 u16 o5 xw xb) (fun _ _ i _ => pn - (intOf i).toNat)
                  case atStart => exact ⟨0, Nat.zero_le _, rfl, rfl, hH⟩
                  case round =>
                    obtain ⟨q, hq, rfl, rfl, hHq⟩ := hrel
                    clear hH hbw0 hbw2 hbw3
                    by_cases hqp : q < pn
                    ·
                      have hcq : wr.cell? ⟨g10, kk + q, none⟩ = some (.int .i64 (dlt W l (a + (kk + q)))) := by rw [blk_cell hHq.ds]; exact HDV.out (kk + q) (by omega)
                      have hq0 : (0 : Int) ≤ (kk : Int) + (q : Int) := by omega
                      obtain ⟨dd, hdd⟩ : ∃ dd, dd = dlt W l (a + (kk + q)) := ⟨_, rfl⟩
                      rw [← hdd] at hcq
                      obtain ⟨mq, hmq⟩ : ∃ mq, mq = mostOf W l lst (a + kk) q := ⟨_, rfl⟩
                      have hmq64 : mq ≤ 64 := by rw [hmq]; exact mostOf_le _ _ _ _ _
                      rw [← hmq]
                      obtain ⟨vv, hvv⟩ : ∃ vv, vv = vOf W lst dd := ⟨_, rfl⟩
                      have hvv64 : vv < 18446744073709551616 := by rw [hvv]; exact vOf_lt64 W hW lst dd
                      have hand : bits .and .u64 (IntKind.u64.wrap (wrap64 (dd - lst))) (2 ^ W - 1) = (vv : Int) := by rw [hvv]; exact HVM.out (dd - lst)
                      obtain ⟨nv, hnv⟩ : ∃ nv, nv = nbits 64 vv := ⟨_, rfl⟩
                      have hnv64 : nv ≤ 64 := by rw [hnv]; exact nbits_le 64 vv
                      have HBF := Lib.hid (fun w => bitsFor_any vv hvv64 w)
                      rw [← hnv] at HBF
                      have hmx : mostOf W l lst (a + kk) (q + 1) = max mq nv := by rw [mostOf, ← hmq, hnv, hvv, hdd, Nat.add_assoc]
                      have HMX := Lib.hid hmx
                      clear hdd hmq hvv hnv hmx
                      go_wp2_with fail
                      refine (HMK.out _).mono ?_
                      rintro e wt ⟨rfl, hw⟩
                      have hw' := hw.symm
                      clear hw
                      subst hw'
                      go_wp2_with fail
                      refine (HBF.out _).mono ?_
                      rintro e wt ⟨rfl, hw⟩
                      have hw' := hw.symm
                      clear hw
                      subst hw'
                      go_wp2_with fail
                      go_roundw
                      case rel => exact ⟨q + 1, hqp, by go_num, by rw [HMX.out]; congr 1; split <;> omega, hHq⟩
                      case measure => simp [intOf]; omega
                    ·
                      obtain rfl : q = pn := by omega
                      obtain ⟨mq, hmq⟩ : ∃ mq, mq = mostOf W l lst (a + kk) q := ⟨_, rfl⟩
                      have hmq64 : mq ≤ 64 := by rw [hmq]; exact mostOf_le _ _ _ _ _
                      obtain ⟨wd, hwd⟩ : ∃ wd, wd = min W (mq + more) := ⟨_, rfl⟩
                      have hwdE : yy.wd l a j jj = wd := by
                        unfold Way.wd
                        rw [HYY.out]
                        simp only
                        rw [if_neg (by rw [← HKK.out]; exact hthere), ← HLST.out, ← HKK.out, ← HPN.out, ← hmq, hwd]
                      have hbdE : yy.body l a j jj = packB (valBits (fOf W l lst (a + kk) q) wd n) := by
                        unfold Way.body
                        rw [hwdE, HYY.out]
                        simp only
                        rw [if_neg (by rw [← HKK.out]; exact hthere), ← HLST.out, ← HKK.out, ← HPN.out]
                      have HWD := Lib.hid (And.intro hwdE hbdE)
                      rw [← hmq]
                      have hwd64 : wd ≤ 64 := by omega
                      have hif5 : (if (mq : Int) + (more : Int) < (W : Int) then (mq : Int) + (more : Int) else (W : Int)) = (wd : Int) := by split <;> omega
                      have hif6 : (if mq + more < W then ((mq + more : Nat) : Int) else (W : Int)) = (wd : Int) := by split <;> omega
                      have hbw2 : wr.cell? ⟨w.heap.size, 2, none⟩ = some (.int .i64 more) := by rw [blk_cell hHq.bb, HBCS.out]; rfl
                      clear hwdE hbdE hmq hwd
                      have hA1 : Keep (fun _ => False) wr (wr.alloc (.cells #[.int .u8 wd] 5)) := (Keep.refl _ wr).alloc _
                      have hown15 := hHq.fw.keep hA1 (fun _ _ h => h)
                      have hszr : w.heap.size ≤ (wr.alloc (.cells #[.int .u8 wd] 5)).heap.size := by have := hHq.k.size; simp; omega
                      go_wp2_with (first | (at_builtin; refine wpList_append_own_at _ rfl _ _ _ rfl w.heap.size 5 i5 (.int .u8 0) 1 1 (by kernel_rfl) hi5 hz1 hz2 hz3 rfl (by omega) u15 xw.length (nums .u8 xw) rfl hown15 ⟨wr.heap.size, 0, none⟩ 1 1 [.int .u8 wd] rfl rfl (World.news_of_block (cs := #[.int .u8 wd]) (t := 5) (fr := (0, 0)) (blk_new wr _)) (by simp [Value.oneCell']) (by simp only [maxLen]; omega) (by omega) hszr ?_))
                      intro v15 w4 hown2 hgrow _ hat
                      have hH4 := hHq.apW hA1 hown2 hgrow (by simpa using hat)
                      clear hown2 hgrow hat hown15 hA1 hszr hHq hif5 hif6 hbw2
                      obtain ⟨xw2, hxw2⟩ : ∃ xw2, xw2 = xw ++ [(wd : Int)] := ⟨_, rfl⟩
                      rw [← hxw2] at hH4
                      have HXW2 := Lib.hid hxw2
                      clear hxw2
                      obtain ⟨f, hf⟩ : ∃ f, f = fOf W l lst (a + kk) q := ⟨_, rfl⟩
                      have hf64 : ∀ t, f t < 18446744073709551616 := fun t => by rw [hf]; unfold fOf; split; exact vOf_lt64 W hW _ _; omega
                      have HF := Lib.hid hf
                      clear hf
                      have hn23 : w4.ownsRow w.heap.size 4 1 (.slice none 0 0) 0 (bools []) := World.ownsRow_nil _ _ 4 1
                      obtain ⟨i4, hi4, hi4z⟩ := Option.map_eq_some_iff.1 info4
                      simp only [Prod.mk.injEq] at hi4z
                      obtain ⟨hb1, hb2, hb3⟩ := hi4z
                      go_wp2_with fail
                      go_loopw [23, 24, 25, 26, 175] (fun v23 _ _ _ i wx => ∃ t : Nat, t ≤ n ∧ i = .int .i64 t ∧ Hold w wx bcs g10 cs10 v7 v15 u16 o5 xw2 xb ∧ wx.ownsRow w.heap.size 4 1 v23 (t * wd) (bools (valBits f wd t))) (fun _ _ _ _ i _ => n - (intOf i).toNat)
                      case atStart => exact ⟨0, Nat.zero_le _, rfl, hH4, by rw [Nat.zero_mul]; exact hn23⟩
                      case round =>
                        obtain ⟨t, ht, rfl, hHt, hown23⟩ := hrel
                        clear hH4 hn23
                        by_cases htn : t < n
                        ·
                          obtain ⟨ft, hft⟩ : ∃ ft, ft = f t := ⟨_, rfl⟩
                          have hft64 : ft < 18446744073709551616 := by rw [hft]; exact hf64 t
                          have HFT := Lib.hid hft
                          clear hft
                          go_upto_if 181 with fail
                          go_cut [25] from 176 to 205 (fun v25 wx => v25 = .int .u64 ft ∧ Hold w wx bcs g10 cs10 v7 v15 u16 o5 xw2 xb ∧ wx.ownsRow w.heap.size 4 1 u23 (t * wd) (bools (valBits f wd t)))
                          case first =>
                            by_cases htq : t < q
                            · have hct : wr.cell? ⟨g10, kk + t, none⟩ = some (.int .i64 (dlt W l (a + (kk + t)))) := by rw [blk_cell hHt.ds]; exact HDV.out (kk + t) (by omega)
                              have hand : bits .and .u64 (IntKind.u64.wrap (wrap64 (dlt W l (a + (kk + t)) - lst))) (2 ^ W - 1) = (ft : Int) := by
                                rw [HVM.out, HFT.out, HF.out]
                                unfold fOf
                                rw [if_pos htq, Nat.add_assoc]
                                rfl
                              have ht0 : (0 : Int) ≤ (kk : Int) + (t : Int) := by omega
                              obtain ⟨dd, hdd⟩ : ∃ dd, dd = dlt W l (a + (kk + t)) := ⟨_, rfl⟩
                              rw [← hdd] at hct hand
                              clear hdd
                              go_wp2_with fail
                              go_quiet ((go_at_call 36; exact Calls.quiet_of (HMQ.out _)))
                              go_wp2_with fail
                              go_meet
                              exact ⟨rfl, hHt.keep ((Keep.refl _ wr).drewN _), hown23⟩
                            · have hft0 : ft = 0 := by
                                rw [HFT.out, HF.out]
                                unfold fOf
                                rw [if_neg htq]
                              subst hft0
                              go_wp2_with fail
                              go_meet
                              exact ⟨rfl, hHt, hown23⟩
                          case rest =>
                            obtain ⟨rfl, hHc, hownc⟩ := hcut
                            clear hHt hown23
                            go_wp2_with fail
                            go_loopw [23, 26, 193] (fun v23 _ i wx => ∃ z : Nat, z ≤ wd ∧ i = .int .i64 z ∧ Hold w wx bcs g10 cs10 v7 v15 u16 o5 xw2 xb ∧ wx.ownsRow w.heap.size 4 1 v23 (t * wd + z) (bools (valBits f wd t ++ bitsOf ft z))) (fun _ _ i _ => wd - (intOf i).toNat)
                            case atStart => exact ⟨0, Nat.zero_le _, rfl, hHc, by rw [bitsOf, List.append_nil]; exact hownc⟩
                            case round =>
                              obtain ⟨z, hz, rfl, hHz, hownz⟩ := hrel
                              clear hHc hownc
                              by_cases hzw : z < wd
                              ·
                                obtain ⟨bz, hbz⟩ : ∃ bz : Nat, bz = ft / 2 ^ z % 2 := ⟨_, rfl⟩
                                have hand : bits .and .u64 ((ft : Int) / 2 ^ z) 1 = (bz : Int) := by rw [hbz]; exact bit_and ft z hft64
                                obtain ⟨bb, hbb⟩ : ∃ bb : Bool, bb = ((bz : Int) == 1) := ⟨_, rfl⟩
                                have hbsn : bitsOf ft (z + 1) = bitsOf ft z ++ [bb] := by
                                  rw [bitsOf, hbb, hbz]
                                  congr 2
                                  by_cases h1 : ft / 2 ^ z % 2 = 1
                                  · simp [h1]
                                  · have : ft / 2 ^ z % 2 = 0 := by omega
                                    simp [this]
                                have hz64 : (z : Int) < 64 := by omega
                                have HBS := Lib.hid hbsn
                                have hbbs := hbb.symm
                                clear hbsn hbz hbb
                                have hA1 : Keep (fun _ => False) wr (wr.alloc (.cells #[.bool bb] 4)) := (Keep.refl _ wr).alloc _
                                have hown1 := ownsRow_keep hownz hA1 (fun _ _ h => h)
                                have hszr : w.heap.size ≤ (wr.alloc (.cells #[.bool bb] 4)).heap.size := by have := hHz.k.size; simp; omega
                                have htw : t * wd ≤ 1024 * 64 := Nat.mul_le_mul (by omega) hwd64
                                go_wp2_with (first | (at_builtin; refine wpList_append_own_at _ rfl _ _ _ rfl w.heap.size 4 i4 (.bool false) 1 1 (by kernel_rfl) hi4 hb1 hb2 hb3 rfl (by omega) u23 (t * wd + z) (bools (valBits f wd t ++ bitsOf ft z)) rfl hown1 ⟨wr.heap.size, 0, none⟩ 1 1 [.bool bb] rfl rfl (World.news_of_block (cs := #[.bool bb]) (t := 4) (fr := (0, 0)) (blk_new wr _)) (by simp [Value.oneCell']) (by simp only [maxLen]; omega) (by omega) hszr ?_))
                                intro v' w2 hown2 hgrow _ hat
                                have hH2 := hHz.apT hA1 hownz hgrow (by simpa using hat)
                                have hown2' : w2.ownsRow w.heap.size 4 1 v' (t * wd + (z + 1)) (bools (valBits f wd t ++ bitsOf ft (z + 1))) := by rw [HBS.out, ← List.append_assoc, bools_snoc]; exact hown2
                                clear hown2 hgrow hat hown1 hA1 hszr hHz hownz
                                go_wp2_with fail
                                go_roundw
                                case rel => exact ⟨z + 1, hzw, by go_num, hH2, hown2'⟩
                                case measure => simp [intOf]; omega
                              · obtain rfl : z = wd := by omega
                                go_wp2_with fail
                                go_roundw
                                case rel => exact ⟨t + 1, htn, by go_num, hHz, by rw [Nat.add_mul, Nat.one_mul, valBits, ← HFT.out]; exact hownz⟩
                                case measure => simp [intOf]; omega
                        ·
                          obtain rfl : t = n := by omega
                          obtain ⟨bl, hbl⟩ : ∃ bl, bl = valBits f wd t := ⟨_, rfl⟩
                          have hblL : bl.length = t * wd := by rw [hbl, valBits_length]
                          have hblM : bl.length ≤ 70000 := by
                            have : t * wd ≤ 1024 * 64 := Nat.mul_le_mul hnS hwd64
                            omega
                          rw [← hbl, ← hblL] at hown23
                          obtain ⟨A23, c23, rfl, hc23⟩ := bools_slice hown23
                          have HBL := Lib.hid hbl
                          have HPA := Lib.hid (packed_any A23 bl c23 wr hblM hc23)
                          clear hbl hblL hc23 hown23
                          go_wp2_with fail
                          refine HPA.out.mono ?_
                          rintro e wp ⟨gp, cp, rfl, hop, hkp⟩
                          obtain ⟨pb, hpb⟩ : ∃ pb, pb = packB bl := ⟨_, rfl⟩
                          have hpbL : pb.length ≤ 8752 := by rw [hpb, packB_length]; omega
                          rw [← hpb] at hop
                          have hrp := hop.row
                          have hHp := hHt.keep hkp
                          have HPB := Lib.hid hpb
                          clear hop hkp hHt hpb
                          rw [← HPB.out]
                          go_wp2_with (first | (at_builtin; refine wpList_append_own_at _ rfl _ _ _ rfl w.heap.size 5 i5 (.int .u8 0) 1 1 (by kernel_rfl) hi5 hz1 hz2 hz3 rfl (by omega) u16 xb.length (nums .u8 xb) rfl hHp.fb ⟨gp, 0, none⟩ pb.length cp (nums .u8 pb) rfl (by simp) hrp.src0 (nums_ones _ _) (by simp only [maxLen]; omega) (by omega) hHp.k.size ?_))
                          intro v' w2 hown2 hgrow _ hat
                          have hH2 := hHp.apB hown2 hgrow hat
                          clear hown2 hgrow hat hHp hrp
                          go_wp2_with fail
                          go_roundw
                          case rel => exact ⟨jj + 1, hjj, by rw [← HKN.out]; go_num, by rw [Way.widths, Way.bodies, HWD.out.1, HWD.out.2, ← HXW.out, ← HXB.out, ← HXW2.out, ← HF.out, ← HBL.out, ← HPB.out]; exact hH2⟩
                          case measure => simp [intOf]; omega
              ·
                obtain rfl : jj = M := by omega
                have hkS2 : ¬ (((jj * n : Nat) : Int) < (S : Int)) := by have := HSM.out; omega
                have hput : Way.put ⟨W, S, jj, n, more, od⟩ l (k + 1) = o5 ++ xw ++ xb := by
                  rw [Way.put]
                  unfold Way.block Way.lebL
                  simp only
                  rw [← HOO.out, ← HA.out, ← HMM.out, ← HO4.out, HXW.out, HXB.out, HO5.out, HYY.out]
                  simp only [List.append_assoc]
                obtain ⟨g15, c15, rfl, hr15⟩ := hH.fw.parts (by rw [HXW.out, Way.widths_length]; exact hM0)
                obtain ⟨kk, hkk⟩ : ∃ kk, kk = jj * n := ⟨_, rfl⟩
                rw [← hkk] at hkS2
                rw [← hkk]
                clear hkk
                rcases hH.fb.either with ⟨rfl, hxb0⟩ | ⟨g16, c16, rfl, hr16⟩
                · go_wp2_with (first | (at_builtin; refine wpList_append_own_at _ rfl _ _ _ rfl w.heap.size 5 i5 (.int .u8 0) 1 1 (by kernel_rfl) hi5 hz1 hz2 hz3 rfl (by omega) v7 o5.length (nums .u8 o5) rfl hH.fo ⟨g15, 0, none⟩ xw.length c15 (nums .u8 xw) rfl (by simp) hr15.src0 (nums_ones _ _) (by simp only [maxLen]; omega) (by omega) hH.k.size ?_))
                  intro v8 w8 hown2 hgrow _ hat
                  have hH8 := hH.apO hown2 hgrow hat
                  clear hown2 hgrow hat hH hr15
                  obtain ⟨o6, ho6⟩ : ∃ o6, o6 = o5 ++ xw := ⟨_, rfl⟩
                  rw [← ho6] at hH8
                  have hH9 : Hold w w8 bcs g10 cs10 v8 (.slice (some ⟨g15, 0, none⟩) xw.length c15) (.slice none 0 0) (o5 ++ xw ++ xb) xw xb := by rw [hxb0, List.append_nil, ← ho6, ← hxb0]; exact hH8
                  clear ho6 hxb0
                  have hbw9 : w8.cell? ⟨w.heap.size, 0, none⟩ = some (.int .i64 S) := by rw [blk_cell hH9.bb, HBCS.out]; rfl
                  go_wp2_with (first | (at_builtin; refine wpList_append_own_none rfl _ _ _ rfl w.heap.size 5 i5 1 (by kernel_rfl) hi5 v8 o6.length (nums .u8 o6) rfl hH8.fo rfl ?_))
                  go_wp2_with fail
                  go_roundw
                  case rel => exact ⟨k + 1, by rw [show (k + 1) * S + 1 = a1 + S by have := HA1.out; rw [Nat.add_mul, Nat.one_mul]; omega]; go_num, by have := HA.out; have := HAA.out; rw [Nat.add_mul, Nat.one_mul]; omega, by rw [hput]; exact hH9.fo, hH9.k, hH9.bb⟩
                  case measure => simp [intOf]; omega
                · go_wp2_with (first | (at_builtin; refine wpList_append_own_at _ rfl _ _ _ rfl w.heap.size 5 i5 (.int .u8 0) 1 1 (by kernel_rfl) hi5 hz1 hz2 hz3 rfl (by omega) v7 o5.length (nums .u8 o5) rfl hH.fo ⟨g15, 0, none⟩ xw.length c15 (nums .u8 xw) rfl (by simp) hr15.src0 (nums_ones _ _) (by simp only [maxLen]; omega) (by omega) hH.k.size ?_))
                  intro v8 w8 hown2 hgrow _ hat
                  have hH8 := hH.apO hown2 hgrow hat
                  clear hown2 hgrow hat hH hr15 hr16
                  obtain ⟨o6, ho6⟩ : ∃ o6, o6 = o5 ++ xw := ⟨_, rfl⟩
                  have hl6 : o6.length ≤ 30000001000 := by rw [ho6, List.length_append]; omega
                  rw [← ho6] at hH8
                  have HO6 := Lib.hid ho6
                  clear ho6
                  have hr16 := hH8.fb.row
                  go_wp2_with (first | (at_builtin; refine wpList_append_own_at _ rfl _ _ _ rfl w.heap.size 5 i5 (.int .u8 0) 1 1 (by kernel_rfl) hi5 hz1 hz2 hz3 rfl (by omega) v8 o6.length (nums .u8 o6) rfl hH8.fo ⟨g16, 0, none⟩ xb.length c16 (nums .u8 xb) rfl (by simp) hr16.src0 (nums_ones _ _) (by simp only [maxLen]; omega) (by omega) hH8.k.size ?_))
                  intro v9 w9 hown2 hgrow _ hat
                  have hH9 := hH8.apO hown2 hgrow hat
                  rw [HO6.out] at hH9
                  clear hown2 hgrow hat hH8 hr16
                  have hbw9 : w9.cell? ⟨w.heap.size, 0, none⟩ = some (.int .i64 S) := by rw [blk_cell hH9.bb, HBCS.out]; rfl
                  go_wp2_with fail
                  go_roundw
                  case rel => exact ⟨k + 1, by rw [show (k + 1) * S + 1 = a1 + S by have := HA1.out; rw [Nat.add_mul, Nat.one_mul]; omega]; go_num, by have := HA.out; have := HAA.out; rw [Nat.add_mul, Nat.one_mul]; omega, by rw [hput]; exact hH9.fo, hH9.k, hH9.bb⟩
                  case measure => simp [intOf]; omega
      · have hge : ¬ (((k * S + 1 : Nat) : Int) < (l.length : Int)) := by omega
        go_wp2_with fail
        go_ret
        refine ⟨u7, rfl, k, hown, fun k' hk' => ?_, ?_, hkw⟩
        · have : k' * S < k * S := by omega
          exact Nat.lt_of_mul_lt_mul_right this
        · have h1 : k * 1 ≤ k * S := Nat.mul_le_mul_left k (by omega)
          have h2 := HRow.out.2.2.1.S
          have h3 := HRow.out.2.2.1.M0
          have h4 := HODD.out
          simp only at h2 h3
          have h5 : 1 * n ≤ M * n := Nat.mul_le_mul_right n h3
          have h6 := Way.put_le ⟨W, S, M, n, more, od⟩ (by simp only; omega) (by simp only; rw [h4]; split <;> omega) (by simp only; omega) (by simp only; omega) l k
          omega
end Go.Proofs.YtdamippibpbjhaaGreatDoor
