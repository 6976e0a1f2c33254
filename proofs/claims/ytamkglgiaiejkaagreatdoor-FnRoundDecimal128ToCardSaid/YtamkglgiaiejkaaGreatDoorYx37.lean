import Derived.Test.YtamkglgiaiejkaaGreatDoorYx36
import Derived.Laws.BytesArg
/-! How many decimal digits a whole number has. -/
namespace Go.Proofs.YtamkglgiaiejkaaGreatDoor
open Go.RowKit

theorem conv_one (w : World) (v : Int) : (convert 76 9 (.slice (some ⟨w.heap.size, 0, none⟩) 1 1)).run Tryz.prog (w.alloc (.cells #[.int .u8 v] 5)) = .ok (.string (strOfNums [v])) (w.alloc (.cells #[.int .u8 v] 5)) :=
  run_convert_bytes_arg (w.alloc (.cells #[.int .u8 v] 5)) 76 5 (by kernel_rfl) (by kernel_rfl) w.heap.size 0 1 1 [v] rfl (fun i hi => by
    rw [blk_cell (blk_new w _)]
    match i, hi with
    | 0, _ => rfl) 9 (by kernel_rfl)
theorem one_size (v : Int) : (strOfNums [v]).size = 1 := rfl
theorem declen_digs' {n e : Nat} (he : 1 ≤ e) (h : (digs n).length ≤ e) : declen n ≤ 10 * e := by
  refine (declen_lt (by omega)).2 ?_
  have h1 := val_lt (digs_digs n)
  rw [val_digs] at h1
  have h2 : 4294967296 ^ (digs n).length ≤ 4294967296 ^ e := Nat.pow_le_pow_right (by decide) h
  have h3 : (4294967296 : Nat) ^ e ≤ (10 ^ 10) ^ e := Nat.pow_le_pow_left (by decide) e
  rw [← Nat.pow_mul] at h3
  exact Nat.lt_of_lt_of_le h1 (Nat.le_trans h2 h3)
theorem declen_digs {n : Nat} (h : (digs n).length ≤ 1000) : declen n ≤ 10000 := declen_digs' (by decide) h
def textLen (v : Value) : Nat := match v with | .string s => s.size | _ => 0
set_option maxRecDepth 100000 in
set_option maxHeartbeats 4000000 in
theorem wideText19 (v : Value) (n : Nat) (w : World) (hv : WV w v (n : Int)) (h9 : (digs n).length ≤ 1000) : Calls Tryz.prog 19 #[v] w fun e w' => ∃ s : ByteArray, e = .returned (.string s) ∧ s.size = declen n ∧ Keep (fun _ => False) w w' := by
  obtain ⟨m, rfl, hm⟩ := hv
  have hm' := hm
  rw [Int.natAbs_natCast] at hm hm'
  obtain ⟨A, c, rfl, _, _⟩ := hm'
  rw [show decide ((n : Int) < 0) = false by simp]
  have hb0 := blk_new w (.cells #[.bool false, .slice A (digs n).length c] 29)
  have hk0 : Keep (fun _ => False) w (w.alloc (.cells #[.bool false, .slice A (digs n).length c] 29)) := (Keep.refl _ w).alloc _
  have hm0 := hm.keep hk0 (fun _ _ h => h)
  have HS := Lib.hid (sign7 (.agg #[.bool false, .slice A (digs n).length c]) (n : Int) (w.alloc (.cells #[.bool false, .slice A (digs n).length c] 29)) ⟨_, by rw [show decide ((n : Int) < 0) = false by simp], by rw [Int.natAbs_natCast]; exact hm0⟩)
  rw [if_neg (by omega)] at HS
  by_cases h0 : n = 0
  · rw [if_pos (by omega)] at HS
    have hd : declen n = 1 := declen_small (by omega)
    generalize (digs n).length = ln at *
    clear hm hm0
    go_enter Tryz.func19, Tryz.ntmps19
    go_wp2_with fail
    refine HS.out.mono ?_
    rintro e w1 ⟨rfl, hk1⟩
    go_wp2_with fail
    go_ret
    exact ⟨_, rfl, hd.symm, hk0.trans hk1⟩
  · rw [if_neg (by omega)] at HS
    have HA := Lib.hid (And.intro hm0 hk0)
    have HN := Lib.hid h9
    generalize (digs n).length = ln at hm HS hb0 hk0 hm0 HA ⊢
    clear hm hm0 hk0 h9
    go_enter Tryz.func19, Tryz.ntmps19
    go_wp2_with fail
    generalize w.alloc (.cells #[.bool false, .slice A ln c] 29) = w0 at *
    refine HS.out.mono ?_
    rintro e w1 ⟨rfl, hk1⟩
    have hb1 := hk1.blk hb0 (fun h => h)
    have hc1 := blk_cell hb1
    go_wp2_with fail
    go_loopw [3, 4] (fun out l wr => ∃ (k : Nat) (s : ByteArray), out = .string s ∧ MagV wr l (digs k) ∧ k ≤ n ∧ ((k = 0 ∧ s.size = declen n) ∨ (0 < k ∧ s.size + declen k = declen n)) ∧ Keep (fun _ => False) w1 wr) (fun out _ _ => declen n - textLen out)
    case atStart => exact ⟨n, _, rfl, HA.out.1.keep hk1 (fun _ _ h => h), Nat.le_refl _, .inr ⟨by omega, Nat.zero_add _⟩, Keep.refl _ _⟩
    case round =>
      obtain ⟨k, s, rfl, hmk, hkn, hks, hkr⟩ := hrel
      have hmk' := hmk
      obtain ⟨B, cb, rfl, _, _⟩ := hmk'
      have hbr := hkr.blk hb1 (fun h => h)
      have hcr := blk_cell hbr
      by_cases hk0 : k = 0
      · have hs : s.size = declen n := by omega
        have hz : (digs k).length = 0 := by rw [hk0, digs_zero]; rfl
        rw [hz]
        clear hmk hz
        go_wp2_with fail
        go_ret
        exact ⟨_, rfl, hs, (HA.out.2.trans hk1).trans hkr⟩
      · have hz : (0 : Int) < ((digs k).length : Nat) := by
          rcases Nat.eq_zero_or_pos (digs k).length with e | e
          · have := digs_nil.1 (List.eq_nil_of_length_eq_zero e); omega
          · omega
        have hk9 : (digs k).length ≤ 1000 := Nat.le_trans (digs_length_mono hkn) HN.out
        have hko : Keep (fun _ => False) wr (wr.alloc (.cells #[.int .u32 10] 65)) := (Keep.refl _ wr).alloc _
        have hmo : MagV (wr.alloc (.cells #[.int .u32 10] 65)) (.slice (some ⟨wr.heap.size, 0, none⟩) (digs 10).length 1) (digs 10) := by
          rw [show digs 10 = [10] by rw [digs_pos (by decide), show (10 : Nat) / 4294967296 = 0 by decide, digs_zero]]
          exact ⟨_, 1, rfl, Nat.le_refl _, fun _ => ⟨wr.heap.size, 0, rfl, fun j hj => by
            rw [blk_cell (blk_new wr _)]
            match j, hj with
            | 0, _ => rfl⟩⟩
        have h10 : (digs 10).length = 1 := by rw [digs_pos (by decide), show (10 : Nat) / 4294967296 = 0 by decide, digs_zero]; rfl
        have HD := Lib.hid (magDiv33 _ _ k 10 (wr.alloc (.cells #[.int .u32 10] 65)) (hmk.keep hko (fun _ _ h => h)) hmo (by decide) hk9 (by rw [h10]; decide))
        rw [h10] at HD
        have HK := Lib.hid (And.intro hko (And.intro hks (show 0 < k by omega)))
        clear hmo h10 hko hks hmk
        go_wp2_with fail
        refine HD.out.mono ?_
        rintro e w2 ⟨xq, xr, rfl, hmq, hmr, hk2⟩
        have hmq' := hmq
        have hmr' := hmr
        obtain ⟨Q, cq, rfl, _, _⟩ := hmq'
        obtain ⟨R, cr, rfl, _, _⟩ := hmr'
        have hkx := HK.out.1.trans hk2
        have hsn : s.size < declen n ∧ declen n ≤ 10000 := by
          have := declen_pos k
          have := declen_digs HN.out
          have := HK.out.2.1
          omega
        have hnext : (k / 10 = 0 ∧ 1 + s.size = declen n) ∨ (0 < k / 10 ∧ 1 + s.size + declen (k / 10) = declen n) := by
          have := HK.out.2.1
          by_cases h10 : k < 10
          · have := declen_small h10
            left; omega
          · have := declen_big h10
            right; omega
        obtain ⟨d, hd⟩ : ∃ d, d = k % 10 := ⟨_, rfl⟩
        have hd9 : d < 10 := by omega
        have hdd : digs d = if d = 0 then [] else [d] := by
          by_cases h : d = 0
          · rw [h, digs_zero]; rfl
          · rw [if_neg h, digs_pos (by omega), show d / 4294967296 = 0 by omega, digs_zero, show d % 4294967296 = d by omega]
        rw [← hd] at hmr ⊢
        have HQ := Lib.hid (And.intro hmq (And.intro hkx hd))
        clear HD hk2 hmq hd
        by_cases hd0 : d = 0
        · have hl0 : (digs d).length = 0 := by rw [hd0, digs_zero]; rfl
          rw [hl0]
          clear hdd hmr hl0 hd0 hd9
          have hcv := conv_one w2 48
          have hlim : ¬ (9223372036854775807 < (strOfNums [48]).size + s.size) := by rw [one_size]; omega
          go_wp2_with fail
          go_roundw
          case rel => exact ⟨k / 10, _, rfl, HQ.out.1.keep ((Keep.refl (fun _ => False) w2).alloc _) (fun _ _ h => h), by omega, by rw [ByteArray.size_append, one_size]; exact hnext, (hkr.trans HQ.out.2.1).alloc _⟩
          case measure => simp only [textLen, ByteArray.size_append, one_size]; omega
        · rw [if_neg hd0] at hdd
          have hl0 : (digs d).length = 1 := by rw [hdd]; rfl
          obtain ⟨g, o, rfl, hcell⟩ := hmr.cell 0 (by rw [hl0]; decide)
          rw [hdd] at hcell
          have hcell : w2.cell? ⟨g, o, none⟩ = some (.int .u32 d) := hcell
          rw [hl0]
          clear hdd hmr hl0
          have hcv := conv_one w2 (48 + (d : Int))
          have hlim : ¬ (9223372036854775807 < (strOfNums [48 + (d : Int)]).size + s.size) := by rw [one_size]; omega
          go_wp2_with fail
          go_roundw
          case rel => exact ⟨k / 10, _, rfl, HQ.out.1.keep ((Keep.refl (fun _ => False) w2).alloc _) (fun _ _ h => h), by omega, by rw [ByteArray.size_append, one_size]; exact hnext, (hkr.trans HQ.out.2.1).alloc _⟩
          case measure => simp only [textLen, ByteArray.size_append, one_size]; omega
set_option maxRecDepth 100000 in
set_option maxHeartbeats 4000000 in
theorem digits8 (v : Value) (x : Int) (w : World) (hv : WV w v x) (h9 : (digs x.natAbs).length ≤ 1000) : Calls Tryz.prog 8 #[v] w fun e w' => e = .returned (.int .i64 (declen x.natAbs)) ∧ Keep (fun _ => False) w w' := by
  obtain ⟨m, rfl, hm⟩ := hv
  have hm' := hm
  obtain ⟨A, c, rfl, _, _⟩ := hm'
  have hb0 := blk_new w (.cells #[.bool (decide (x < 0)), .slice A (digs x.natAbs).length c] 29)
  have hk0 : Keep (fun _ => False) w (w.alloc (.cells #[.bool (decide (x < 0)), .slice A (digs x.natAbs).length c] 29)) := (Keep.refl _ w).alloc _
  have HW := wide20 false _ _ _ (hm.keep hk0 (fun _ _ h => h)) (digs_digs _) (by omega)
  rw [val_digs] at HW
  have HW := Lib.hid HW
  generalize decide (x < 0) = b at *
  generalize (digs x.natAbs).length = ln at hm hb0 hk0 HW ⊢
  clear hm
  go_enter Tryz.func8, Tryz.ntmps8
  go_wp2_with fail
  refine HW.out.mono ?_
  rintro e w1 ⟨v1, rfl, hv1, hk1⟩
  have hv1 : WV w1 v1 (x.natAbs : Int) := hv1
  have HT := Lib.hid (wideText19 v1 x.natAbs w1 hv1 h9)
  obtain ⟨m1, rfl, hm1⟩ := hv1
  obtain ⟨A1, c1, rfl, _, _⟩ := hm1
  clear HW
  generalize hq : decide ((x.natAbs : Int) < 0) = b1 at *
  generalize hq2 : (digs (x.natAbs : Int).natAbs).length = n1 at *
  clear hq hq2
  go_wp2_with fail
  refine HT.out.mono ?_
  rintro e w2 ⟨s, rfl, hs, hk2⟩
  go_wp2_with fail
  go_ret
  exact ⟨rfl, (hk0.trans hk1).trans hk2⟩
end Go.Proofs.YtamkglgiaiejkaaGreatDoor
