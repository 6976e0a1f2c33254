import Derived.Test.YtamkglgiaiejkaaGreatDoorYx40
import Derived.Carry
/-! The laws' own small functions. -/
namespace Go.Proofs.YtamkglgiaiejkaaGreatDoor
open Go.RowKit

/-- Words that lie where a slice says. -/
def WordsV (w : World) (v : Value) (l : List Nat) : Prop := ∃ A c, v = .slice A l.length c ∧ (0 < l.length → ∃ g o, A = some ⟨g, o, none⟩ ∧ Row w .u64 g o (natsI l)) ∧ ∀ x ∈ l, x < 18446744073709551616
theorem WordsV.keep {w w' : World} {v : Value} {l : List Nat} (h : WordsV w v l) (hk : Keep (fun _ => False) w w') : WordsV w' v l := by
  obtain ⟨A, c, rfl, h1, h2⟩ := h
  refine ⟨A, c, rfl, fun h0 => ?_, h2⟩
  obtain ⟨g, o, rfl, hr⟩ := h1 h0
  exact ⟨g, o, rfl, hr.keep hk (fun h => h)⟩
theorem WordsV.two {w : World} {v : Value} {l : List Nat} (h : WordsV w v l) (h2 : l.length = 2) : Words2 w v (l.getD 0 0) (l.getD 1 0) ∧ l.getD 0 0 < 18446744073709551616 ∧ l.getD 1 0 < 18446744073709551616 := by
  match l, h2 with
  | [a, b], _ =>
    obtain ⟨A, c, rfl, h1, h3⟩ := h
    obtain ⟨g, o, rfl, hr⟩ := h1 (by simp)
    exact ⟨⟨g, o, c, rfl, hr 0 (by simp [natsI]), hr 1 (by simp [natsI])⟩, h3 a (by simp), h3 b (by simp)⟩
set_option maxRecDepth 100000 in
set_option maxHeartbeats 4000000 in
theorem wordsOf31 (w : World) : Calls Tryz.prog 31 #[.int .i64 128] w fun e w' => e = .returned (.tuple #[.int .i64 2, .bool true]) ∧ w' = w := by
  go_enter Tryz.func31, Tryz.ntmps31
  go_wp2_with fail
  go_ret2
  exact ⟨rfl, rfl⟩
set_option maxRecDepth 100000 in
set_option maxHeartbeats 4000000 in
theorem decimal17_not (v : Value) (l : List Nat) (w : World) (hv : WordsV w v l) (h2 : l.length ≠ 2) : Calls Tryz.prog 17 #[.int .i64 128, v] w fun e w' => ∃ b A n c, e = .returned (.tuple #[.agg #[.bool b, .slice A n c], .bool false]) ∧ Keep (fun _ => False) w w' := by
  obtain ⟨A, c, rfl, _, _⟩ := hv
  obtain ⟨n, hn⟩ : ∃ n, n = l.length := ⟨_, rfl⟩
  rw [← hn] at h2 ⊢
  have hne : ((n : Int) != 2) = true := by simp; omega
  clear hn
  go_enter Tryz.func17, Tryz.ntmps17
  go_wp2_with fail
  refine (wordsOf31 _).mono ?_
  rintro e w1 ⟨rfl, rfl⟩
  go_wp2_with fail
  go_quiet (fail)
  go_wp2_with fail
  have hb := blk_set (blk_set (blk_drewN (blk_new w (.cells #[.bool false, .slice none 0 0] 29)) nq) 0 (.bool false)) 1 (.slice none 0 0)
  have hc := blk_cell hb
  have hk : Keep (fun _ => False) w ((((w.alloc (.cells #[.bool false, .slice none 0 0] 29)).drewN nq).setCell ⟨w.heap.size, 0, none⟩ (.bool false)).setCell ⟨w.heap.size, 1, none⟩ (.slice none 0 0)) := ((((Keep.refl _ w).alloc _).drewN nq).setCell (p := ⟨w.heap.size, 0, none⟩) (.inr (Nat.le_refl _)) _).setCell (p := ⟨w.heap.size, 1, none⟩) (.inr (Nat.le_refl _)) _
  exact bodyPost_ret (v := .tuple #[.agg #[.bool false, .slice none 0 0], .bool false]) (by simp [results, Tryz.results17, go_sem, hc]) rfl ⟨_, _, _, _, rfl, hk⟩
theorem put18 (w : World) (r : Nat) (es : Array MapEntry) (clock : Nat) (k v : Int) (hb : w.heap[r]? = some (.map es clock)) (hn : Instr.findNow (.int .i64) (.int .i64 k) es.toList 0 = some none) :
    ∃ w', (Instr.mapUpdate 73 (.map (some r)) (.int .i64 k) (.int .i64 v)).run Tryz.prog w = .ok () w' ∧ w'.heap[r]? = some (.map (es.push { key := .int .i64 k, val := .int .i64 v, born := clock }) (clock + 1)) ∧ Keep (fun b => b = r) w w' := by
  have hm : Tryz.prog.underlying 73 = some (.map 3 3) := by kernel_rfl
  have hd : Tryz.prog.underlying 3 = some (.int .i64) := by kernel_rfl
  refine ⟨{ w with heap := w.heap.setIfInBounds r (.map (es.push { key := .int .i64 k, val := .int .i64 v, born := clock }) (clock + 1)) }, ?_, (MapKept.heap_set hb).1, ⟨rfl, rfl, rfl, by simp, fun j _ hj => (MapKept.heap_set hb).2 j hj⟩⟩
  simp [Instr.mapUpdate, run_underlying hm, MapKept.run_getObj_map hb, MapKept.run_checkKey hd (show MapKept.IsKey (.int .i64) (.int .i64 k) from rfl), MapKept.run_findKey hd hn, MapKept.run_setObj_map _ hb, Result.andThen]
theorem get18 (w : World) (r : Nat) (es : Array MapEntry) (clock : Nat) (k : Int) (i : Nat) (v : Value) (hb : w.heap[r]? = some (.map es clock)) (hn : Instr.findNow (.int .i64) (.int .i64 k) es.toList 0 = some (some (i, v))) :
    (Instr.lookup 73 (.map (some r)) (.int .i64 k) false).run Tryz.prog w = .ok v w := by
  have hm : Tryz.prog.underlying 73 = some (.map 3 3) := by kernel_rfl
  have hd : Tryz.prog.underlying 3 = some (.int .i64) := by kernel_rfl
  simp [Instr.lookup, run_underlying hm, MapKept.run_getObj_map hb, MapKept.run_checkKey hd (show MapKept.IsKey (.int .i64) (.int .i64 k) from rfl), MapKept.run_findKey hd hn, Result.andThen]
set_option maxRecDepth 100000 in
set_option maxHeartbeats 4000000 in
theorem precision18 (w : World) : Calls Tryz.prog 18 #[.int .i64 128] w fun e w' => e = .returned (.int .i64 38) ∧ Keep (fun _ => False) w w' := by
  have hmk := run_makeMap (P := Tryz.prog) 73 w
  have hb0 := blk_new w (.map #[] 0)
  have hk0 : Keep (fun _ => False) w (w.alloc (.map #[] 0)) := (Keep.refl _ w).alloc _
  obtain ⟨r, hr⟩ : ∃ r, r = w.heap.size := ⟨_, rfl⟩
  rw [← hr] at hmk hb0
  generalize w.alloc (.map #[] 0) = w0 at *
  obtain ⟨w1, h1, hb1, hk1⟩ := put18 w0 r #[] 0 32 9 hb0 rfl
  obtain ⟨w2, h2, hb2, hk2⟩ := put18 w1 r _ _ 64 18 hb1 rfl
  obtain ⟨w3, h3, hb3, hk3⟩ := put18 w2 r _ _ 128 38 hb2 rfl
  obtain ⟨w4, h4, hb4, hk4⟩ := put18 w3 r _ _ 256 76 hb3 rfl
  have h5 := get18 w4 r _ _ 128 2 (.int .i64 38) hb4 rfl
  have hkE := hk0.step (((hk1.trans hk2).trans hk3).trans hk4) (fun b hb => .inr (by have h' : b = r := hb; omega))
  have HK := Lib.hid hkE
  clear hkE hk0 hk1 hk2 hk3 hk4 hb0 hb1 hb2 hb3 hb4 hr
  go_enter Tryz.func18, Tryz.ntmps18
  go_wp2_with fail
  go_ret
  exact ⟨rfl, HK.out⟩
set_option maxRecDepth 100000 in
set_option maxHeartbeats 4000000 in
theorem decimal17 (v : Value) (lo hi : Nat) (w : World) (hv : Words2 w v lo hi) (hlo : lo < 18446744073709551616) (hhi : hi < 18446744073709551616) : Calls Tryz.prog 17 #[.int .i64 128, v] w fun e w' => ∃ r, e = .returned (.tuple #[r, .bool true]) ∧ WV w' r (toI lo hi) ∧ Keep (fun _ => False) w w' := by
  have hb0 := blk_new w (.cells #[.bool false, .slice none 0 0] 29)
  have hk0 : Keep (fun _ => False) w (w.alloc (.cells #[.bool false, .slice none 0 0] 29)) := (Keep.refl _ w).alloc _
  have HF := Lib.hid (fun n => fromWords32 v lo hi ((w.alloc (.cells #[.bool false, .slice none 0 0] 29)).drewN n) (hv.keep (hk0.drewN n)) hlo hhi)
  obtain ⟨g, o, c, rfl, _, _⟩ := hv
  obtain ⟨z, hz⟩ : ∃ z, z = toI lo hi := ⟨_, rfl⟩
  rw [← hz] at HF ⊢
  clear hz
  go_enter Tryz.func17, Tryz.ntmps17
  go_wp2_with fail
  refine (wordsOf31 _).mono ?_
  rintro e w1 ⟨rfl, rfl⟩
  go_wp2_with fail
  go_quiet (fail)
  go_wp2_with fail
  refine (HF.out _).mono ?_
  rintro e w1 ⟨v1, rfl, hv1, hk1⟩
  have hb1 := hk1.blk (blk_drewN hb0 nq) (fun h => h)
  have hka := (hk0.drewN nq).trans hk1
  obtain ⟨m1, rfl, hm1⟩ := hv1
  have hm1' := hm1
  obtain ⟨A1, c1, rfl, _, _⟩ := hm1'
  have hc1 := blk_cell hb1
  have hf1 := blk_frozen hb1
  obtain ⟨hl1, hl2, hl3⟩ := wide_laid hb1 hm1 (decide (z < 0))
  have hkE := hka.step hl2 (fun b hb => .inr (by have h' : b = w.heap.size := hb; omega))
  have HL := Lib.hid (And.intro hl1 hkE)
  clear hl1 hkE hka hk1 hm1 HF
  go_wp2_with fail
  exact bodyPost_ret (v := .tuple #[.agg #[.bool (decide (z < 0)), .slice A1 (digs z.natAbs).length c1], .bool true]) (by simp [results, Tryz.results17, go_sem, hl3]) rfl ⟨_, rfl, ⟨_, rfl, HL.out.1⟩, HL.out.2⟩
/-- Two words are the same as two others. -/
theorem Words2.at {w : World} {g o c lo hi k : Nat} (h : Words2 w (.slice (some ⟨g, o, none⟩) 2 c) lo hi) (hk : k < 2) : w.cell? ⟨g, o + k, none⟩ = some (.int .u64 ([lo, hi].getD k 0 : Nat)) := by
  obtain ⟨g', o', c', e, h1, h2⟩ := h
  cases e
  match k, hk with
  | 0, _ => exact h1
  | 1, _ => exact h2
set_option maxRecDepth 100000 in
set_option maxHeartbeats 4000000 in
theorem sameWords5 (u v : Value) (lo hi : Nat) (w : World) (hu : Words2 w u lo hi) (hv : Words2 w v lo hi) : Calls Tryz.prog 5 #[u, v] w fun e w' => e = .returned (.bool true) ∧ Keep (fun _ => False) w w' := by
  have HU := Lib.hid (And.intro hu hv)
  obtain ⟨g, o, c, rfl, _, _⟩ := hu
  obtain ⟨g', o', c', rfl, _, _⟩ := hv
  go_enter Tryz.func5, Tryz.ntmps5
  go_wp2_with fail
  go_loopw [13] (fun i wr => ∃ k : Nat, k ≤ 2 ∧ i = .int .i64 k ∧ Keep (fun _ => False) w wr) (fun i _ => 2 - (intOf i).toNat)
  case atStart => exact ⟨0, by omega, rfl, Keep.refl _ _⟩
  case round =>
    obtain ⟨k, hk2, rfl, hkr⟩ := hrel
    by_cases hend : k < 2
    · have hc1 := (HU.out.1.keep hkr).at hend
      have hc2 := (HU.out.2.keep hkr).at hend
      generalize [lo, hi].getD k 0 = x at *
      have hkk : (k : Int) < 2 := by omega
      have hk0 : (0 : Int) ≤ (k : Int) := by omega
      go_wp2_with fail
      go_quiet (fail)
      go_wp2_with fail
      go_roundw
      case rel => exact ⟨k + 1, by omega, by go_num, hkr.drewN _⟩
      case measure => simp [intOf]; omega
    · obtain rfl : k = 2 := by omega
      go_wp2_with fail
      go_ret
      exact ⟨rfl, hkr⟩
set_option maxRecDepth 100000 in
set_option maxHeartbeats 4000000 in
theorem wrapped21 (v : Value) (x : Int) (w : World) (hv : WV w v x) (hx : -170141183460469231731687303715884105728 ≤ x ∧ x < 170141183460469231731687303715884105728) : Calls Tryz.prog 21 #[.int .i64 128, v] w fun e w' => ∃ r, e = .returned (.tuple #[r, .bool true]) ∧ Words2 w' r (x % 18446744073709551616).toNat (x / 18446744073709551616 % 18446744073709551616).toNat ∧ Keep (fun _ => False) w w' := by
  have hv0 := hv
  obtain ⟨m, rfl, hm⟩ := hv
  obtain ⟨A, c, rfl, _, _⟩ := hm
  have hb0 := blk_new w (.cells #[.bool (decide (x < 0)), .slice A (digs x.natAbs).length c] 29)
  have hk0 : Keep (fun _ => False) w (w.alloc (.cells #[.bool (decide (x < 0)), .slice A (digs x.natAbs).length c] 29)) := (Keep.refl _ w).alloc _
  have HT := Lib.hid (toWords35 _ x _ (hv0.keep hk0 (fun _ _ h => h)) hx)
  have hc0 := blk_cell hb0
  have HK := Lib.hid hk0
  clear hv0 hx hk0
  generalize decide (x < 0) = b at *
  generalize (digs x.natAbs).length = n at *
  go_enter Tryz.func21, Tryz.ntmps21
  go_wp2_with fail
  refine (wordsOf31 _).mono ?_
  rintro e w1 ⟨rfl, rfl⟩
  go_wp2_with fail
  refine HT.out.mono ?_
  rintro e w1 ⟨r, rfl, hr, hk1⟩
  go_wp2_with fail
  go_ret2
  exact ⟨r, rfl, hr, HK.out.trans hk1⟩
set_option maxRecDepth 100000 in
set_option maxHeartbeats 4000000 in
theorem roundsTo9_refused (v : Value) (x p : Int) (got : Value) (w : World) (hv : WV w v x) (hx : -170141183460469231731687303715884105728 ≤ x ∧ x < 170141183460469231731687303715884105728) (hp : p < declen x.natAbs) : Calls Tryz.prog 9 #[.int .i64 128, v, .int .i64 p, got, .bool false] w fun e w' => e = .returned (.bool true) ∧ Keep (fun _ => False) w w' := by
  have hx9 : (digs x.natAbs).length ≤ 4 := digs_length_le (by omega)
  have hv0 := hv
  obtain ⟨m, rfl, hm⟩ := hv
  obtain ⟨A, c, rfl, _, _⟩ := hm
  have hb0 := blk_new w (.cells #[.bool (decide (x < 0)), .slice A (digs x.natAbs).length c] 29)
  have hk0 : Keep (fun _ => False) w (w.alloc (.cells #[.bool (decide (x < 0)), .slice A (digs x.natAbs).length c] 29)) := (Keep.refl _ w).alloc _
  have hv1 := hv0.keep hk0 (fun _ _ h => h)
  have HW := Lib.hid (wrapped21 _ x _ hv1 hx)
  have HD := Lib.hid (fun w' hk => digits8 _ x w' (hv1.keep hk (fun _ _ h => h)) (by omega))
  have hc0 := blk_cell hb0
  have HK := Lib.hid hk0
  clear hv0 hx hk0 hv1
  obtain ⟨dl, hdl⟩ : ∃ d, d = declen x.natAbs := ⟨_, rfl⟩
  rw [← hdl] at hp HD
  clear hdl
  generalize decide (x < 0) = b at *
  generalize (digs x.natAbs).length = n at *
  go_enter Tryz.func9, Tryz.ntmps9
  go_wp2_with fail
  generalize w.alloc (.cells #[.bool b, .slice A n c] 29) = w0 at *
  refine HW.out.mono ?_
  rintro e w1 ⟨r, rfl, hr, hk1⟩
  have hc1 := blk_cell (hk1.blk hb0 (fun h => h))
  have HD := Lib.hid (HD.out w1 hk1)
  go_wp2_with fail
  refine HD.out.mono ?_
  rintro e w2 ⟨rfl, hk2⟩
  go_wp2_with fail
  go_ret
  exact ⟨rfl, (HK.out.trans hk1).trans hk2⟩
set_option maxRecDepth 100000 in
set_option maxHeartbeats 4000000 in
theorem roundsTo9_done (v : Value) (x p : Int) (got : Value) (w : World) (hv : WV w v x) (hx : -170141183460469231731687303715884105728 ≤ x ∧ x < 170141183460469231731687303715884105728) (hp : ¬ p < declen x.natAbs) (hg : Words2 w got (x % 18446744073709551616).toNat (x / 18446744073709551616 % 18446744073709551616).toNat) : Calls Tryz.prog 9 #[.int .i64 128, v, .int .i64 p, got, .bool true] w fun e w' => e = .returned (.bool true) ∧ Keep (fun _ => False) w w' := by
  have hx9 : (digs x.natAbs).length ≤ 4 := digs_length_le (by omega)
  have hv0 := hv
  obtain ⟨m, rfl, hm⟩ := hv
  obtain ⟨A, c, rfl, _, _⟩ := hm
  have hb0 := blk_new w (.cells #[.bool (decide (x < 0)), .slice A (digs x.natAbs).length c] 29)
  have hk0 : Keep (fun _ => False) w (w.alloc (.cells #[.bool (decide (x < 0)), .slice A (digs x.natAbs).length c] 29)) := (Keep.refl _ w).alloc _
  have hv1 := hv0.keep hk0 (fun _ _ h => h)
  have HW := Lib.hid (wrapped21 _ x _ hv1 hx)
  have HD := Lib.hid (fun w' hk => digits8 _ x w' (hv1.keep hk (fun _ _ h => h)) (by omega))
  have hc0 := blk_cell hb0
  have hg0 := hg
  obtain ⟨gg, go, gc, rfl, _, _⟩ := hg
  have HK := Lib.hid (And.intro hk0 (hg0.keep hk0))
  clear hv0 hx hk0 hv1 hg0
  obtain ⟨dl, hdl⟩ : ∃ d, d = declen x.natAbs := ⟨_, rfl⟩
  rw [← hdl] at hp HD
  clear hdl
  generalize (x % 18446744073709551616).toNat = lo at *
  generalize (x / 18446744073709551616 % 18446744073709551616).toNat = hi at *
  generalize decide (x < 0) = b at *
  generalize (digs x.natAbs).length = n at *
  go_enter Tryz.func9, Tryz.ntmps9
  go_wp2_with fail
  generalize w.alloc (.cells #[.bool b, .slice A n c] 29) = w0 at *
  refine HW.out.mono ?_
  rintro e w1 ⟨r, rfl, hr, hk1⟩
  have hc1 := blk_cell (hk1.blk hb0 (fun h => h))
  have HD := Lib.hid (HD.out w1 hk1)
  have HS := Lib.hid (fun w' hk => sameWords5 (.slice (some ⟨gg, go, none⟩) 2 gc) r lo hi w' ((HK.out.2.keep hk1).keep hk) (hr.keep hk))
  obtain ⟨rg, ro, rc, rfl, _, _⟩ := hr
  go_wp2_with fail
  refine HD.out.mono ?_
  rintro e w2 ⟨rfl, hk2⟩
  have HS := Lib.hid (HS.out w2 hk2)
  go_wp2_with fail
  refine HS.out.mono ?_
  rintro e w3 ⟨rfl, hk3⟩
  go_wp2_with fail
  go_ret
  exact ⟨rfl, ((HK.out.1.trans hk1).trans hk2).trans hk3⟩
end Go.Proofs.YtamkglgiaiejkaaGreatDoor
