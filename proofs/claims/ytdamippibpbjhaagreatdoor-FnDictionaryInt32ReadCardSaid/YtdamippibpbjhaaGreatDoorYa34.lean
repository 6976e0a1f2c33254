import Derived.Test.YtdamippibpbjhaaGreatDoorYa33
import Derived.Lib.AppendStr
/-! Values as they are written plainly. -/
namespace Go.Proofs.YtdamippibpbjhaaGreatDoor
open Go.RowKit

theorem numB4 (v : Nat) (hv : v ≤ 200) : numB 4 v = [(v : Int), (v : Int) / 256, (v : Int) / 65536, (v : Int) / 16777216] := by
  simp only [numB, List.cons.injEq, and_true]
  omega
set_option maxRecDepth 100000 in
set_option maxHeartbeats 4000000 in
theorem oneFits_int (v : SVal) (hn : v.null = false) (w : World) : Calls Tryz.prog 53 #[.agg #[.int .i64 2, .int .i64 32, .bool true, .int .i64 0, .int .i64 0, .int .i64 0, .string ⟨#[]⟩, .bool false, .slice none 0 0, .slice none 0 0], v.agg] w fun e w' => Fit v.IntOk e ∧ Keep (fun _ => False) w w' := by
  obtain ⟨null, num, text, ka, kn, kc⟩ := v
  simp only at hn
  subst hn
  unfold SVal.agg
  simp only
  have hk : Keep (fun _ => False) w ((w.alloc (.cells #[.int .i64 2, .int .i64 32, .bool true, .int .i64 0, .int .i64 0, .int .i64 0, .string ⟨#[]⟩, .bool false, .slice none 0 0, .slice none 0 0] 44)).alloc (.cells #[.bool false, .int .u64 num, .string text, .slice ka kn kc] 47)) := ((Keep.refl _ w).alloc _).alloc _
  have hb1 := blk_alloc (blk_new w (.cells #[.int .i64 2, .int .i64 32, .bool true, .int .i64 0, .int .i64 0, .int .i64 0, .string ⟨#[]⟩, .bool false, .slice none 0 0, .slice none 0 0] 44)) (.cells #[.bool false, .int .u64 num, .string text, .slice ka kn kc] 47)
  have hb2 : ((w.alloc (.cells #[.int .i64 2, .int .i64 32, .bool true, .int .i64 0, .int .i64 0, .int .i64 0, .string ⟨#[]⟩, .bool false, .slice none 0 0, .slice none 0 0] 44)).alloc (.cells #[.bool false, .int .u64 num, .string text, .slice ka kn kc] 47)).heap[w.heap.size + 1]? = some (.cells #[.bool false, .int .u64 num, .string text, .slice ka kn kc] 47 (0, 0)) := by have := blk_new (w.alloc (.cells #[.int .i64 2, .int .i64 32, .bool true, .int .i64 0, .int .i64 0, .int .i64 0, .string ⟨#[]⟩, .bool false, .slice none 0 0, .slice none 0 0] 44)) (.cells #[.bool false, .int .u64 num, .string text, .slice ka kn kc] 47); simpa using this
  have HB := Lib.hid (fun w => oneBits_int w)
  go_enter Tryz.func53, Tryz.ntmps53
  by_cases h0 : (0 : Int) < (kn : Int)
  · go_wp2_with fail
    go_ret
    exact ⟨⟨_, rfl, fun h => by cases h⟩, hk⟩
  obtain rfl : kn = 0 := by omega
  go_wp2_with fail
  generalize ((w.alloc (.cells #[.int .i64 2, .int .i64 32, .bool true, .int .i64 0, .int .i64 0, .int .i64 0, .string ⟨#[]⟩, .bool false, .slice none 0 0, .slice none 0 0] 44)).alloc (.cells #[.bool false, .int .u64 num, .string text, .slice ka 0 kc] 47)) = w0 at *
  refine (HB.out _).mono ?_
  rintro e w1 ⟨rfl, hk1⟩
  have hk01 := hk.trans hk1
  have hb2 := hk1.blk hb2 (fun h => h)
  have hc2 := blk_cell hb2
  by_cases hte : text.toList.isEmpty = true
  · have ht : text = ⟨#[]⟩ := of_decide_eq_true ((decide_eq_emptyBytes text).trans hte)
    subst ht
    go_wp2_with fail
    go_quiet (fail)
    go_wp2_with fail
    go_ret
    refine ⟨⟨_, rfl, fun h => ⟨rfl, rfl, ?_, rfl⟩⟩, hk01.drewN nq⟩
    have h := eq_of_beq h
    show num = IntKind.u64.wrap (IntKind.i32.wrap num)
    rw [IntKind.wrap_u64, IntKind.wrap_i32]
    unfold wrap64 at h
    simp only [IntKind.wrap_u64] at h
    omega
  · have ht' : (!text.toList.isEmpty) = true := by simpa using hte
    go_wp2_with fail
    go_ret
    exact ⟨⟨false, rfl, fun h => by cases h⟩, hk01⟩
set_option maxRecDepth 100000 in
set_option maxHeartbeats 4000000 in
theorem plainBytes_bin (v : SVal) (hv : v.TextOk) (w : World) : Calls Tryz.prog 50 #[.agg #[.int .i64 4, .int .i64 0, .bool false, .int .i64 0, .int .i64 0, .int .i64 0, .string ⟨#[]⟩, .bool false, .slice none 0 0, .slice none 0 0], v.agg] w fun e w' => ∃ x, e = .returned x ∧ OB w' w.heap.size x (textB v.text.data.toList) ∧ Keep (fun _ => False) w w' := by
  obtain ⟨null, num, text, ka, kn, kc⟩ := v
  obtain ⟨h1, h2, h3, h4⟩ := hv
  simp only at h1 h2 h3 h4
  subst h1 h2 h3
  unfold SVal.agg
  simp only
  have hk : Keep (fun _ => False) w ((w.alloc (.cells #[.int .i64 4, .int .i64 0, .bool false, .int .i64 0, .int .i64 0, .int .i64 0, .string ⟨#[]⟩, .bool false, .slice none 0 0, .slice none 0 0] 44)).alloc (.cells #[.bool false, .int .u64 0, .string text, .slice ka 0 kc] 47)) := ((Keep.refl _ w).alloc _).alloc _
  have hb1 := blk_alloc (blk_new w (.cells #[.int .i64 4, .int .i64 0, .bool false, .int .i64 0, .int .i64 0, .int .i64 0, .string ⟨#[]⟩, .bool false, .slice none 0 0, .slice none 0 0] 44)) (.cells #[.bool false, .int .u64 0, .string text, .slice ka 0 kc] 47)
  have hb2 : ((w.alloc (.cells #[.int .i64 4, .int .i64 0, .bool false, .int .i64 0, .int .i64 0, .int .i64 0, .string ⟨#[]⟩, .bool false, .slice none 0 0, .slice none 0 0] 44)).alloc (.cells #[.bool false, .int .u64 0, .string text, .slice ka 0 kc] 47)).heap[w.heap.size + 1]? = some (.cells #[.bool false, .int .u64 0, .string text, .slice ka 0 kc] 47 (0, 0)) := by have := blk_new (w.alloc (.cells #[.int .i64 4, .int .i64 0, .bool false, .int .i64 0, .int .i64 0, .int .i64 0, .string ⟨#[]⟩, .bool false, .slice none 0 0, .slice none 0 0] 44)) (.cells #[.bool false, .int .u64 0, .string text, .slice ka 0 kc] 47); simpa using this
  have HB := Lib.hid (fun w => oneBits_bin w)
  have HL := Lib.hid (fun w => oneLength_bin w)
  go_enter Tryz.func50, Tryz.ntmps50
  go_wp2_with fail
  generalize ((w.alloc (.cells #[.int .i64 4, .int .i64 0, .bool false, .int .i64 0, .int .i64 0, .int .i64 0, .string ⟨#[]⟩, .bool false, .slice none 0 0, .slice none 0 0] 44)).alloc (.cells #[.bool false, .int .u64 0, .string text, .slice ka 0 kc] 47)) = w0 at *
  refine (HB.out _).mono ?_
  rintro e w1 ⟨rfl, hk1⟩
  have hk01 := hk.trans hk1
  have hb1 := hk1.blk hb1 (fun h => h)
  have hb2 := hk1.blk hb2 (fun h => h)
  have hc1 := blk_cell hb1
  have hc2 := blk_cell hb2
  go_wp2_with fail
  refine (HL.out _).mono ?_
  rintro e w2 ⟨rfl, hk2⟩
  have hk02 := hk01.trans hk2
  have hb2 := hk2.blk hb2 (fun h => h)
  have hc2 := blk_cell hb2
  have hc3 := fun o => blk_cell (blk_alloc hb2 o)
  clear hc1
  have h256 := Lib.hid (numB4 text.size h4)
  obtain ⟨i5, hi5, hi5z⟩ := Option.map_eq_some_iff.1 info5
  simp only [Prod.mk.injEq] at hi5z
  obtain ⟨hz1, hz2, hz3⟩ := hi5z
  have hkA : Keep (fun _ => False) w (w2.alloc (.cells #[.int .u8 text.size, .int .u8 (text.size / 256), .int .u8 (text.size / 65536), .int .u8 (text.size / 16777216)] 5)) := hk02.alloc _
  have hown : (w2.alloc (.cells #[.int .u8 text.size, .int .u8 (text.size / 256), .int .u8 (text.size / 65536), .int .u8 (text.size / 16777216)] 5)).ownsRow w.heap.size 5 1 (.slice (some ⟨w2.heap.size, 0, none⟩) 4 4) 4 (nums .u8 (numB 4 text.size)) :=
    ⟨by simp [numB_length], .inr ⟨w2.heap.size, 4, _, rfl, hk02.size, blk_new w2 _, Nat.le_refl _, by simp only [maxLen]; omega, rfl, by rw [h256.out]; rfl⟩⟩
  have hs1 := hkA.size
  go_wp2_with (first | (at_builtin; refine Lib.wpList_append_own_string _ rfl _ _ 31 9 rfl w.heap.size 5 i5 (by kernel_rfl) (by kernel_rfl) hi5 hz1 hz2 hz3 _ 4 (nums .u8 (numB 4 text.size)) rfl hown text rfl (by simp only [maxLen]; omega) (by omega) hs1 ?_))
  intro v' w3 hown3 hgrow _
  go_wp2_with fail
  go_ret
  refine ⟨v', rfl, ?_, hkA.step (grown_keep hgrow) (fun b hb => .inr ?_)⟩
  · unfold OB
    rw [textB_length, show (text.data.toList).length = text.size from rfl]
    have e : nums .u8 (textB text.data.toList) = nums .u8 (numB 4 text.size) ++ Lib.strCells text := by
      simp only [textB, nums, byteL, Lib.strCells, List.map_append, List.map_map]
      rfl
    rw [e]
    exact hown3
  · cases hb
    exact hk02.size
end Go.Proofs.YtdamippibpbjhaaGreatDoor

/-! Values as they are written plainly: numbers of 32 bits; lists. -/
namespace Go.Proofs.YtdamippibpbjhaaGreatDoor
open Go.RowKit

/-- The bytes of a number of 32 bits. -/
def intB (n : Int) : List Int := numB 4 (n % 4294967296).toNat
theorem intB_length (n : Int) : (intB n).length = 4 := numB_length _ _
theorem intB_get (n : Int) (k : Nat) (hk : k < 4) : (intB n).getD k 0 = n / 2 ^ (8 * k) % 256 := by
  unfold intB
  rw [numB_getD 4 _ _ hk]
  obtain rfl | rfl | rfl | rfl : k = 0 ∨ k = 1 ∨ k = 2 ∨ k = 3 := by omega
  all_goals (simp only [Nat.mul_zero, Nat.mul_one, Nat.reduceMul]; omega)
theorem intB_take (n : Int) (k : Nat) (hk : k < 4) : (intB n).take (k + 1) = (intB n).take k ++ [n / 2 ^ (8 * k) % 256] := by
  rw [List.take_succ_eq_append_getElem (by rw [intB_length]; exact hk), ← intB_get n k hk, List.getD_eq_getElem?_getD, List.getElem?_eq_getElem (by rw [intB_length]; exact hk)]
  rfl
set_option maxRecDepth 100000 in
set_option maxHeartbeats 4000000 in
theorem plainBytes_int (v : SVal) (hv : v.IntOk) (w : World) : Calls Tryz.prog 50 #[.agg #[.int .i64 2, .int .i64 32, .bool true, .int .i64 0, .int .i64 0, .int .i64 0, .string ⟨#[]⟩, .bool false, .slice none 0 0, .slice none 0 0], v.agg] w fun e w' => ∃ x, e = .returned x ∧ OB w' w.heap.size x (intB v.num) ∧ Keep (fun _ => False) w w' := by
  obtain ⟨null, num, text, ka, kn, kc⟩ := v
  obtain ⟨h1, h2, h3, h4⟩ := hv
  simp only at h1 h2 h3 h4
  subst h1 h2 h4
  unfold SVal.agg
  simp only
  have hk : Keep (fun _ => False) w ((w.alloc (.cells #[.int .i64 2, .int .i64 32, .bool true, .int .i64 0, .int .i64 0, .int .i64 0, .string ⟨#[]⟩, .bool false, .slice none 0 0, .slice none 0 0] 44)).alloc (.cells #[.bool false, .int .u64 num, .string ⟨#[]⟩, .slice ka 0 kc] 47)) := ((Keep.refl _ w).alloc _).alloc _
  have hb1 := blk_alloc (blk_new w (.cells #[.int .i64 2, .int .i64 32, .bool true, .int .i64 0, .int .i64 0, .int .i64 0, .string ⟨#[]⟩, .bool false, .slice none 0 0, .slice none 0 0] 44)) (.cells #[.bool false, .int .u64 num, .string ⟨#[]⟩, .slice ka 0 kc] 47)
  have hb2 : ((w.alloc (.cells #[.int .i64 2, .int .i64 32, .bool true, .int .i64 0, .int .i64 0, .int .i64 0, .string ⟨#[]⟩, .bool false, .slice none 0 0, .slice none 0 0] 44)).alloc (.cells #[.bool false, .int .u64 num, .string ⟨#[]⟩, .slice ka 0 kc] 47)).heap[w.heap.size + 1]? = some (.cells #[.bool false, .int .u64 num, .string ⟨#[]⟩, .slice ka 0 kc] 47 (0, 0)) := by have := blk_new (w.alloc (.cells #[.int .i64 2, .int .i64 32, .bool true, .int .i64 0, .int .i64 0, .int .i64 0, .string ⟨#[]⟩, .bool false, .slice none 0 0, .slice none 0 0] 44)) (.cells #[.bool false, .int .u64 num, .string ⟨#[]⟩, .slice ka 0 kc] 47); simpa using this
  have HB := Lib.hid (fun w => oneBits_int w)
  clear h3
  go_enter Tryz.func50, Tryz.ntmps50
  go_wp2_with fail
  generalize ((w.alloc (.cells #[.int .i64 2, .int .i64 32, .bool true, .int .i64 0, .int .i64 0, .int .i64 0, .string ⟨#[]⟩, .bool false, .slice none 0 0, .slice none 0 0] 44)).alloc (.cells #[.bool false, .int .u64 num, .string ⟨#[]⟩, .slice ka 0 kc] 47)) = w0 at *
  refine (HB.out _).mono ?_
  rintro e w1 ⟨rfl, hk1⟩
  have hk01 := hk.trans hk1
  have hb2 := hk1.blk hb2 (fun h => h)
  obtain ⟨i5, hi5, hi5z⟩ := Option.map_eq_some_iff.1 info5
  simp only [Prod.mk.injEq] at hi5z
  obtain ⟨hz1, hz2, hz3⟩ := hi5z
  clear hb1
  go_wp2_with fail
  go_loopw [7, 8] (fun vv i wr => ∃ k : Nat, k ≤ 4 ∧ i = .int .i64 k ∧ wr.ownsRow w1.heap.size 5 1 vv k (nums .u8 ((intB num).take k)) ∧ Keep (fun _ => False) w1 wr) (fun _ i _ => 4 - (intOf i).toNat)
  case atStart => exact ⟨0, Nat.zero_le _, rfl, World.ownsRow_nil _ _ 5 1, Keep.refl _ _⟩
  case round =>
    obtain ⟨k, hk4, rfl, hown, hkr⟩ := hrel
    by_cases h : k < 4
    · have hc2 := blk_cell (hkr.blk hb2 (fun h => h))
      have hk0 : (0 : Int) ≤ (k : Int) := by omega
      have hk4' : (k : Int) < 4 := by omega
      have hA : Keep (fun _ => False) wr (wr.alloc (.cells #[.int .u8 (num / 2 ^ (8 * k) % 256)] 5)) := (Keep.refl _ wr).alloc _
      have hown1 := ownsRow_keep hown hA (fun _ _ h => h)
      have htk := Lib.hid (intB_take num k h)
      have hsz := hkr.size
      have hc3 := fun o => blk_cell (blk_alloc (hkr.blk hb2 (fun h => h)) o)
      go_wp2_with (first | (at_builtin; refine wpList_append_own_at _ rfl _ _ _ rfl w1.heap.size 5 i5 (.int .u8 0) 1 1 (by kernel_rfl) hi5 hz1 hz2 hz3 rfl (by omega) u7 k (nums .u8 ((intB num).take k)) rfl hown1 ⟨wr.heap.size, 0, none⟩ 1 1 [.int .u8 (num / 2 ^ (8 * k) % 256)] rfl rfl (World.news_of_block (cs := #[.int .u8 (num / 2 ^ (8 * k) % 256)]) (t := 5) (fr := (0, 0)) (blk_new wr _)) (by simp [Value.oneCell']) (by simp only [maxLen]; omega) (by omega) (by simp; omega) ?_))
      intro v' w2 hown2 hgrow _ hat2
      have e : nums .u8 ((intB num).take k) ++ [.int .u8 (num / 2 ^ (8 * k) % 256)] = nums .u8 ((intB num).take (k + 1)) := by rw [htk.out]; simp [nums]
      rw [e] at hown2
      have hkf : Keep (fun _ => False) w1 w2 := (hkr.trans hA).step (grown_keep hgrow) (fun b hb => .inr (ownsRow_lt hown b hb).2)
      have HF := Lib.hid (And.intro hown2 hkf)
      clear hown hown1 hown2 hA hgrow hat2 hc2 hc3 hkf e
      go_wp2_with fail
      go_roundw
      case rel => exact ⟨k + 1, h, by go_num, HF.out.1, HF.out.2⟩
      case measure => simp [intOf]; omega
    · obtain rfl : k = 4 := by omega
      go_wp2_with fail
      go_ret
      refine ⟨u7, rfl, ?_, hk01.trans hkr⟩
      rw [show (intB num).take 4 = intB num from List.take_of_length_le (by rw [intB_length]; omega)] at hown
      refine OB.lower (base := w1.heap.size) ?_ hk01.size
      unfold OB
      rw [intB_length]
      exact hown
/-- Bytes one behind the other. -/
def catB (f : Nat → List Int) : Nat → List Int
  | 0 => []
  | n + 1 => catB f n ++ f n
theorem catB_mono (f : Nat → List Int) (k : Nat) : ∀ n, k ≤ n → (catB f k).length ≤ (catB f n).length
  | 0, h => by rw [show k = 0 by omega]; exact Nat.le_refl _
  | n + 1, h => by
    by_cases e : k = n + 1
    · rw [e]; exact Nat.le_refl _
    · have := catB_mono f k n (by omega)
      rw [catB, List.length_append]
      omega
set_option maxRecDepth 100000 in
set_option maxHeartbeats 4000000 in
theorem plainly_bin (A : Option Addr) (l : List SVal) (c : Nat) (f : Nat → List Int) (w : World) (hl : Vals w A l) (hlen : l.length ≤ 140737488351232) (hf : (catB f l.length).length ≤ 1000000) (hf0 : ∀ j, j < l.length → 0 < (f j).length)
    (hcall : ∀ j (h : j < l.length), ∀ w, Calls Tryz.prog 50 #[.agg #[.int .i64 4, .int .i64 0, .bool false, .int .i64 0, .int .i64 0, .int .i64 0, .string ⟨#[]⟩, .bool false, .slice none 0 0, .slice none 0 0], l[j].agg] w fun e w' => ∃ x, e = .returned x ∧ OB w' w.heap.size x (f j) ∧ Keep (fun _ => False) w w') :
    Calls Tryz.prog 16 #[.agg #[.int .i64 4, .int .i64 0, .bool false, .int .i64 0, .int .i64 0, .int .i64 0, .string ⟨#[]⟩, .bool false, .slice none 0 0, .slice none 0 0], .slice A l.length c] w fun e w' => ∃ x, e = .returned x ∧ OB w' w.heap.size x (catB f l.length) ∧ Keep (fun _ => False) w w' := by
  have hk0 : Keep (fun _ => False) w (w.alloc (.cells #[.int .i64 4, .int .i64 0, .bool false, .int .i64 0, .int .i64 0, .int .i64 0, .string ⟨#[]⟩, .bool false, .slice none 0 0, .slice none 0 0] 44)) := (Keep.refl _ w).alloc _
  have hb1 := blk_new w (.cells #[.int .i64 4, .int .i64 0, .bool false, .int .i64 0, .int .i64 0, .int .i64 0, .string ⟨#[]⟩, .bool false, .slice none 0 0, .slice none 0 0] 44)
  obtain ⟨i5, hi5, hi5z⟩ := Option.map_eq_some_iff.1 info5
  simp only [Prod.mk.injEq] at hi5z
  obtain ⟨hz1, hz2, hz3⟩ := hi5z
  have HF := Lib.hid (And.intro hcall (And.intro hf hf0))
  clear hcall hf hf0
  go_enter Tryz.func16, Tryz.ntmps16
  go_wp2_with fail
  generalize w.alloc (.cells #[.int .i64 4, .int .i64 0, .bool false, .int .i64 0, .int .i64 0, .int .i64 0, .string ⟨#[]⟩, .bool false, .slice none 0 0, .slice none 0 0] 44) = w0 at *
  go_loopw [5, 7, 10] (fun vv _ i wr => ∃ k : Nat, k ≤ l.length ∧ i = .int .i64 k ∧ Keep (fun _ => False) w0 wr ∧ OB wr w0.heap.size vv (catB f k)) (fun _ _ i _ => l.length - (intOf i).toNat)
  case atStart => exact ⟨0, Nat.zero_le _, rfl, Keep.refl _ _, OB.nil _ _⟩
  case round =>
    obtain ⟨k, hk, rfl, hkr, hown⟩ := hrel
    by_cases h : k < l.length
    · obtain ⟨g, o, rfl, hrow⟩ := hl (by omega)
      obtain ⟨x0, x1, x2, x3⟩ := (hrow.keep (hk0.trans hkr) (fun h => h)) k h
      have hk00 : (0 : Int) ≤ (k : Int) := by omega
      have hk1 : (k : Int) < (l.length : Int) := by omega
      have HC := Lib.hid (HF.out.1 k h)
      have hfk := HF.out.2.2 k h
      have hfl := Nat.le_trans (catB_mono f (k + 1) l.length h) HF.out.2.1
      rw [catB, List.length_append] at hfl
      generalize l[k] = v at *
      obtain ⟨null, num, text, ka, kn, kc⟩ := v
      simp only [SVal.agg] at x0 x1 x2 x3 HC
      have hkA := hkr.alloc (.cells #[.bool null, .int .u64 num, .string text, .slice ka kn kc] 47)
      have hownA := hown.keep (S := fun _ => False) ((Keep.refl _ wr).alloc (.cells #[.bool null, .int .u64 num, .string text, .slice ka kn kc] 47)) (fun _ _ h => h)
      have hb1r := blk_alloc (hkr.blk hb1 (fun h => h)) (.cells #[.bool null, .int .u64 num, .string text, .slice ka kn kc] 47)
      have hb2 := blk_new wr (.cells #[.bool null, .int .u64 num, .string text, .slice ka kn kc] 47)
      have hc1 := blk_cell hb1r
      go_wp2_with fail
      refine (HC.out _).mono ?_
      rintro e w1 ⟨x, rfl, hob, hk2⟩
      have hkB := hkA.trans hk2
      have hownB := hownA.keep hk2 (fun _ _ h => h)
      obtain ⟨gy, cy, rfl, hrowy⟩ := hob.parts hfk
      have hbs := hkB.size
      clear hc1 hb2 HC
      go_wp2_with (first | (at_builtin; refine wpList_append_own_at _ rfl _ _ _ rfl w0.heap.size 5 i5 (.int .u8 0) 1 1 (by kernel_rfl) hi5 hz1 hz2 hz3 rfl (by omega) u5 (catB f k).length (nums .u8 (catB f k)) rfl hownB ⟨gy, 0, none⟩ (f k).length cy (nums .u8 (f k)) rfl (by simp) hrowy.src (nums_ones _ _) (by simp only [maxLen]; omega) (by omega) hbs ?_))
      intro v' w2 hown2 hgrow _ hat2
      obtain ⟨j1, j2, _⟩ := OB.join hkB hownB hown2 hgrow hat2
      have HJ := Lib.hid (And.intro j1 j2)
      clear j1 j2 hown hownA hownB hown2 hgrow hat2 hrowy hob
      go_wp2_with fail
      go_roundw
      case rel => exact ⟨k + 1, h, by go_num, HJ.out.2, HJ.out.1⟩
      case measure => simp [intOf]; omega
    · obtain rfl : k = l.length := by omega
      go_wp2_with fail
      go_ret
      exact ⟨u5, rfl, hown.lower hk0.size, hk0.trans hkr⟩
set_option maxRecDepth 100000 in
set_option maxHeartbeats 4000000 in
theorem plainly_int (A : Option Addr) (l : List SVal) (c : Nat) (f : Nat → List Int) (w : World) (hl : Vals w A l) (hlen : l.length ≤ 140737488351232) (hf : (catB f l.length).length ≤ 1000000) (hf0 : ∀ j, j < l.length → 0 < (f j).length)
    (hcall : ∀ j (h : j < l.length), ∀ w, Calls Tryz.prog 50 #[.agg #[.int .i64 2, .int .i64 32, .bool true, .int .i64 0, .int .i64 0, .int .i64 0, .string ⟨#[]⟩, .bool false, .slice none 0 0, .slice none 0 0], l[j].agg] w fun e w' => ∃ x, e = .returned x ∧ OB w' w.heap.size x (f j) ∧ Keep (fun _ => False) w w') :
    Calls Tryz.prog 16 #[.agg #[.int .i64 2, .int .i64 32, .bool true, .int .i64 0, .int .i64 0, .int .i64 0, .string ⟨#[]⟩, .bool false, .slice none 0 0, .slice none 0 0], .slice A l.length c] w fun e w' => ∃ x, e = .returned x ∧ OB w' w.heap.size x (catB f l.length) ∧ Keep (fun _ => False) w w' := by
  have hk0 : Keep (fun _ => False) w (w.alloc (.cells #[.int .i64 2, .int .i64 32, .bool true, .int .i64 0, .int .i64 0, .int .i64 0, .string ⟨#[]⟩, .bool false, .slice none 0 0, .slice none 0 0] 44)) := (Keep.refl _ w).alloc _
  have hb1 := blk_new w (.cells #[.int .i64 2, .int .i64 32, .bool true, .int .i64 0, .int .i64 0, .int .i64 0, .string ⟨#[]⟩, .bool false, .slice none 0 0, .slice none 0 0] 44)
  obtain ⟨i5, hi5, hi5z⟩ := Option.map_eq_some_iff.1 info5
  simp only [Prod.mk.injEq] at hi5z
  obtain ⟨hz1, hz2, hz3⟩ := hi5z
  have HF := Lib.hid (And.intro hcall (And.intro hf hf0))
  clear hcall hf hf0
  go_enter Tryz.func16, Tryz.ntmps16
  go_wp2_with fail
  generalize w.alloc (.cells #[.int .i64 2, .int .i64 32, .bool true, .int .i64 0, .int .i64 0, .int .i64 0, .string ⟨#[]⟩, .bool false, .slice none 0 0, .slice none 0 0] 44) = w0 at *
  go_loopw [5, 7, 10] (fun vv _ i wr => ∃ k : Nat, k ≤ l.length ∧ i = .int .i64 k ∧ Keep (fun _ => False) w0 wr ∧ OB wr w0.heap.size vv (catB f k)) (fun _ _ i _ => l.length - (intOf i).toNat)
  case atStart => exact ⟨0, Nat.zero_le _, rfl, Keep.refl _ _, OB.nil _ _⟩
  case round =>
    obtain ⟨k, hk, rfl, hkr, hown⟩ := hrel
    by_cases h : k < l.length
    · obtain ⟨g, o, rfl, hrow⟩ := hl (by omega)
      obtain ⟨x0, x1, x2, x3⟩ := (hrow.keep (hk0.trans hkr) (fun h => h)) k h
      have hk00 : (0 : Int) ≤ (k : Int) := by omega
      have hk1 : (k : Int) < (l.length : Int) := by omega
      have HC := Lib.hid (HF.out.1 k h)
      have hfk := HF.out.2.2 k h
      have hfl := Nat.le_trans (catB_mono f (k + 1) l.length h) HF.out.2.1
      rw [catB, List.length_append] at hfl
      generalize l[k] = v at *
      obtain ⟨null, num, text, ka, kn, kc⟩ := v
      simp only [SVal.agg] at x0 x1 x2 x3 HC
      have hkA := hkr.alloc (.cells #[.bool null, .int .u64 num, .string text, .slice ka kn kc] 47)
      have hownA := hown.keep (S := fun _ => False) ((Keep.refl _ wr).alloc (.cells #[.bool null, .int .u64 num, .string text, .slice ka kn kc] 47)) (fun _ _ h => h)
      have hb1r := blk_alloc (hkr.blk hb1 (fun h => h)) (.cells #[.bool null, .int .u64 num, .string text, .slice ka kn kc] 47)
      have hb2 := blk_new wr (.cells #[.bool null, .int .u64 num, .string text, .slice ka kn kc] 47)
      have hc1 := blk_cell hb1r
      go_wp2_with fail
      refine (HC.out _).mono ?_
      rintro e w1 ⟨x, rfl, hob, hk2⟩
      have hkB := hkA.trans hk2
      have hownB := hownA.keep hk2 (fun _ _ h => h)
      obtain ⟨gy, cy, rfl, hrowy⟩ := hob.parts hfk
      have hbs := hkB.size
      clear hc1 hb2 HC
      go_wp2_with (first | (at_builtin; refine wpList_append_own_at _ rfl _ _ _ rfl w0.heap.size 5 i5 (.int .u8 0) 1 1 (by kernel_rfl) hi5 hz1 hz2 hz3 rfl (by omega) u5 (catB f k).length (nums .u8 (catB f k)) rfl hownB ⟨gy, 0, none⟩ (f k).length cy (nums .u8 (f k)) rfl (by simp) hrowy.src (nums_ones _ _) (by simp only [maxLen]; omega) (by omega) hbs ?_))
      intro v' w2 hown2 hgrow _ hat2
      obtain ⟨j1, j2, _⟩ := OB.join hkB hownB hown2 hgrow hat2
      have HJ := Lib.hid (And.intro j1 j2)
      clear j1 j2 hown hownA hownB hown2 hgrow hat2 hrowy hob
      go_wp2_with fail
      go_roundw
      case rel => exact ⟨k + 1, h, by go_num, HJ.out.2, HJ.out.1⟩
      case measure => simp [intOf]; omega
    · obtain rfl : k = l.length := by omega
      go_wp2_with fail
      go_ret
      exact ⟨u5, rfl, hown.lower hk0.size, hk0.trans hkr⟩
end Go.Proofs.YtdamippibpbjhaaGreatDoor

/-! Numbers in groups of seven bits, numbers packed, the numbers from 0 on. -/
namespace Go.Proofs.YtdamippibpbjhaaGreatDoor
open Go.RowKit

/-- Numbers without a sign, in a row of one's own. -/
def OU (w : World) (base : Nat) (v : Value) (xs : List Int) : Prop := w.ownsRow base 45 1 v xs.length (nums .u64 xs)
theorem OU.nil (w : World) (base : Nat) : OU w base (.slice none 0 0) [] := World.ownsRow_nil w base 45 1
theorem OU.keep {S : Nat → Prop} {w w' : World} {base : Nat} {v : Value} {xs : List Int} (h : OU w base v xs) (hk : Keep S w w') (hS : ∀ g, v.ownBlock = some g → ¬ S g) : OU w' base v xs := ownsRow_keep h hk hS
theorem OU.lower {w : World} {base base' : Nat} {v : Value} {xs : List Int} (h : OU w base v xs) (hb : base' ≤ base) : OU w base' v xs := by
  refine ⟨h.1, h.2.imp (fun h => h) ?_⟩
  rintro ⟨g, c, cur, e1, e2, e3⟩
  exact ⟨g, c, cur, e1, by omega, e3⟩
theorem OU.uints {w : World} {base : Nat} {v : Value} {xs : List Int} (h : OU w base v xs) : ∃ A c, v = .slice A xs.length c ∧ xs.length ≤ c ∧ UInts w A xs := by
  rcases h.2 with ⟨rfl, h0⟩ | ⟨g, cap, cur, rfl, _, hg, hc, _, hcs, ht⟩
  · exact ⟨none, 0, by rw [h0], by omega, fun h => absurd h (by omega)⟩
  · refine ⟨_, _, rfl, hc, fun _ => ⟨g, 0, rfl, fun j hj => ?_⟩⟩
    rw [blk_cell hg, Nat.zero_add]
    have h1 := congrArg (fun z => z[j]?) ht
    simp only [Nat.mul_one] at h1
    rw [List.getElem?_take_of_lt hj, Array.getElem?_toList] at h1
    rw [h1]
    exact nums_get hj
theorem OU.snoc {w : World} {base : Nat} {v : Value} {xs ys : List Int} {n : Nat} (h : w.ownsRow base 45 1 v (xs.length + n) (nums .u64 xs ++ nums .u64 ys)) (hn : n = ys.length) : OU w base v (xs ++ ys) := by
  unfold OU
  rw [List.length_append, show nums .u64 (xs ++ ys) = nums .u64 xs ++ nums .u64 ys by simp [nums], ← hn]
  exact h

set_option maxRecDepth 100000 in
set_option maxHeartbeats 4000000 in
theorem putVlq_any (n : Nat) (hn : n < 18446744073709551616) (w : World) : Calls Tryz.prog 91 #[.int .u64 n] w fun e w' => ∃ v, e = .returned v ∧ OB w' w.heap.size v (lebB 10 n) ∧ Keep (fun _ => False) w w' := by
  obtain ⟨i5, hi5, hi5z⟩ := Option.map_eq_some_iff.1 info5
  simp only [Prod.mk.injEq] at hi5z
  obtain ⟨hz1, hz2, hz3⟩ := hi5z
  go_enter Tryz.func91, Tryz.ntmps91
  go_wp2_with fail
  go_loopw [0, 3] (fun x vv wr => ∃ (m q : Nat) (out : List Int), x = .int .u64 m ∧ q < 10 ∧ m < 128 ^ (10 - q) ∧ out.length = q ∧ out ++ lebB (10 - q) m = lebB 10 n ∧ OB wr w.heap.size vv out ∧ Keep (fun _ => False) w wr) (fun x _ _ => (intOf x).toNat)
  case atStart => exact ⟨n, 0, [], rfl, by omega, by simp; omega, rfl, rfl, OB.nil _ _, Keep.refl _ _⟩
  case round =>
    obtain ⟨m, q, out, rfl, hq, hm, hol, heq, hown, hk⟩ := hrel
    subst hol
    have hks := hk.size
    by_cases h : m < 128
    · have hge : ¬ ((128 : Int) ≤ (m : Int)) := by omega
      have hw8 : IntKind.u8.wrap (m : Int) = (m : Int) := by rw [IntKind.wrap_u8]; omega
      have hA : Keep (fun _ => False) wr (wr.alloc (.cells #[.int .u8 m] 5)) := (Keep.refl _ wr).alloc _
      have hown1 := hown.keep hA (fun _ _ h => h)
      go_wp2_with (first | (at_builtin; refine wpList_append_own_at _ rfl _ _ _ rfl w.heap.size 5 i5 (.int .u8 0) 1 1 (by kernel_rfl) hi5 hz1 hz2 hz3 rfl (by omega) u3 out.length (nums .u8 out) rfl hown1 ⟨wr.heap.size, 0, none⟩ 1 1 [.int .u8 m] rfl rfl (World.news_of_block (cs := #[.int .u8 m]) (t := 5) (fr := (0, 0)) (blk_new wr _)) (by simp [Value.oneCell']) (by simp only [maxLen]; omega) (by omega) (by simp; omega) ?_))
      intro v' w2 hown2 hgrow _ hat2
      have hkf := own_after hk hA hown (Nat.le_refl _) hgrow
      have hf := OB.snoc (ys := [(m : Int)]) hown2 rfl
      have hl1 : lebB (10 - out.length) m = [(m : Int)] := by rw [show 10 - out.length = (9 - out.length) + 1 by omega, lebB, if_pos h]
      rw [hl1] at heq
      rw [heq] at hf
      go_wp2_with fail
      go_ret
      exact ⟨v', rfl, hf, hkf⟩
    · have hge : (128 : Int) ≤ (m : Int) := by omega
      have hq9 : out.length < 9 := by
        by_cases e : out.length = 9
        · rw [e] at hm; simp at hm; omega
        · omega
      have ho := u8_or128 m
      have hA : Keep (fun _ => False) wr (wr.alloc (.cells #[.int .u8 (m % 128 + 128 : Nat)] 5)) := (Keep.refl _ wr).alloc _
      have hown1 := hown.keep hA (fun _ _ h => h)
      generalize hmv : m % 128 + 128 = mv at *
      have hl1 : lebB (10 - out.length) m = (mv : Int) :: lebB (10 - (out.length + 1)) (m / 128) := by rw [show 10 - out.length = (10 - (out.length + 1)) + 1 by omega, lebB, if_neg h, hmv]
      have hdm : m / 128 < 128 ^ (10 - (out.length + 1)) := by
        have : 128 ^ (10 - out.length) = 128 ^ (10 - (out.length + 1)) * 128 := by rw [← Nat.pow_succ]; congr 1; omega
        omega
      have HL := Lib.hid hl1
      have HE := Lib.hid heq
      clear hl1 heq hmv hm hn
      go_wp2_with (first | (at_builtin; refine wpList_append_own_at _ rfl _ _ _ rfl w.heap.size 5 i5 (.int .u8 0) 1 1 (by kernel_rfl) hi5 hz1 hz2 hz3 rfl (by omega) u3 out.length (nums .u8 out) rfl hown1 ⟨wr.heap.size, 0, none⟩ 1 1 [.int .u8 mv] rfl rfl (World.news_of_block (cs := #[.int .u8 mv]) (t := 5) (fr := (0, 0)) (blk_new wr _)) (by simp [Value.oneCell']) (by simp only [maxLen]; omega) (by omega) (by simp; omega) ?_))
      intro v' w2 hown2 hgrow _ hat2
      have hkf := own_after hk hA hown (Nat.le_refl _) hgrow
      have hf := OB.snoc (ys := [(mv : Int)]) hown2 rfl
      clear hk hA hown hown1 hown2 hgrow hat2
      have HF := Lib.hid (And.intro hkf hf)
      clear hkf hf
      go_wp2_with fail
      go_roundw
      case rel => exact ⟨m / 128, out.length + 1, out ++ [(mv : Int)], by simp, by omega, hdm, by simp, by rw [List.append_assoc, List.singleton_append, ← HL.out, HE.out], HF.out.2, HF.out.1⟩
      case measure => simp only [intOf]; omega

/-- The numbers from 0 on. -/
def upTo (n : Nat) : List Int := (List.range n).map fun i => ((i : Nat) : Int)
theorem upTo_length (n : Nat) : (upTo n).length = n := by simp [upTo]
theorem upTo_succ (n : Nat) : upTo (n + 1) = upTo n ++ [(n : Int)] := by simp [upTo, List.range_succ]
set_option maxRecDepth 100000 in
set_option maxHeartbeats 4000000 in
theorem counted0_any (n : Nat) (hn : n ≤ 100000) (w : World) : Calls Tryz.prog 56 #[.int .i64 n] w fun e w' => ∃ v, e = .returned v ∧ OU w' w.heap.size v (upTo n) ∧ Keep (fun _ => False) w w' := by
  obtain ⟨i5, hi5, hi5z⟩ := Option.map_eq_some_iff.1 info45
  simp only [Prod.mk.injEq] at hi5z
  obtain ⟨hz1, hz2, hz3⟩ := hi5z
  go_enter Tryz.func56, Tryz.ntmps56
  go_wp2_with fail
  go_loopw [3, 4] (fun vv i wr => ∃ k : Nat, k ≤ n ∧ i = .int .i64 k ∧ OU wr w.heap.size vv (upTo k) ∧ Keep (fun _ => False) w wr) (fun _ i _ => n - (intOf i).toNat)
  case atStart => exact ⟨0, Nat.zero_le _, rfl, OU.nil _ _, Keep.refl _ _⟩
  case round =>
    obtain ⟨k, hk, rfl, hown, hkr⟩ := hrel
    by_cases h : k < n
    · have hki : (k : Int) < (n : Int) := by omega
      have hA : Keep (fun _ => False) wr (wr.alloc (.cells #[.int .u64 k] 45)) := (Keep.refl _ wr).alloc _
      have hown1 := hown.keep hA (fun _ _ h => h)
      have hks := hkr.size
      unfold OU at hown1
      rw [upTo_length] at hown1
      go_wp2_with (first | (at_builtin; refine wpList_append_own_at _ rfl _ _ _ rfl w.heap.size 45 i5 (.int .u64 0) 1 8 (by kernel_rfl) hi5 hz1 hz2 hz3 rfl (by omega) u3 k (nums .u64 (upTo k)) rfl hown1 ⟨wr.heap.size, 0, none⟩ 1 1 [.int .u64 k] rfl rfl (World.news_of_block (cs := #[.int .u64 k]) (t := 45) (fr := (0, 0)) (blk_new wr _)) (by simp [Value.oneCell']) (by simp only [maxLen]; omega) (by omega) (by simp; omega) ?_))
      intro v' w2 hown2 hgrow _ hat2
      have hkf := own_after hkr hA hown (Nat.le_refl _) hgrow
      have hf := OU.snoc (xs := upTo k) (ys := [(k : Int)]) (by rw [upTo_length]; exact hown2) rfl
      rw [← upTo_succ] at hf
      have HF := Lib.hid (And.intro hf hkf)
      clear hkf hf hown hown1 hown2 hgrow hat2 hA hkr
      go_wp2_with fail
      go_roundw
      case rel => exact ⟨k + 1, h, by go_num, HF.out.1, HF.out.2⟩
      case measure => simp [intOf]; omega
    · obtain rfl : k = n := by omega
      go_wp2_with fail
      go_ret
      exact ⟨u3, rfl, hown, hkr⟩

theorem bitsOf_get (v : Nat) : ∀ w i, i < w → (bitsOf v w)[i]? = some (v / 2 ^ i % 2 == 1)
  | 0, _, h => absurd h (by omega)
  | w + 1, i, h => by
    rw [bitsOf]
    by_cases e : i = w
    · subst e
      rw [List.getElem?_append_right (by rw [bitsOf_length]; omega), bitsOf_length]
      simp
    · rw [List.getElem?_append_left (by rw [bitsOf_length]; omega), bitsOf_get v w i (by omega)]
theorem valBits_get (f : Nat → Nat) (W : Nat) (hW : 0 < W) : ∀ m k, k < m * W → (valBits f W m)[k]? = some (f (k / W) / 2 ^ (k % W) % 2 == 1)
  | 0, k, h => absurd h (by omega)
  | m + 1, k, h => by
    rw [valBits]
    by_cases e : k < m * W
    · rw [List.getElem?_append_left (by rw [valBits_length]; exact e), valBits_get f W hW m k e]
    · have hk : k - m * W < W := by rw [Nat.add_mul] at h; omega
      have hd := Nat.div_add_mod k W
      have hq : k / W = m := by
        rw [Nat.div_eq_of_lt_le]
        · omega
        · exact h
      rw [List.getElem?_append_right (by rw [valBits_length]; omega), valBits_length, bitsOf_get _ _ _ hk, hq]
      have hm : k % W = k - m * W := by rw [hq, Nat.mul_comm] at hd; omega
      rw [hm]
set_option maxRecDepth 100000 in
set_option maxHeartbeats 4000000 in
theorem packBits_any (A : Option Addr) (xs : List Int) (W c : Nat) (w : World) (hW1 : 1 ≤ W) (hW20 : W ≤ 20) (hx : ∀ i, 0 ≤ xs.getD i 0 ∧ xs.getD i 0 < 18446744073709551616) (hlen : xs.length ≤ 160) (hA : UInts w A xs) :
    Calls Tryz.prog 92 #[.slice A xs.length c, .int .i64 W] w fun e w' => ∃ v, e = .returned v ∧ OB w' w.heap.size v (packB (valBits (fun i => (xs.getD i 0).toNat) W xs.length)) ∧ Keep (fun _ => False) w w' := by
  obtain ⟨bl, hbl⟩ : ∃ bl, bl = valBits (fun i => (xs.getD i 0).toNat) W xs.length := ⟨_, rfl⟩
  have hbll : bl.length = xs.length * W := by rw [hbl, valBits_length]
  have hNW : xs.length * W ≤ 160 * 20 := Nat.mul_le_mul hlen hW20
  have hbg : ∀ k (h : k < bl.length), bl[k] = ((xs.getD (k / W) 0).toNat / 2 ^ (k % W) % 2 == 1) := fun k h => by
    have h1 := valBits_get (fun i => (xs.getD i 0).toNat) W hW1 xs.length k (by omega)
    rw [← hbl, List.getElem?_eq_getElem h] at h1
    exact Option.some.inj h1
  rw [← hbl]
  have hmk := make_big (t := 31) (by kernel_rfl) info5 rfl (by omega) ((bl.length + 7) / 8) (by omega) w
  have hml : (xs.length : Int) * (W : Int) = (bl.length : Int) := by rw [hbll, Int.natCast_mul]
  have hq : ((bl.length : Int) + 7) / 8 = (((bl.length + 7) / 8 : Nat) : Int) := by omega
  have hn0 : (0 : Int) ≤ (((bl.length + 7) / 8 : Nat) : Int) := by omega
  have hbl9 : (bl.length : Int) ≤ 3200 := by omega
  have hR0 : PkRel (w.alloc (.cells (madeCells #[.int .u8 0] ((bl.length + 7) / 8)) 5)) bl w.heap.size 0 (w.alloc (.cells (madeCells #[.int .u8 0] ((bl.length + 7) / 8)) 5)) :=
    ⟨Keep.refl _ _, _, blk_new w _, size_madeCells _ _, fun k hk => by
      rw [← Array.getElem?_toList, toList_madeCells_one]
      simp [bnum, hk]⟩
  obtain ⟨N, hN⟩ : ∃ N, N = (bl.length + 7) / 8 := ⟨_, rfl⟩
  rw [← hN] at hmk hq hn0 hR0
  have HN := Lib.hid (And.intro hN hbg)
  have hkA : Keep (fun _ => False) w (w.alloc (.cells (madeCells #[.int .u8 0] N) 5)) := (Keep.refl _ w).alloc _
  have HB := Lib.hid (And.intro hbl (And.intro hbll hx))
  clear hN hbg hbl hbll hx
  go_enter Tryz.func92, Tryz.ntmps92
  go_wp2_with fail
  generalize w.alloc (.cells (madeCells #[.int .u8 0] N) 5) = w1 at *
  go_loopw [6] (fun i wr => ∃ k : Nat, k ≤ bl.length ∧ i = .int .i64 k ∧ PkRel w1 bl w.heap.size k wr) (fun i _ => bl.length - (intOf i).toNat)
  case atStart => exact ⟨0, Nat.zero_le _, rfl, hR0⟩
  case round =>
    obtain ⟨k, hk, rfl, hkr, cs, hcs, hsz, hv⟩ := hrel
    clear hq hmk hR0
    by_cases h : k < bl.length
    · have hxl : k / W < xs.length := by rw [Nat.div_lt_iff_lt_mul (by omega)]; have := HB.out.2.1; omega
      have hx0 : 0 < xs.length := Nat.lt_of_le_of_lt (Nat.zero_le _) hxl
      obtain ⟨gb, ob, rfl, hb⟩ := hA hx0
      have hgbl := World.block_lt_of_cell? w _ (hb 0 hx0)
      have hxk : wr.cell? ⟨gb, ob + k / W, none⟩ = some (.int .u64 (xs.getD (k / W) 0)) := hkr.cell (hkA.cell (hb (k / W) hxl) (fun h => h)) (by show ¬ gb = w.heap.size; have : gb < w.heap.size := hgbl; omega)
      have hk0 : (0 : Int) ≤ (k : Int) := by omega
      have hk1 : (k : Int) < (bl.length : Int) := by omega
      have htk := bnum_take bl k h
      rw [HN.out.2 k h] at htk
      obtain ⟨x, hx⟩ := Int.eq_ofNat_of_zero_le (HB.out.2.2 (k / W)).1
      have hx64 := (HB.out.2.2 (k / W)).2
      rw [hx] at hxk htk hx64
      have hx64 : x < 18446744073709551616 := by have : ((x : Nat) : Int) < 18446744073709551616 := hx64; omega
      have hdv : (k : Int) / (W : Int) = ((k / W : Nat) : Int) := by rw [Int.natCast_ediv]
      have hmd : (k : Int) % (W : Int) = ((k % W : Nat) : Int) := by rw [Int.natCast_emod]
      obtain ⟨p, hp⟩ : ∃ p, p = k / W := ⟨_, rfl⟩
      obtain ⟨s, hs⟩ : ∃ s, s = k % W := ⟨_, rfl⟩
      have hs20 : s < W := by rw [hs]; exact Nat.mod_lt _ (by omega)
      rw [← hs] at htk hmd
      rw [← hp] at hxk hdv hxl
      have hand := bit_and x s hx64
      have hp0 : (0 : Int) ≤ (p : Int) := by omega
      have hpx : (p : Int) < (xs.length : Int) := by omega
      have hs0 : (0 : Int) ≤ (s : Int) := by omega
      have hW0 : ¬ ((W : Int) = 0) := by omega
      simp only [Int.toNat_natCast] at htk
      obtain ⟨bt, hbt⟩ : ∃ bt, bt = x / 2 ^ s % 2 := ⟨_, rfl⟩
      rw [← hbt] at hand htk
      have hbt2 : bt = 0 ∨ bt = 1 := by omega
      have HP := Lib.hid (And.intro hp hs)
      clear hx hp hs hbt
      have hxq : ∀ nq, (wr.drewN nq).cell? ⟨gb, ob + p, none⟩ = some (.int .u64 (x : Int)) := fun nq => hxk
      rcases hbt2 with rfl | rfl
      · go_wp2_with fail
        go_quiet (fail)
        go_wp2_with fail
        go_roundw
        case rel =>
          refine ⟨k + 1, h, by go_num, hkr.drewN nq, cs, blk_drewN hcs nq, hsz, fun j hj => ?_⟩
          rw [hv j hj, htk]
          simp
        case measure => simp [intOf]; omega
      · have hkq : k / 8 < N := by have := HN.out.1; omega
        have hX := bnum_lt (bl.take k)
        rw [show (bl.take k).length = k by simp; omega] at hX
        have hor := u8_or_pow (bnum (bl.take k) / 256 ^ (k / 8) % 256) (k % 8) (by
          have h1 : bnum (bl.take k) / 256 ^ (k / 8) < 2 ^ (k % 8) := by
            rw [Nat.div_lt_iff_lt_mul (Nat.pow_pos (by decide)), show (256 : Nat) = 2 ^ 8 from rfl, ← Nat.pow_mul, ← Nat.pow_add]
            rw [show k % 8 + 8 * (k / 8) = k by omega]
            exact hX
          have h8 : 2 ^ (k % 8) ≤ 2 ^ 7 := Nat.pow_le_pow_right (by decide) (by omega)
          rw [Nat.mod_eq_of_lt (show bnum (bl.take k) / 256 ^ (k / 8) < 256 by omega)]
          exact h1) (by omega)
        have hcq : ∀ nq, (wr.drewN nq).cell? ⟨w.heap.size, k / 8, none⟩ = some (.int .u8 (bnum (bl.take k) / 256 ^ (k / 8) % 256 : Nat)) := fun nq => by rw [blk_cell (blk_drewN hcs nq)]; exact hv _ (by rw [← HN.out.1]; exact hkq)
        have hfq := fun nq => blk_frozen (blk_drewN hcs nq) (k / 8)
        have hkd : (k : Int) / 8 = ((k / 8 : Nat) : Int) := by omega
        have hkm : (k : Int) % 8 = ((k % 8 : Nat) : Int) := by omega
        obtain ⟨q, hq8⟩ : ∃ q, q = k / 8 := ⟨_, rfl⟩
        obtain ⟨r, hr8⟩ : ∃ r, r = k % 8 := ⟨_, rfl⟩
        rw [← hq8] at hkq hor hkd
        rw [← hr8] at hor hkm
        simp only [← hq8] at hcq hfq
        have hr7 : r < 8 := by omega
        have hq0 : (0 : Int) ≤ (q : Int) := by omega
        have hq1 : (q : Int) < (N : Int) := by omega
        have hr0 : (0 : Int) ≤ (r : Int) := by omega
        obtain ⟨y, hy⟩ : ∃ y : Nat, y = bnum (bl.take k) / 256 ^ q % 256 := ⟨_, rfl⟩
        rw [← hy] at hor
        simp only [← hy] at hcq
        have HX := Lib.hid hy
        have HQ := Lib.hid hq8
        have HR := Lib.hid hr8
        have HT := Lib.hid htk
        have HV := Lib.hid hv
        clear hy hq8 hr8 htk hv
        go_wp2_with fail
        go_quiet (fail)
        go_wp2_with fail
        refine wp_region_mid 10 (by kernel_rfl) (by kernel_rfl) rfl ?_
        simp only [List.take_succ_cons, List.take_zero, List.drop_succ_cons, List.drop_zero]
        repeat (go_big_quiet_step (fail))
        refine wpQuiet_nil ?_
        rintro _ ⟨nq2, rfl⟩
        go_wp2_with fail
        refine wpQuiet_nil ?_
        rintro _ ⟨nq3, rfl⟩
        go_wp2_with fail
        go_roundw
        case rel =>
          have hk2 : Keep (fun b => b = w.heap.size) w1 (((wr.drewN (nq + nq2)).setCell ⟨w.heap.size, q, none⟩ (.int .u8 ((y : Int) + 2 ^ r))).drewN nq3) := (((hkr.drewN (nq + nq2)).setCell (p := ⟨w.heap.size, q, none⟩) (.inl rfl) _).drewN nq3)
          refine ⟨k + 1, h, by go_num, hk2, _, blk_drewN (blk_set (blk_drewN hcs (nq + nq2)) q _) nq3, by simpa using hsz, fun j hj => ?_⟩
          have hb := byte_set (bnum (bl.take k)) k j hX
          have hT := HT.out
          simp only [show ((1 : Nat) == 1) = true from rfl, Bool.toNat_true, Nat.mul_one] at hT
          rw [hT, hb]
          by_cases e : j = q
          · subst e
            rw [Array.getElem?_setIfInBounds_self_of_lt (by rw [hsz, ← HN.out.1]; exact hkq), if_pos HQ.out, ← HX.out, ← HR.out]
            simp
          · rw [Array.getElem?_setIfInBounds_ne (fun h => e h.symm), if_neg (fun h => e (h.trans HQ.out.symm))]
            exact HV.out j hj
        case measure => simp [intOf]; omega
    · obtain rfl : k = bl.length := by omega
      go_wp2_with fail
      go_ret
      have hN := HN.out.1
      have hpl : (packB bl).length = N := by rw [packB_length, hN]
      refine ⟨.slice (some ⟨w.heap.size, 0, none⟩) N N, rfl, ?_, hkA.step hkr (fun b hb => .inr (by rw [hb]; exact Nat.le_refl _))⟩
      unfold OB
      rw [hpl]
      refine ⟨by simp [nums, hpl], .inr ⟨w.heap.size, N, cs, rfl, Nat.le_refl _, hcs, Nat.le_refl _, by simp only [maxLen]; omega, by rw [hsz, hN]; omega, ?_⟩⟩
      apply List.ext_getElem?
      intro j
      by_cases hj : j < N
      · rw [List.getElem?_take_of_lt (by omega), Array.getElem?_toList, hv j (by rw [← hN]; exact hj), List.take_length, nums_get (by rw [hpl]; exact hj)]
        unfold packB
        rw [numB_getD _ _ _ (by rw [← hN]; exact hj)]
      · rw [List.getElem?_eq_none (by simp; omega), List.getElem?_eq_none (by simp [nums, hpl]; omega)]
end Go.Proofs.YtdamippibpbjhaaGreatDoor
