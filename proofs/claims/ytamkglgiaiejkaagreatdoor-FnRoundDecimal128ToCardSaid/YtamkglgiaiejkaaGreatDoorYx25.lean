import Derived.Test.YtamkglgiaiejkaaGreatDoorYx23
import Derived.Test.YtamkglgiaiejkaaGreatDoorYx24
/-! Whole numbers of words: quotient and rest. -/
namespace Go.Proofs.YtamkglgiaiejkaaGreatDoor
open Go.RowKit

/-- Digits stay where blocks that begin with a bool change. -/
theorem NV.keepB {S : Nat → Prop} {w w' : World} {v : Value} {n : Nat} (h : NV w v n) (hk : Keep S w w') (hS : ∀ b, S b → ∃ x, w.cell? ⟨b, 0, none⟩ = some (.bool x)) : NV w' v n := by
  have key : ∀ (g : Nat) (x : Int), w.cell? ⟨g, 0, none⟩ = some (.int .u64 x) → ¬ S g := fun g x hc hs => by
    obtain ⟨y, hy⟩ := hS g hs
    rw [hc] at hy
    cases hy
  obtain ⟨A, c, rfl, hc, h2⟩ := h
  refine ⟨A, c, rfl, hc, fun h0 => ?_⟩
  obtain ⟨g, rfl, h3, h4⟩ := h2 h0
  have hg := key g _ h3
  exact ⟨g, rfl, hk.cell h3 hg, fun h5 => hk.cell (h4 h5) hg⟩
theorem BV.nb {w : World} {g n : Nat} (h : BV w g n) : ∃ x, w.cell? ⟨g, 0, none⟩ = some (.int .u64 x) := by
  obtain ⟨lo, hi, _, _, _, hb⟩ := h
  exact ⟨_, by rw [blk_cell hb]; rfl⟩
theorem wlen_pos {n : Nat} : 0 < wlen n ↔ 0 < n := by
  unfold wlen
  by_cases h : n = 0
  · subst h; rfl
  · rw [if_neg h]
    have : 0 < n := by omega
    split <;> simp [this]
theorem qr_end {p rr q r : Nat} {nx b0 : Bool} {v0 v1 V1 V2 : Value} {w1 w3 : World} {bq br : Bool} (hp1 : w1.heap[p]? = some (.cells #[.bool nx, v0] 128 (0, 0))) (hr1 : w1.heap[rr]? = some (.cells #[.bool b0, v1] 128 (0, 0)))
    (hk : Keep (fun b => b = p ∨ b = rr) w1 w3) (hp3 : w3.heap[p]? = some (.cells #[.bool nx, V1] 128 (0, 0))) (hr3 : w3.heap[rr]? = some (.cells #[.bool b0, V2] 128 (0, 0))) (hpr : p ≠ rr) (h1 : NV w1 V1 q) (h2 : NV w1 V2 r) :
    IV ((w3.setCell ⟨p, 0, none⟩ (.bool bq)).setCell ⟨rr, 0, none⟩ (.bool br)).drew p bq q ∧ IV ((w3.setCell ⟨p, 0, none⟩ (.bool bq)).setCell ⟨rr, 0, none⟩ (.bool br)).drew rr br r ∧ Keep (fun b => b = p ∨ b = rr) w1 ((w3.setCell ⟨p, 0, none⟩ (.bool bq)).setCell ⟨rr, 0, none⟩ (.bool br)).drew := by
  have hkE : Keep (fun b => b = p ∨ b = rr) w1 ((w3.setCell ⟨p, 0, none⟩ (.bool bq)).setCell ⟨rr, 0, none⟩ (.bool br)).drew := ((hk.setCell (p := ⟨p, 0, none⟩) (.inl (.inl rfl)) _).setCell (p := ⟨rr, 0, none⟩) (.inl (.inr rfl)) _).drew
  have hS : ∀ b, (b = p ∨ b = rr) → ∃ x, w1.cell? ⟨b, 0, none⟩ = some (.bool x) := by
    rintro b (rfl | rfl)
    · exact ⟨nx, by rw [blk_cell hp1]; rfl⟩
    · exact ⟨b0, by rw [blk_cell hr1]; rfl⟩
  refine ⟨⟨V1, ?_, h1.keepB hkE hS⟩, ⟨V2, ?_, h2.keepB hkE hS⟩, hkE⟩
  · have := blk_drew (blk_far (blk_set hp3 0 (.bool bq)) (p := ⟨rr, 0, none⟩) (fun e => hpr e.symm) (.bool br))
    simpa using this
  · have := blk_drew (blk_set (blk_far hr3 (p := ⟨p, 0, none⟩) (fun e => hpr e) (.bool bq)) 0 (.bool br))
    simpa using this
set_option maxRecDepth 100000 in
set_option maxHeartbeats 8000000 in
theorem quoRem86 (p g q2 rr m n : Nat) (nx ny : Bool) (v : Value) (w : World)
    (hp : w.heap[p]? = some (.cells #[.bool nx, .slice (some ⟨g, 0, none⟩) (wlen m) 2] 128 (0, 0))) (hg : BV w g m)
    (hq : w.heap[q2]? = some (.cells #[.bool ny, v] 128 (0, 0))) (hv : NV w v n)
    (hr : w.heap[rr]? = some (.cells #[.bool false, .slice none 0 0] 128 (0, 0)))
    (hpq : p ≠ q2) (hpr : p ≠ rr) (hqr : q2 ≠ rr) (hG : w.cell? ⟨2, 0, none⟩ = some (.int .i64 40)) (hn0 : 0 < n) (hn9 : n < 170141183460469231731687303715884105728) :
    Calls Tryz.prog 86 #[.pointer (some ⟨p, 0, none⟩), .pointer (some ⟨p, 0, none⟩), .pointer (some ⟨q2, 0, none⟩), .pointer (some ⟨rr, 0, none⟩)] w fun e w' =>
      e = .returned (.tuple #[.pointer (some ⟨p, 0, none⟩), .pointer (some ⟨rr, 0, none⟩)]) ∧ IV w' p (decide (0 < m / n) && (nx != ny)) (m / n) ∧ IV w' rr (decide (0 < m % n) && nx) (m % n) ∧ Keep (fun b => b = p ∨ b = rr ∨ b = g) w w' := by
  have HD := Lib.hid (div103 g m n v w.drew (by
    obtain ⟨lo, hi, e1, e2, e3, hb⟩ := hg
    exact ⟨lo, hi, e1, e2, e3, hb⟩) (hv.keep (Keep.refl (fun _ => False) w).drew) hG hn0 hn9)
  have HGP : g ≠ p ∧ g ≠ q2 ∧ g ≠ rr := by
    obtain ⟨_, _, _, _, _, hb⟩ := hg
    exact ⟨blk_ne hb hp (by decide), blk_ne hb hq (by decide), blk_ne hb hr (by decide)⟩
  have HGP := Lib.hid HGP
  have HNE := Lib.hid (And.intro hpq (And.intro hpr hqr))
  obtain ⟨A, k', c', rfl⟩ : ∃ A k c, v = .slice A k c := by
    obtain ⟨A, c, rfl, _⟩ := hv
    exact ⟨_, _, _, rfl⟩
  have HPOS := Lib.hid (And.intro (@wlen_pos (m / n)) (@wlen_pos (m % n)))
  generalize m / n = q at *
  generalize m % n = r at *
  generalize wlen m = k at *
  clear hg hv hn0 hn9 hG hpq hpr hqr
  go_enter Tryz.func86, Tryz.ntmps86
  go_wp2_with fail
  refine wp_region_takesD (fun w' => w'.heap[p]? = some (.cells #[.bool nx, .slice (some ⟨g, 0, none⟩) k 2] 128 (0, 0)) ∧ w'.heap[q2]? = some (.cells #[.bool ny, .slice A k' c'] 128 (0, 0)) ∧ w'.heap[rr]? = some (.cells #[.bool false, .slice none 0 0] 128 (0, 0))) 18 (by kernel_rfl) ?_
  go_simp
  refine wpD_pure 0 (v := .pointer (some ⟨p, 0, none⟩)) (by kernel_rfl) rfl rfl (fun _ _ _ h => h) (fun w' => by go_simp) ?_
  go_simp
  refine wpD_pure 1 (v := .pointer (some ⟨rr, 0, none⟩)) (by kernel_rfl) rfl rfl (fun _ _ _ h => h) (fun w' => by go_simp) ?_
  go_simp
  refine wpD_pure 2 (v := .pointer (some ⟨p, 0, none⟩)) (by kernel_rfl) rfl rfl (fun _ _ _ h => h) (fun w' => by go_simp) ?_
  go_simp
  refine wpD_pure 3 (v := .pointer (some ⟨p, 0, none⟩)) (by kernel_rfl) rfl rfl (fun _ _ _ h => h) (fun w' => by go_simp) ?_
  go_simp
  refine wpD_pure 4 (v := .pointer (some ⟨p, 1, none⟩)) (by kernel_rfl) rfl rfl (fun _ _ _ h => h) (fun w' => by go_simp) ?_
  go_simp
  refine wpD_take 5 (v := .slice (some ⟨g, 0, none⟩) k 2) (by kernel_rfl) rfl rfl (fun _ _ _ h => h) (fun w' hC => by have hc := blk_cell hC.1; go_simp) ?_
  go_simp
  refine wpD_pure 6 (v := .pointer (some ⟨rr, 0, none⟩)) (by kernel_rfl) rfl rfl (fun _ _ _ h => h) (fun w' => by go_simp) ?_
  go_simp
  refine wpD_pure 7 (v := .pointer (some ⟨rr, 0, none⟩)) (by kernel_rfl) rfl rfl (fun _ _ _ h => h) (fun w' => by go_simp) ?_
  go_simp
  refine wpD_pure 8 (v := .pointer (some ⟨rr, 1, none⟩)) (by kernel_rfl) rfl rfl (fun _ _ _ h => h) (fun w' => by go_simp) ?_
  go_simp
  refine wpD_take 9 (v := .slice none 0 0) (by kernel_rfl) rfl rfl (fun _ _ _ h => h) (fun w' hC => by have hc := blk_cell hC.2.2; go_simp) ?_
  go_simp
  refine wpD_pure 10 (v := .pointer (some ⟨p, 0, none⟩)) (by kernel_rfl) rfl rfl (fun _ _ _ h => h) (fun w' => by go_simp) ?_
  go_simp
  refine wpD_pure 11 (v := .pointer (some ⟨p, 0, none⟩)) (by kernel_rfl) rfl rfl (fun _ _ _ h => h) (fun w' => by go_simp) ?_
  go_simp
  refine wpD_pure 12 (v := .pointer (some ⟨p, 1, none⟩)) (by kernel_rfl) rfl rfl (fun _ _ _ h => h) (fun w' => by go_simp) ?_
  go_simp
  refine wpD_take 13 (v := .slice (some ⟨g, 0, none⟩) k 2) (by kernel_rfl) rfl rfl (fun _ _ _ h => h) (fun w' hC => by have hc := blk_cell hC.1; go_simp) ?_
  go_simp
  refine wpD_pure 14 (v := .pointer (some ⟨q2, 0, none⟩)) (by kernel_rfl) rfl rfl (fun _ _ _ h => h) (fun w' => by go_simp) ?_
  go_simp
  refine wpD_pure 15 (v := .pointer (some ⟨q2, 0, none⟩)) (by kernel_rfl) rfl rfl (fun _ _ _ h => h) (fun w' => by go_simp) ?_
  go_simp
  refine wpD_pure 16 (v := .pointer (some ⟨q2, 1, none⟩)) (by kernel_rfl) rfl rfl (fun _ _ _ h => h) (fun w' => by go_simp) ?_
  go_simp
  refine wpD_take 17 (v := .slice A k' c') (by kernel_rfl) rfl rfl (fun _ _ _ h => h) (fun w' hC => by have hc := blk_cell hC.2.1; go_simp) ?_
  go_simp
  refine wpD_only 18 (by kernel_rfl) (fun _ => ⟨blk_drew hp, blk_drew hq, blk_drew hr⟩) rfl ?_
  go_wp2_with fail
  refine HD.out.mono ?_
  rintro e w1 ⟨v1, v2, rfl, hv1, hv2, hk1⟩
  have hk1' : Keep (fun b => b = g) w w1 := (Keep.refl (fun b => b = g) w).drew.trans hk1
  have hp1 := hk1'.blk hp (fun h => HGP.out.1 h.symm)
  have hq1 := hk1'.blk hq (fun h => HGP.out.2.1 h.symm)
  have hr1 := hk1'.blk hr (fun h => HGP.out.2.2 h.symm)
  have HV := Lib.hid (And.intro hv1 hv2)
  obtain ⟨A1, c1, rfl, _⟩ := hv1
  obtain ⟨A2, c2, rfl, _⟩ := hv2
  have HP0 := HPOS.out.1
  have HP1 := HPOS.out.2
  clear HPOS
  generalize wlen q = kq at *
  generalize wlen r = kr at *
  have HPOS := Lib.hid (And.intro HP0 HP1)
  clear HP0 HP1 hp hq hr HD hk1
  have fp := blk_frozen hp1
  have fr := blk_frozen hr1
  have cp1 := blk_cell hp1 1
  have cr1 := blk_cell hr1 1
  simp only [List.getElem?_toArray, List.getElem?_cons_zero, List.getElem?_cons_succ] at cp1 cr1
  go_wp2_with fail
  refine wpD_of_C (by kernel_rfl) ?_
  refine wpC_take 19 (v := .tuple #[.slice A1 kq c1, .slice A2 kr c2]) (by kernel_rfl) rfl rfl (fun _ _ _ h => h) (fun w' hC => by go_simp) ?_
  go_simp
  refine wpC_take 20 (v := .slice A1 kq c1) (by kernel_rfl) rfl rfl (fun _ _ _ h => h) (fun w' hC => by go_simp) ?_
  go_simp
  refine wpC_take 21 (v := .slice A2 kr c2) (by kernel_rfl) rfl rfl (fun _ _ _ h => h) (fun w' hC => by go_simp) ?_
  go_simp
  refine wpC_take 22 (v := .pointer (some ⟨p, 0, none⟩)) (by kernel_rfl) rfl rfl (fun _ _ _ h => h) (fun w' hC => by go_simp) ?_
  go_simp
  refine wpC_take 23 (v := .pointer (some ⟨p, 1, none⟩)) (by kernel_rfl) rfl rfl (fun _ _ _ h => h) (fun w' hC => by go_simp) ?_
  go_simp
  refine wpC_only 24 (by kernel_rfl) trivial rfl ?_
  go_wp2_with fail
  have hp2 := blk_set hp1 1 (.slice A1 kq c1)
  have hq2 := blk_far hq1 (p := ⟨p, 1, none⟩) (fun e => HNE.out.1 e) (.slice A1 kq c1)
  have hr2 := blk_far hr1 (p := ⟨p, 1, none⟩) (fun e => HNE.out.2.1 e) (.slice A1 kq c1)
  have hka : Keep (fun b => b = p ∨ b = rr) w1 (w1.setCell ⟨p, 1, none⟩ (.slice A1 kq c1)) := (Keep.refl _ w1).setCell (.inl (.inl rfl)) _
  generalize w1.setCell ⟨p, 1, none⟩ (.slice A1 kq c1) = w2 at *
  have fr2 := blk_frozen hr2
  have cr2 := blk_cell hr2 1
  simp only [List.getElem?_toArray, List.getElem?_cons_zero, List.getElem?_cons_succ] at cr2
  refine wpC_take 25 (v := .pointer (some ⟨rr, 0, none⟩)) (by kernel_rfl) rfl rfl (fun _ _ _ h => h) (fun w' hC => by go_simp) ?_
  go_simp
  refine wpC_take 26 (v := .pointer (some ⟨rr, 1, none⟩)) (by kernel_rfl) rfl rfl (fun _ _ _ h => h) (fun w' hC => by go_simp) ?_
  go_simp
  refine wpC_only 27 (by kernel_rfl) trivial rfl ?_
  go_wp2_with fail
  refine wpC_stop (by kernel_rfl) trivial ?_
  have hp3 := blk_far hp2 (p := ⟨rr, 1, none⟩) (fun e => HNE.out.2.1 e.symm) (.slice A2 kr c2)
  have hq3 := blk_far hq2 (p := ⟨rr, 1, none⟩) (fun e => HNE.out.2.2 e.symm) (.slice A2 kr c2)
  have hr3 := blk_set hr2 1 (.slice A2 kr c2)
  have hkb : Keep (fun b => b = p ∨ b = rr) w1 (w2.setCell ⟨rr, 1, none⟩ (.slice A2 kr c2)) := hka.setCell (.inl (.inr rfl)) _
  generalize w2.setCell ⟨rr, 1, none⟩ (.slice A2 kr c2) = w3 at *
  simp at hp3 hr3
  have HE := Lib.hid (fun bq br => qr_end (w1 := w1) (w3 := w3) (bq := bq) (br := br) hp1 hr1 hkb hp3 hr3 HNE.out.2.1 HV.out.1 HV.out.2)
  have HK := Lib.hid (hk1'.mono (S' := fun b => b = p ∨ b = rr ∨ b = g) (fun b h => .inr (.inr h)))
  clear fp fr cp1 cr1 fr2 cr2 hp2 hq2 hr2 hp1 hq1 hr1 hka hkb hk1' HV
  go_wp2_with fail
  rcases Nat.eq_zero_or_pos kq with hkq | hkq
  · have hq0 : ¬ 0 < q := by have := HPOS.out.1; omega
    subst hkq
    rcases Nat.eq_zero_or_pos kr with hkr | hkr
    · have hr0 : ¬ 0 < r := by have := HPOS.out.2; omega
      subst hkr
      refine wp_region_takesD (fun w' => w'.heap[p]? = some (.cells #[.bool nx, .slice A1 0 c1] 128 (0, 0)) ∧ w'.heap[q2]? = some (.cells #[.bool ny, .slice A k' c'] 128 (0, 0)) ∧ w'.heap[rr]? = some (.cells #[.bool false, .slice A2 0 c2] 128 (0, 0))) 33 (by kernel_rfl) ?_
      go_simp
      refine wpD_pure 0 (v := .pointer (some ⟨p, 0, none⟩)) (by kernel_rfl) rfl rfl (fun _ _ _ h => h) (fun w' => by go_simp) ?_
      go_simp
      refine wpD_pure 1 (v := .pointer (some ⟨rr, 0, none⟩)) (by kernel_rfl) rfl rfl (fun _ _ _ h => h) (fun w' => by go_simp) ?_
      go_simp
      refine wpD_pure 2 (v := .pointer (some ⟨p, 0, none⟩)) (by kernel_rfl) rfl rfl (fun _ _ _ h => h) (fun w' => by go_simp) ?_
      go_simp
      refine wpD_pure 3 (v := .pointer (some ⟨p, 0, none⟩)) (by kernel_rfl) rfl rfl (fun _ _ _ h => h) (fun w' => by go_simp) ?_
      go_simp
      refine wpD_pure 4 (v := .pointer (some ⟨p, 1, none⟩)) (by kernel_rfl) rfl rfl (fun _ _ _ h => h) (fun w' => by go_simp) ?_
      go_simp
      refine wpD_take 5 (v := .slice A1 0 c1) (by kernel_rfl) rfl rfl (fun _ _ _ h => h) (fun w' hC => by have hc := blk_cell hC.1; go_simp) ?_
      go_simp
      refine wpD_pure 6 (v := .int .i64 0) (by kernel_rfl) rfl rfl (fun _ _ _ h => h) (fun w' => by go_simp) ?_
      go_simp
      refine wpD_pure 7 (v := .bool false) (by kernel_rfl) rfl rfl (fun _ _ _ h => h) (fun w' => by go_simp) ?_
      go_simp
      refine wpD_pure 8 (v := .bool false) (by kernel_rfl) rfl rfl (fun _ _ _ h => h) (fun w' => by go_simp) ?_
      go_simp
      refine wpD_none 9 (by kernel_rfl) rfl rfl (fun _ _ _ h => h) ?_
      go_simp
      refine wpD_none 10 (by kernel_rfl) rfl rfl (fun _ _ _ h => h) ?_
      go_simp
      refine wpD_none 11 (by kernel_rfl) rfl rfl (fun _ _ _ h => h) ?_
      go_simp
      refine wpD_none 12 (by kernel_rfl) rfl rfl (fun _ _ _ h => h) ?_
      go_simp
      refine wpD_none 13 (by kernel_rfl) rfl rfl (fun _ _ _ h => h) ?_
      go_simp
      refine wpD_none 14 (by kernel_rfl) rfl rfl (fun _ _ _ h => h) ?_
      go_simp
      refine wpD_none 15 (by kernel_rfl) rfl rfl (fun _ _ _ h => h) ?_
      go_simp
      refine wpD_none 16 (by kernel_rfl) rfl rfl (fun _ _ _ h => h) ?_
      go_simp
      refine wpD_none 17 (by kernel_rfl) rfl rfl (fun _ _ _ h => h) ?_
      go_simp
      refine wpD_pure 18 (v := .bool (false)) (by kernel_rfl) rfl rfl (fun _ _ _ h => h) (fun w' => by go_simp) ?_
      go_simp
      refine wpD_pure 19 (v := .pointer (some ⟨rr, 0, none⟩)) (by kernel_rfl) rfl rfl (fun _ _ _ h => h) (fun w' => by go_simp) ?_
      go_simp
      refine wpD_pure 20 (v := .pointer (some ⟨rr, 0, none⟩)) (by kernel_rfl) rfl rfl (fun _ _ _ h => h) (fun w' => by go_simp) ?_
      go_simp
      refine wpD_pure 21 (v := .pointer (some ⟨rr, 1, none⟩)) (by kernel_rfl) rfl rfl (fun _ _ _ h => h) (fun w' => by go_simp) ?_
      go_simp
      refine wpD_take 22 (v := .slice A2 0 c2) (by kernel_rfl) rfl rfl (fun _ _ _ h => h) (fun w' hC => by have hc := blk_cell hC.2.2; go_simp) ?_
      go_simp
      refine wpD_pure 23 (v := .int .i64 0) (by kernel_rfl) rfl rfl (fun _ _ _ h => h) (fun w' => by go_simp) ?_
      go_simp
      refine wpD_pure 24 (v := .bool false) (by kernel_rfl) rfl rfl (fun _ _ _ h => h) (fun w' => by go_simp) ?_
      go_simp
      refine wpD_pure 25 (v := .bool false) (by kernel_rfl) rfl rfl (fun _ _ _ h => h) (fun w' => by go_simp) ?_
      go_simp
      refine wpD_none 26 (by kernel_rfl) rfl rfl (fun _ _ _ h => h) ?_
      go_simp
      refine wpD_none 27 (by kernel_rfl) rfl rfl (fun _ _ _ h => h) ?_
      go_simp
      refine wpD_none 28 (by kernel_rfl) rfl rfl (fun _ _ _ h => h) ?_
      go_simp
      refine wpD_none 29 (by kernel_rfl) rfl rfl (fun _ _ _ h => h) ?_
      go_simp
      refine wpD_pure 30 (v := .bool (false)) (by kernel_rfl) rfl rfl (fun _ _ _ h => h) (fun w' => by go_simp) ?_
      go_simp
      refine wpD_pure 31 (v := .pointer (some ⟨p, 0, none⟩)) (by kernel_rfl) rfl rfl (fun _ _ _ h => h) (fun w' => by go_simp) ?_
      go_simp
      refine wpD_pure 32 (v := .pointer (some ⟨p, 0, none⟩)) (by kernel_rfl) rfl rfl (fun _ _ _ h => h) (fun w' => by go_simp) ?_
      go_simp
      have fp := blk_frozen hp3
      have cp := blk_cell hp3 0
      have fr := blk_frozen (blk_far hr3 (p := ⟨p, 0, none⟩) (fun e => HNE.out.2.1 e) (.bool (false)))
      have cr := blk_cell (blk_far hr3 (p := ⟨p, 0, none⟩) (fun e => HNE.out.2.1 e) (.bool (false))) 0
      simp only [List.getElem?_toArray, List.getElem?_cons_zero] at cp cr
      refine wpD_only 33 (by kernel_rfl) (fun _ => ⟨hp3, hq3, hr3⟩) rfl ?_
      go_wp2_with fail
      refine wpD_of_C (by kernel_rfl) ?_
      refine wpC_take 34 (v := .pointer (some ⟨rr, 0, none⟩)) (by kernel_rfl) rfl rfl (fun _ _ _ h => h) (fun w' hC => by go_simp) ?_
      go_simp
      refine wpC_take 35 (v := .pointer (some ⟨rr, 0, none⟩)) (by kernel_rfl) rfl rfl (fun _ _ _ h => h) (fun w' hC => by go_simp) ?_
      go_simp
      refine wpC_only 36 (by kernel_rfl) trivial rfl ?_
      go_wp2_with fail
      refine wpC_stop (by kernel_rfl) trivial ?_
      go_wp2_with fail
      have HF := HE.out (false) (false)
      go_ret2
      refine ⟨rfl, ?_, ?_, (HK.out.step HF.2.2 (fun b hb => .inl (hb.imp (fun h => h) .inl)))⟩
      · rw [show (decide (0 < q) && (nx != ny)) = false by simp [hq0]]; exact HF.1
      · rw [show (decide (0 < r) && nx) = false by simp [hr0]]; exact HF.2.1
    · have hr0 : 0 < r := by have := HPOS.out.2; omega
      have hkr' : (0 : Int) < (kr : Int) := by omega
      refine wp_region_takesD (fun w' => w'.heap[p]? = some (.cells #[.bool nx, .slice A1 0 c1] 128 (0, 0)) ∧ w'.heap[q2]? = some (.cells #[.bool ny, .slice A k' c'] 128 (0, 0)) ∧ w'.heap[rr]? = some (.cells #[.bool false, .slice A2 kr c2] 128 (0, 0))) 33 (by kernel_rfl) ?_
      go_simp
      refine wpD_pure 0 (v := .pointer (some ⟨p, 0, none⟩)) (by kernel_rfl) rfl rfl (fun _ _ _ h => h) (fun w' => by go_simp) ?_
      go_simp
      refine wpD_pure 1 (v := .pointer (some ⟨rr, 0, none⟩)) (by kernel_rfl) rfl rfl (fun _ _ _ h => h) (fun w' => by go_simp) ?_
      go_simp
      refine wpD_pure 2 (v := .pointer (some ⟨p, 0, none⟩)) (by kernel_rfl) rfl rfl (fun _ _ _ h => h) (fun w' => by go_simp) ?_
      go_simp
      refine wpD_pure 3 (v := .pointer (some ⟨p, 0, none⟩)) (by kernel_rfl) rfl rfl (fun _ _ _ h => h) (fun w' => by go_simp) ?_
      go_simp
      refine wpD_pure 4 (v := .pointer (some ⟨p, 1, none⟩)) (by kernel_rfl) rfl rfl (fun _ _ _ h => h) (fun w' => by go_simp) ?_
      go_simp
      refine wpD_take 5 (v := .slice A1 0 c1) (by kernel_rfl) rfl rfl (fun _ _ _ h => h) (fun w' hC => by have hc := blk_cell hC.1; go_simp) ?_
      go_simp
      refine wpD_pure 6 (v := .int .i64 0) (by kernel_rfl) rfl rfl (fun _ _ _ h => h) (fun w' => by go_simp) ?_
      go_simp
      refine wpD_pure 7 (v := .bool false) (by kernel_rfl) rfl rfl (fun _ _ _ h => h) (fun w' => by go_simp) ?_
      go_simp
      refine wpD_pure 8 (v := .bool false) (by kernel_rfl) rfl rfl (fun _ _ _ h => h) (fun w' => by go_simp) ?_
      go_simp
      refine wpD_none 9 (by kernel_rfl) rfl rfl (fun _ _ _ h => h) ?_
      go_simp
      refine wpD_none 10 (by kernel_rfl) rfl rfl (fun _ _ _ h => h) ?_
      go_simp
      refine wpD_none 11 (by kernel_rfl) rfl rfl (fun _ _ _ h => h) ?_
      go_simp
      refine wpD_none 12 (by kernel_rfl) rfl rfl (fun _ _ _ h => h) ?_
      go_simp
      refine wpD_none 13 (by kernel_rfl) rfl rfl (fun _ _ _ h => h) ?_
      go_simp
      refine wpD_none 14 (by kernel_rfl) rfl rfl (fun _ _ _ h => h) ?_
      go_simp
      refine wpD_none 15 (by kernel_rfl) rfl rfl (fun _ _ _ h => h) ?_
      go_simp
      refine wpD_none 16 (by kernel_rfl) rfl rfl (fun _ _ _ h => h) ?_
      go_simp
      refine wpD_none 17 (by kernel_rfl) rfl rfl (fun _ _ _ h => h) ?_
      go_simp
      refine wpD_pure 18 (v := .bool (false)) (by kernel_rfl) rfl rfl (fun _ _ _ h => h) (fun w' => by go_simp) ?_
      go_simp
      refine wpD_pure 19 (v := .pointer (some ⟨rr, 0, none⟩)) (by kernel_rfl) rfl rfl (fun _ _ _ h => h) (fun w' => by go_simp) ?_
      go_simp
      refine wpD_pure 20 (v := .pointer (some ⟨rr, 0, none⟩)) (by kernel_rfl) rfl rfl (fun _ _ _ h => h) (fun w' => by go_simp) ?_
      go_simp
      refine wpD_pure 21 (v := .pointer (some ⟨rr, 1, none⟩)) (by kernel_rfl) rfl rfl (fun _ _ _ h => h) (fun w' => by go_simp) ?_
      go_simp
      refine wpD_take 22 (v := .slice A2 kr c2) (by kernel_rfl) rfl rfl (fun _ _ _ h => h) (fun w' hC => by have hc := blk_cell hC.2.2; go_simp) ?_
      go_simp
      refine wpD_pure 23 (v := .int .i64 kr) (by kernel_rfl) rfl rfl (fun _ _ _ h => h) (fun w' => by go_simp) ?_
      go_simp
      refine wpD_pure 24 (v := .bool true) (by kernel_rfl) rfl rfl (fun _ _ _ h => h) (fun w' => by go_simp) ?_
      go_simp
      refine wpD_pure 25 (v := .bool true) (by kernel_rfl) rfl rfl (fun _ _ _ h => h) (fun w' => by go_simp) ?_
      go_simp
      refine wpD_pure 26 (v := .pointer (some ⟨p, 0, none⟩)) (by kernel_rfl) rfl rfl (fun _ _ _ h => h) (fun w' => by go_simp) ?_
      go_simp
      refine wpD_pure 27 (v := .pointer (some ⟨p, 0, none⟩)) (by kernel_rfl) rfl rfl (fun _ _ _ h => h) (fun w' => by go_simp) ?_
      go_simp
      refine wpD_pure 28 (v := .pointer (some ⟨p, 0, none⟩)) (by kernel_rfl) rfl rfl (fun _ _ _ h => h) (fun w' => by go_simp) ?_
      go_simp
      refine wpD_takeG 29 (v := .bool nx) (by kernel_rfl) rfl rfl (fun _ _ _ h => h) (fun w' hC => by have hc := blk_cell hC.1; go_simp) ?_
      go_simp
      refine wpD_pure 30 (v := .bool (nx)) (by kernel_rfl) rfl rfl (fun _ _ _ h => h) (fun w' => by go_simp) ?_
      go_simp
      refine wpD_pure 31 (v := .pointer (some ⟨p, 0, none⟩)) (by kernel_rfl) rfl rfl (fun _ _ _ h => h) (fun w' => by go_simp) ?_
      go_simp
      refine wpD_pure 32 (v := .pointer (some ⟨p, 0, none⟩)) (by kernel_rfl) rfl rfl (fun _ _ _ h => h) (fun w' => by go_simp) ?_
      go_simp
      have fp := blk_frozen hp3
      have cp := blk_cell hp3 0
      have fr := blk_frozen (blk_far hr3 (p := ⟨p, 0, none⟩) (fun e => HNE.out.2.1 e) (.bool (false)))
      have cr := blk_cell (blk_far hr3 (p := ⟨p, 0, none⟩) (fun e => HNE.out.2.1 e) (.bool (false))) 0
      simp only [List.getElem?_toArray, List.getElem?_cons_zero] at cp cr
      refine wpD_only 33 (by kernel_rfl) (fun _ => ⟨hp3, hq3, hr3⟩) rfl ?_
      go_wp2_with fail
      refine wpD_of_C (by kernel_rfl) ?_
      refine wpC_take 34 (v := .pointer (some ⟨rr, 0, none⟩)) (by kernel_rfl) rfl rfl (fun _ _ _ h => h) (fun w' hC => by go_simp) ?_
      go_simp
      refine wpC_take 35 (v := .pointer (some ⟨rr, 0, none⟩)) (by kernel_rfl) rfl rfl (fun _ _ _ h => h) (fun w' hC => by go_simp) ?_
      go_simp
      refine wpC_only 36 (by kernel_rfl) trivial rfl ?_
      go_wp2_with fail
      refine wpC_stop (by kernel_rfl) trivial ?_
      go_wp2_with fail
      have HF := HE.out (false) (nx)
      go_ret2
      refine ⟨rfl, ?_, ?_, (HK.out.step HF.2.2 (fun b hb => .inl (hb.imp (fun h => h) .inl)))⟩
      · rw [show (decide (0 < q) && (nx != ny)) = false by simp [hq0]]; exact HF.1
      · rw [show (decide (0 < r) && nx) = nx by simp [hr0]]; exact HF.2.1
  · have hq0 : 0 < q := by have := HPOS.out.1; omega
    have hkq' : (0 : Int) < (kq : Int) := by omega
    rcases Nat.eq_zero_or_pos kr with hkr | hkr
    · have hr0 : ¬ 0 < r := by have := HPOS.out.2; omega
      subst hkr
      refine wp_region_takesD (fun w' => w'.heap[p]? = some (.cells #[.bool nx, .slice A1 kq c1] 128 (0, 0)) ∧ w'.heap[q2]? = some (.cells #[.bool ny, .slice A k' c'] 128 (0, 0)) ∧ w'.heap[rr]? = some (.cells #[.bool false, .slice A2 0 c2] 128 (0, 0))) 33 (by kernel_rfl) ?_
      go_simp
      refine wpD_pure 0 (v := .pointer (some ⟨p, 0, none⟩)) (by kernel_rfl) rfl rfl (fun _ _ _ h => h) (fun w' => by go_simp) ?_
      go_simp
      refine wpD_pure 1 (v := .pointer (some ⟨rr, 0, none⟩)) (by kernel_rfl) rfl rfl (fun _ _ _ h => h) (fun w' => by go_simp) ?_
      go_simp
      refine wpD_pure 2 (v := .pointer (some ⟨p, 0, none⟩)) (by kernel_rfl) rfl rfl (fun _ _ _ h => h) (fun w' => by go_simp) ?_
      go_simp
      refine wpD_pure 3 (v := .pointer (some ⟨p, 0, none⟩)) (by kernel_rfl) rfl rfl (fun _ _ _ h => h) (fun w' => by go_simp) ?_
      go_simp
      refine wpD_pure 4 (v := .pointer (some ⟨p, 1, none⟩)) (by kernel_rfl) rfl rfl (fun _ _ _ h => h) (fun w' => by go_simp) ?_
      go_simp
      refine wpD_take 5 (v := .slice A1 kq c1) (by kernel_rfl) rfl rfl (fun _ _ _ h => h) (fun w' hC => by have hc := blk_cell hC.1; go_simp) ?_
      go_simp
      refine wpD_pure 6 (v := .int .i64 kq) (by kernel_rfl) rfl rfl (fun _ _ _ h => h) (fun w' => by go_simp) ?_
      go_simp
      refine wpD_pure 7 (v := .bool true) (by kernel_rfl) rfl rfl (fun _ _ _ h => h) (fun w' => by go_simp) ?_
      go_simp
      refine wpD_pure 8 (v := .bool true) (by kernel_rfl) rfl rfl (fun _ _ _ h => h) (fun w' => by go_simp) ?_
      go_simp
      refine wpD_pure 9 (v := .pointer (some ⟨p, 0, none⟩)) (by kernel_rfl) rfl rfl (fun _ _ _ h => h) (fun w' => by go_simp) ?_
      go_simp
      refine wpD_pure 10 (v := .pointer (some ⟨p, 0, none⟩)) (by kernel_rfl) rfl rfl (fun _ _ _ h => h) (fun w' => by go_simp) ?_
      go_simp
      refine wpD_pure 11 (v := .pointer (some ⟨p, 0, none⟩)) (by kernel_rfl) rfl rfl (fun _ _ _ h => h) (fun w' => by go_simp) ?_
      go_simp
      refine wpD_takeG 12 (v := .bool nx) (by kernel_rfl) rfl rfl (fun _ _ _ h => h) (fun w' hC => by have hc := blk_cell hC.1; go_simp) ?_
      go_simp
      refine wpD_pure 13 (v := .pointer (some ⟨q2, 0, none⟩)) (by kernel_rfl) rfl rfl (fun _ _ _ h => h) (fun w' => by go_simp) ?_
      go_simp
      refine wpD_pure 14 (v := .pointer (some ⟨q2, 0, none⟩)) (by kernel_rfl) rfl rfl (fun _ _ _ h => h) (fun w' => by go_simp) ?_
      go_simp
      refine wpD_pure 15 (v := .pointer (some ⟨q2, 0, none⟩)) (by kernel_rfl) rfl rfl (fun _ _ _ h => h) (fun w' => by go_simp) ?_
      go_simp
      refine wpD_takeG 16 (v := .bool ny) (by kernel_rfl) rfl rfl (fun _ _ _ h => h) (fun w' hC => by have hc := blk_cell hC.2.1; go_simp) ?_
      go_simp
      refine wpD_pure 17 (v := .bool (nx != ny)) (by kernel_rfl) rfl rfl (fun _ _ _ h => h) (fun w' => by go_simp; cases nx <;> cases ny <;> rfl) ?_
      go_simp
      refine wpD_pure 18 (v := .bool (nx != ny)) (by kernel_rfl) rfl rfl (fun _ _ _ h => h) (fun w' => by go_simp) ?_
      go_simp
      refine wpD_pure 19 (v := .pointer (some ⟨rr, 0, none⟩)) (by kernel_rfl) rfl rfl (fun _ _ _ h => h) (fun w' => by go_simp) ?_
      go_simp
      refine wpD_pure 20 (v := .pointer (some ⟨rr, 0, none⟩)) (by kernel_rfl) rfl rfl (fun _ _ _ h => h) (fun w' => by go_simp) ?_
      go_simp
      refine wpD_pure 21 (v := .pointer (some ⟨rr, 1, none⟩)) (by kernel_rfl) rfl rfl (fun _ _ _ h => h) (fun w' => by go_simp) ?_
      go_simp
      refine wpD_take 22 (v := .slice A2 0 c2) (by kernel_rfl) rfl rfl (fun _ _ _ h => h) (fun w' hC => by have hc := blk_cell hC.2.2; go_simp) ?_
      go_simp
      refine wpD_pure 23 (v := .int .i64 0) (by kernel_rfl) rfl rfl (fun _ _ _ h => h) (fun w' => by go_simp) ?_
      go_simp
      refine wpD_pure 24 (v := .bool false) (by kernel_rfl) rfl rfl (fun _ _ _ h => h) (fun w' => by go_simp) ?_
      go_simp
      refine wpD_pure 25 (v := .bool false) (by kernel_rfl) rfl rfl (fun _ _ _ h => h) (fun w' => by go_simp) ?_
      go_simp
      refine wpD_none 26 (by kernel_rfl) rfl rfl (fun _ _ _ h => h) ?_
      go_simp
      refine wpD_none 27 (by kernel_rfl) rfl rfl (fun _ _ _ h => h) ?_
      go_simp
      refine wpD_none 28 (by kernel_rfl) rfl rfl (fun _ _ _ h => h) ?_
      go_simp
      refine wpD_none 29 (by kernel_rfl) rfl rfl (fun _ _ _ h => h) ?_
      go_simp
      refine wpD_pure 30 (v := .bool (false)) (by kernel_rfl) rfl rfl (fun _ _ _ h => h) (fun w' => by go_simp) ?_
      go_simp
      refine wpD_pure 31 (v := .pointer (some ⟨p, 0, none⟩)) (by kernel_rfl) rfl rfl (fun _ _ _ h => h) (fun w' => by go_simp) ?_
      go_simp
      refine wpD_pure 32 (v := .pointer (some ⟨p, 0, none⟩)) (by kernel_rfl) rfl rfl (fun _ _ _ h => h) (fun w' => by go_simp) ?_
      go_simp
      have fp := blk_frozen hp3
      have cp := blk_cell hp3 0
      have fr := blk_frozen (blk_far hr3 (p := ⟨p, 0, none⟩) (fun e => HNE.out.2.1 e) (.bool (nx != ny)))
      have cr := blk_cell (blk_far hr3 (p := ⟨p, 0, none⟩) (fun e => HNE.out.2.1 e) (.bool (nx != ny))) 0
      simp only [List.getElem?_toArray, List.getElem?_cons_zero] at cp cr
      refine wpD_only 33 (by kernel_rfl) (fun _ => ⟨hp3, hq3, hr3⟩) rfl ?_
      go_wp2_with fail
      refine wpD_of_C (by kernel_rfl) ?_
      refine wpC_take 34 (v := .pointer (some ⟨rr, 0, none⟩)) (by kernel_rfl) rfl rfl (fun _ _ _ h => h) (fun w' hC => by go_simp) ?_
      go_simp
      refine wpC_take 35 (v := .pointer (some ⟨rr, 0, none⟩)) (by kernel_rfl) rfl rfl (fun _ _ _ h => h) (fun w' hC => by go_simp) ?_
      go_simp
      refine wpC_only 36 (by kernel_rfl) trivial rfl ?_
      go_wp2_with fail
      refine wpC_stop (by kernel_rfl) trivial ?_
      go_wp2_with fail
      have HF := HE.out (nx != ny) (false)
      go_ret2
      refine ⟨rfl, ?_, ?_, (HK.out.step HF.2.2 (fun b hb => .inl (hb.imp (fun h => h) .inl)))⟩
      · rw [show (decide (0 < q) && (nx != ny)) = (nx != ny) by simp [hq0]]; exact HF.1
      · rw [show (decide (0 < r) && nx) = false by simp [hr0]]; exact HF.2.1
    · have hr0 : 0 < r := by have := HPOS.out.2; omega
      have hkr' : (0 : Int) < (kr : Int) := by omega
      refine wp_region_takesD (fun w' => w'.heap[p]? = some (.cells #[.bool nx, .slice A1 kq c1] 128 (0, 0)) ∧ w'.heap[q2]? = some (.cells #[.bool ny, .slice A k' c'] 128 (0, 0)) ∧ w'.heap[rr]? = some (.cells #[.bool false, .slice A2 kr c2] 128 (0, 0))) 33 (by kernel_rfl) ?_
      go_simp
      refine wpD_pure 0 (v := .pointer (some ⟨p, 0, none⟩)) (by kernel_rfl) rfl rfl (fun _ _ _ h => h) (fun w' => by go_simp) ?_
      go_simp
      refine wpD_pure 1 (v := .pointer (some ⟨rr, 0, none⟩)) (by kernel_rfl) rfl rfl (fun _ _ _ h => h) (fun w' => by go_simp) ?_
      go_simp
      refine wpD_pure 2 (v := .pointer (some ⟨p, 0, none⟩)) (by kernel_rfl) rfl rfl (fun _ _ _ h => h) (fun w' => by go_simp) ?_
      go_simp
      refine wpD_pure 3 (v := .pointer (some ⟨p, 0, none⟩)) (by kernel_rfl) rfl rfl (fun _ _ _ h => h) (fun w' => by go_simp) ?_
      go_simp
      refine wpD_pure 4 (v := .pointer (some ⟨p, 1, none⟩)) (by kernel_rfl) rfl rfl (fun _ _ _ h => h) (fun w' => by go_simp) ?_
      go_simp
      refine wpD_take 5 (v := .slice A1 kq c1) (by kernel_rfl) rfl rfl (fun _ _ _ h => h) (fun w' hC => by have hc := blk_cell hC.1; go_simp) ?_
      go_simp
      refine wpD_pure 6 (v := .int .i64 kq) (by kernel_rfl) rfl rfl (fun _ _ _ h => h) (fun w' => by go_simp) ?_
      go_simp
      refine wpD_pure 7 (v := .bool true) (by kernel_rfl) rfl rfl (fun _ _ _ h => h) (fun w' => by go_simp) ?_
      go_simp
      refine wpD_pure 8 (v := .bool true) (by kernel_rfl) rfl rfl (fun _ _ _ h => h) (fun w' => by go_simp) ?_
      go_simp
      refine wpD_pure 9 (v := .pointer (some ⟨p, 0, none⟩)) (by kernel_rfl) rfl rfl (fun _ _ _ h => h) (fun w' => by go_simp) ?_
      go_simp
      refine wpD_pure 10 (v := .pointer (some ⟨p, 0, none⟩)) (by kernel_rfl) rfl rfl (fun _ _ _ h => h) (fun w' => by go_simp) ?_
      go_simp
      refine wpD_pure 11 (v := .pointer (some ⟨p, 0, none⟩)) (by kernel_rfl) rfl rfl (fun _ _ _ h => h) (fun w' => by go_simp) ?_
      go_simp
      refine wpD_takeG 12 (v := .bool nx) (by kernel_rfl) rfl rfl (fun _ _ _ h => h) (fun w' hC => by have hc := blk_cell hC.1; go_simp) ?_
      go_simp
      refine wpD_pure 13 (v := .pointer (some ⟨q2, 0, none⟩)) (by kernel_rfl) rfl rfl (fun _ _ _ h => h) (fun w' => by go_simp) ?_
      go_simp
      refine wpD_pure 14 (v := .pointer (some ⟨q2, 0, none⟩)) (by kernel_rfl) rfl rfl (fun _ _ _ h => h) (fun w' => by go_simp) ?_
      go_simp
      refine wpD_pure 15 (v := .pointer (some ⟨q2, 0, none⟩)) (by kernel_rfl) rfl rfl (fun _ _ _ h => h) (fun w' => by go_simp) ?_
      go_simp
      refine wpD_takeG 16 (v := .bool ny) (by kernel_rfl) rfl rfl (fun _ _ _ h => h) (fun w' hC => by have hc := blk_cell hC.2.1; go_simp) ?_
      go_simp
      refine wpD_pure 17 (v := .bool (nx != ny)) (by kernel_rfl) rfl rfl (fun _ _ _ h => h) (fun w' => by go_simp; cases nx <;> cases ny <;> rfl) ?_
      go_simp
      refine wpD_pure 18 (v := .bool (nx != ny)) (by kernel_rfl) rfl rfl (fun _ _ _ h => h) (fun w' => by go_simp) ?_
      go_simp
      refine wpD_pure 19 (v := .pointer (some ⟨rr, 0, none⟩)) (by kernel_rfl) rfl rfl (fun _ _ _ h => h) (fun w' => by go_simp) ?_
      go_simp
      refine wpD_pure 20 (v := .pointer (some ⟨rr, 0, none⟩)) (by kernel_rfl) rfl rfl (fun _ _ _ h => h) (fun w' => by go_simp) ?_
      go_simp
      refine wpD_pure 21 (v := .pointer (some ⟨rr, 1, none⟩)) (by kernel_rfl) rfl rfl (fun _ _ _ h => h) (fun w' => by go_simp) ?_
      go_simp
      refine wpD_take 22 (v := .slice A2 kr c2) (by kernel_rfl) rfl rfl (fun _ _ _ h => h) (fun w' hC => by have hc := blk_cell hC.2.2; go_simp) ?_
      go_simp
      refine wpD_pure 23 (v := .int .i64 kr) (by kernel_rfl) rfl rfl (fun _ _ _ h => h) (fun w' => by go_simp) ?_
      go_simp
      refine wpD_pure 24 (v := .bool true) (by kernel_rfl) rfl rfl (fun _ _ _ h => h) (fun w' => by go_simp) ?_
      go_simp
      refine wpD_pure 25 (v := .bool true) (by kernel_rfl) rfl rfl (fun _ _ _ h => h) (fun w' => by go_simp) ?_
      go_simp
      refine wpD_pure 26 (v := .pointer (some ⟨p, 0, none⟩)) (by kernel_rfl) rfl rfl (fun _ _ _ h => h) (fun w' => by go_simp) ?_
      go_simp
      refine wpD_pure 27 (v := .pointer (some ⟨p, 0, none⟩)) (by kernel_rfl) rfl rfl (fun _ _ _ h => h) (fun w' => by go_simp) ?_
      go_simp
      refine wpD_pure 28 (v := .pointer (some ⟨p, 0, none⟩)) (by kernel_rfl) rfl rfl (fun _ _ _ h => h) (fun w' => by go_simp) ?_
      go_simp
      refine wpD_takeG 29 (v := .bool nx) (by kernel_rfl) rfl rfl (fun _ _ _ h => h) (fun w' hC => by have hc := blk_cell hC.1; go_simp) ?_
      go_simp
      refine wpD_pure 30 (v := .bool (nx)) (by kernel_rfl) rfl rfl (fun _ _ _ h => h) (fun w' => by go_simp) ?_
      go_simp
      refine wpD_pure 31 (v := .pointer (some ⟨p, 0, none⟩)) (by kernel_rfl) rfl rfl (fun _ _ _ h => h) (fun w' => by go_simp) ?_
      go_simp
      refine wpD_pure 32 (v := .pointer (some ⟨p, 0, none⟩)) (by kernel_rfl) rfl rfl (fun _ _ _ h => h) (fun w' => by go_simp) ?_
      go_simp
      have fp := blk_frozen hp3
      have cp := blk_cell hp3 0
      have fr := blk_frozen (blk_far hr3 (p := ⟨p, 0, none⟩) (fun e => HNE.out.2.1 e) (.bool (nx != ny)))
      have cr := blk_cell (blk_far hr3 (p := ⟨p, 0, none⟩) (fun e => HNE.out.2.1 e) (.bool (nx != ny))) 0
      simp only [List.getElem?_toArray, List.getElem?_cons_zero] at cp cr
      refine wpD_only 33 (by kernel_rfl) (fun _ => ⟨hp3, hq3, hr3⟩) rfl ?_
      go_wp2_with fail
      refine wpD_of_C (by kernel_rfl) ?_
      refine wpC_take 34 (v := .pointer (some ⟨rr, 0, none⟩)) (by kernel_rfl) rfl rfl (fun _ _ _ h => h) (fun w' hC => by go_simp) ?_
      go_simp
      refine wpC_take 35 (v := .pointer (some ⟨rr, 0, none⟩)) (by kernel_rfl) rfl rfl (fun _ _ _ h => h) (fun w' hC => by go_simp) ?_
      go_simp
      refine wpC_only 36 (by kernel_rfl) trivial rfl ?_
      go_wp2_with fail
      refine wpC_stop (by kernel_rfl) trivial ?_
      go_wp2_with fail
      have HF := HE.out (nx != ny) (nx)
      go_ret2
      refine ⟨rfl, ?_, ?_, (HK.out.step HF.2.2 (fun b hb => .inl (hb.imp (fun h => h) .inl)))⟩
      · rw [show (decide (0 < q) && (nx != ny)) = (nx != ny) by simp [hq0]]; exact HF.1
      · rw [show (decide (0 < r) && nx) = nx by simp [hr0]]; exact HF.2.1
end Go.Proofs.YtamkglgiaiejkaaGreatDoor
