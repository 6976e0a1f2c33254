import Derived.Test.YtamkglgiaiejkaaGreatDoorYx41
/-! Which decimals are asked. -/
namespace Go.Proofs.YtamkglgiaiejkaaGreatDoor
open Go.RowKit

/-- A number comes back, and whether it is asked; if it is, so much is known. -/
def Asked (w : World) (P : Value → World → Prop) (e : Ending) (w' : World) : Prop := ∃ (b ok : Bool) (A : Option Addr) (n c : Nat), e = .returned (.tuple #[.agg #[.bool b, .slice A n c], .bool ok]) ∧ Keep (fun _ => False) w w' ∧ (ok = true → P (.agg #[.bool b, .slice A n c]) w')
set_option maxRecDepth 100000 in
set_option maxHeartbeats 8000000 in
theorem fitsIn6 (v : Value) (l : List Nat) (p s : Int) (w : World) (hv : WordsV w v l) : Calls Tryz.prog 6 #[.int .i64 128, v, .int .i64 p, .int .i64 s] w (Asked w (fun r w' => l.length = 2 ∧ 1 ≤ p ∧ p ≤ 38 ∧ WV w' r (toI (l.getD 0 0) (l.getD 1 0)) ∧ (declen (toI (l.getD 0 0) (l.getD 1 0)).natAbs : Int) ≤ p)) := by
  have hb0 := blk_new w (.cells #[.bool false, .slice none 0 0] 29)
  have hk0 : Keep (fun _ => False) w (w.alloc (.cells #[.bool false, .slice none 0 0] 29)) := (Keep.refl _ w).alloc _
  have hv1 := hv.keep hk0
  by_cases h2 : l.length = 2
  · obtain ⟨hw2, hlo, hhi⟩ := hv1.two h2
    have HD := Lib.hid (decimal17 v _ _ _ hw2 hlo hhi)
    obtain ⟨x, hx⟩ : ∃ x, x = toI (l.getD 0 0) (l.getD 1 0) := ⟨_, rfl⟩
    have hx9 : (digs x.natAbs).length ≤ 4 := digs_length_le (by rw [hx]; unfold toI; split <;> omega)
    rw [← hx] at HD ⊢
    obtain ⟨A, c, rfl, _, _⟩ := hv
    rw [h2] at HD hw2 ⊢
    have HK := Lib.hid hk0
    clear hx hv1 hw2 hlo hhi h2 hk0
    go_enter Tryz.func6, Tryz.ntmps6
    go_wp2_with fail
    generalize w.alloc (.cells #[.bool false, .slice none 0 0] 29) = w0 at *
    refine HD.out.mono ?_
    rintro e w1 ⟨r, rfl, hr, hk1⟩
    have hb1 := hk1.blk hb0 (fun h => h)
    have hr0 := hr
    obtain ⟨m1, rfl, hm1⟩ := hr
    have hm1' := hm1
    obtain ⟨A1, c1, rfl, _, _⟩ := hm1'
    have hl1 := blk_lt hb1
    have hkz : Keep (fun _ => False) w1 (w1.alloc (.cells #[.bool (decide (x < 0)), .slice A1 (digs x.natAbs).length c1] 29)) := (Keep.refl _ w1).alloc _
    have hn1 := blk_new w1 (.cells #[.bool (decide (x < 0)), .slice A1 (digs x.natAbs).length c1] 29)
    have hcn := blk_cell hn1
    have HG := Lib.hid (digits8 _ x _ (hr0.keep hkz (fun _ _ h => h)) (by omega))
    have HP := Lib.hid (precision18 (w1.alloc (.cells #[.bool (decide (x < 0)), .slice A1 (digs x.natAbs).length c1] 29)))
    have HM := Lib.hid (And.intro hm1 (HK.out.trans hk1))
    clear hr0 hm1 hkz hk1 HD
    -- the end, whether it is asked or not
    have HE : ∀ (w2 : World) (_ : Keep (fun _ => False) (w1.alloc (.cells #[.bool (decide (x < 0)), .slice A1 (digs x.natAbs).length c1] 29)) w2), MagV w2 (.slice A1 (digs x.natAbs).length c1) (digs x.natAbs) ∧ w2.heap[w.heap.size]? = some (.cells #[.bool false, .slice none 0 0] 29 (0, 0)) ∧ Keep (fun _ => False) w w2 ∧ w2.heap[w1.heap.size]? = some (.cells #[.bool (decide (x < 0)), .slice A1 (digs x.natAbs).length c1] 29 (0, 0)) := fun w2 hk2 =>
      ⟨(HM.out.1.keep ((Keep.refl (fun _ => False) w1).alloc _) (fun _ _ h => h)).keep hk2 (fun _ _ h => h), hk2.blk (blk_alloc hb1 _) (fun h => h), (HM.out.2.alloc _).trans hk2, hk2.blk hn1 (fun h => h)⟩
    have HE := Lib.hid HE
    obtain ⟨dl, hdl⟩ : ∃ d, d = declen x.natAbs := ⟨_, rfl⟩
    rw [← hdl] at HG
    have HDL := Lib.hid hdl
    have HB1 := Lib.hid hb1
    clear hdl hb0 hn1 hb1
    by_cases c1' : p < 1
    · clear HG HP
      have hc3 := blk_cell HB1.out
      have hf3 := blk_frozen HB1.out
      obtain ⟨hl1, hl2, _⟩ := wide_laid HB1.out HM.out.1 (decide (x < 0))
      have hbE := blk_alloc (blk_set (blk_set HB1.out 0 (.bool (decide (x < 0)))) 1 (.slice A1 (digs x.natAbs).length c1)) (.cells #[.bool (decide (x < 0)), .slice A1 (digs x.natAbs).length c1] 29)
      have hkE := (HM.out.2.step hl2 (fun b hb => .inr (by have h' : b = w.heap.size := hb; omega))).alloc (.cells #[.bool (decide (x < 0)), .slice A1 (digs x.natAbs).length c1] 29)
      have HL := Lib.hid (And.intro hkE hbE)
      clear hl1 hl2 hkE hbE
      go_wp2_with fail
      have hl3 := blk_cell HL.out.2
      exact bodyPost_ret (v := .tuple #[.agg #[.bool (decide (x < 0)), .slice A1 (digs x.natAbs).length c1], .bool false]) (by simp [results, Tryz.results6, go_sem, hl3]) rfl ⟨_, _, _, _, _, rfl, HL.out.1, fun h => by cases h⟩
    · have HG2 := Lib.hid (fun w' (hk' : Keep (fun _ => False) (w1.alloc (.cells #[.bool (decide (x < 0)), .slice A1 (digs x.natAbs).length c1] 29)) w') => digits8 (.agg #[.bool (decide (x < 0)), .slice A1 (digs x.natAbs).length c1]) x w' ⟨_, rfl, (HE.out w' hk').1⟩ (by omega))
      rw [← HDL.out] at HG2
      clear HG
      by_cases c2' : p > 38
      · have c2'' : (38 : Int) < p := c2'
        go_wp2_with fail
        refine HP.out.mono ?_
        rintro e w2 ⟨rfl, hk2⟩
        obtain ⟨e1, e2, e3, e4⟩ := HE.out w2 hk2
        have hc4 := blk_cell e4
        have hc3 := blk_cell e2
        have hf3 := blk_frozen e2
        obtain ⟨hl1, hl2, hl3⟩ := wide_laid e2 e1 (decide (x < 0))
        have hkE := e3.step hl2 (fun b hb => .inr (by have h' : b = w.heap.size := hb; omega))
        have HL := Lib.hid (And.intro hkE hl1)
        clear hl1 hl2 hkE e1 e2 e3 e4 hk2
        go_wp2_with fail
        exact bodyPost_ret (v := .tuple #[.agg #[.bool (decide (x < 0)), .slice A1 (digs x.natAbs).length c1], .bool false]) (by simp [results, Tryz.results6, go_sem, hl3]) rfl ⟨_, _, _, _, _, rfl, HL.out.1, fun h => by cases h⟩
      · by_cases c3' : s < 0
        · have c2'' : ¬ (38 : Int) < p := c2'
          go_wp2_with fail
          refine HP.out.mono ?_
          rintro e w2 ⟨rfl, hk2⟩
          obtain ⟨e1, e2, e3, e4⟩ := HE.out w2 hk2
          have hc4 := blk_cell e4
          have hc3 := blk_cell e2
          have hf3 := blk_frozen e2
          obtain ⟨hl1, hl2, hl3⟩ := wide_laid e2 e1 (decide (x < 0))
          have hkE := e3.step hl2 (fun b hb => .inr (by have h' : b = w.heap.size := hb; omega))
          have HL := Lib.hid (And.intro hkE hl1)
          clear hl1 hl2 hkE e1 e2 e3 e4 hk2
          go_wp2_with fail
          exact bodyPost_ret (v := .tuple #[.agg #[.bool (decide (x < 0)), .slice A1 (digs x.natAbs).length c1], .bool false]) (by simp [results, Tryz.results6, go_sem, hl3]) rfl ⟨_, _, _, _, _, rfl, HL.out.1, fun h => by cases h⟩
        · by_cases c4' : p < s
          · have c2'' : ¬ (38 : Int) < p := c2'
            go_wp2_with fail
            refine HP.out.mono ?_
            rintro e w2 ⟨rfl, hk2⟩
            obtain ⟨e1, e2, e3, e4⟩ := HE.out w2 hk2
            have hc4 := blk_cell e4
            have hc3 := blk_cell e2
            have hf3 := blk_frozen e2
            obtain ⟨hl1, hl2, hl3⟩ := wide_laid e2 e1 (decide (x < 0))
            have hkE := e3.step hl2 (fun b hb => .inr (by have h' : b = w.heap.size := hb; omega))
            have HL := Lib.hid (And.intro hkE hl1)
            clear hl1 hl2 hkE e1 e2 e3 e4 hk2
            go_wp2_with fail
            exact bodyPost_ret (v := .tuple #[.agg #[.bool (decide (x < 0)), .slice A1 (digs x.natAbs).length c1], .bool false]) (by simp [results, Tryz.results6, go_sem, hl3]) rfl ⟨_, _, _, _, _, rfl, HL.out.1, fun h => by cases h⟩
          · by_cases c5' : p < (dl : Int)
            · have c2'' : ¬ (38 : Int) < p := c2'
              go_wp2_with fail
              refine HP.out.mono ?_
              rintro e w2 ⟨rfl, hk2⟩
              have HG := Lib.hid (HG2.out w2 hk2)
              have hc2 := blk_cell (HE.out w2 hk2).2.2.2
              go_wp2_with fail
              refine HG.out.mono ?_
              rintro e w3 ⟨rfl, hk3⟩
              have hk2 := hk2.trans hk3
              obtain ⟨e1, e2, e3, e4⟩ := HE.out w3 hk2
              have hc4 := blk_cell e4
              have hc3 := blk_cell e2
              have hf3 := blk_frozen e2
              obtain ⟨hl1, hl2, hl3⟩ := wide_laid e2 e1 (decide (x < 0))
              have hkE := e3.step hl2 (fun b hb => .inr (by have h' : b = w.heap.size := hb; omega))
              have HL := Lib.hid (And.intro hkE hl1)
              clear hl1 hl2 hkE e1 e2 e3 e4 hk2 hk3
              go_wp2_with fail
              exact bodyPost_ret (v := .tuple #[.agg #[.bool (decide (x < 0)), .slice A1 (digs x.natAbs).length c1], .bool false]) (by simp [results, Tryz.results6, go_sem, hl3]) rfl ⟨_, _, _, _, _, rfl, HL.out.1, fun h => by cases h⟩
            · have c2'' : ¬ (38 : Int) < p := c2'
              go_wp2_with fail
              refine HP.out.mono ?_
              rintro e w2 ⟨rfl, hk2⟩
              have HG := Lib.hid (HG2.out w2 hk2)
              have hc2 := blk_cell (HE.out w2 hk2).2.2.2
              go_wp2_with fail
              refine HG.out.mono ?_
              rintro e w3 ⟨rfl, hk3⟩
              have hk2 := hk2.trans hk3
              obtain ⟨e1, e2, e3, e4⟩ := HE.out w3 hk2
              have hc4 := blk_cell e4
              have hc3 := blk_cell e2
              have hf3 := blk_frozen e2
              obtain ⟨hl1, hl2, hl3⟩ := wide_laid e2 e1 (decide (x < 0))
              have hkE := e3.step hl2 (fun b hb => .inr (by have h' : b = w.heap.size := hb; omega))
              have HL := Lib.hid (And.intro hkE hl1)
              clear hl1 hl2 hkE e1 e2 e3 e4 hk2 hk3
              go_wp2_with fail
              exact bodyPost_ret (v := .tuple #[.agg #[.bool (decide (x < 0)), .slice A1 (digs x.natAbs).length c1], .bool true]) (by simp [results, Tryz.results6, go_sem, hl3]) rfl ⟨_, _, _, _, _, rfl, HL.out.1, fun _ => ⟨by simp, by omega, by omega, ⟨_, rfl, HL.out.2⟩, by have := HDL.out; omega⟩⟩
  · have HD := Lib.hid (decimal17_not v l _ hv1 h2)
    obtain ⟨A, c, rfl, _, _⟩ := hv
    generalize l.length = n at *
    have HK := Lib.hid (And.intro hk0 h2)
    clear hk0 hv1 h2
    go_enter Tryz.func6, Tryz.ntmps6
    go_wp2_with fail
    generalize w.alloc (.cells #[.bool false, .slice none 0 0] 29) = w0 at *
    refine HD.out.mono ?_
    rintro e w1 ⟨b, B, m, d, rfl, hk1⟩
    have hb1 := hk1.blk hb0 (fun h => h)
    have hl1 := blk_lt hb1
    have hc3 := blk_cell hb1
    have hf3 := blk_frozen hb1
    have hbE := blk_alloc (blk_set (blk_set hb1 0 (.bool b)) 1 (.slice B m d)) (.cells #[.bool b, .slice B m d] 29)
    have hl2 : Keep (fun b => b = w.heap.size) w1 ((w1.setCell ⟨w.heap.size, 0, none⟩ (.bool b)).setCell ⟨w.heap.size, 1, none⟩ (.slice B m d)) := ((Keep.refl (fun b => b = w.heap.size) w1).setCell (p := ⟨w.heap.size, 0, none⟩) (.inl rfl) _).setCell (p := ⟨w.heap.size, 1, none⟩) (.inl rfl) _
    have hkE := ((HK.out.1.trans hk1).step hl2 (fun b hb => .inr (by have h' : b = w.heap.size := hb; omega))).alloc (.cells #[.bool b, .slice B m d] 29)
    have hcn := blk_cell (blk_new w1 (.cells #[.bool b, .slice B m d] 29))
    have HL := Lib.hid (And.intro hkE hbE)
    clear hkE hbE hl2 hb0 hb1 HD
    go_wp2_with fail
    have hl3 := blk_cell HL.out.2
    exact bodyPost_ret (v := .tuple #[.agg #[.bool b, .slice B m d], .bool false]) (by simp [results, Tryz.results6, go_sem, hl3]) rfl ⟨_, _, _, _, _, rfl, HL.out.1, fun h => by cases h⟩
end Go.Proofs.YtamkglgiaiejkaaGreatDoor
