import Derived.Test.YtamkglgiaiejkaaGreatDoorYx19
import Derived.Defers
import Derived.Recover
import Derived.LaidEqlPtr
/-! Natural numbers of words: long division, the plain part. -/
namespace Go.Proofs.YtamkglgiaiejkaaGreatDoor
open Go.RowKit

theorem pros2 (v0 v1 q : Nat) : pros [v0, v1] q 0 2 = [v0 * q % 18446744073709551616, (v1 * q + v0 * q / 18446744073709551616) % 18446744073709551616] ∧ carK [v0, v1] q 0 2 = (v1 * q + v0 * q / 18446744073709551616) / 18446744073709551616 := by
  simp [pros, proK, carK, List.range_succ]
theorem mul2_val {X0 X1 a b c : Nat} (ha : a = X0 % 18446744073709551616) (hb : b = (X1 + X0 / 18446744073709551616) % 18446744073709551616) (hc : c = (X1 + X0 / 18446744073709551616) / 18446744073709551616) : a + 18446744073709551616 * b + 340282366920938463463374607431768211456 * c = X0 + 18446744073709551616 * X1 := by omega
theorem sub3_val {u0 u1 u2 p0 p1 p2 R : Nat} (hu0 : u0 < 18446744073709551616) (hu1 : u1 < 18446744073709551616) (hu2 : u2 < 18446744073709551616) (hp0 : p0 < 18446744073709551616) (hp1 : p1 < 18446744073709551616) (hp2 : p2 < 18446744073709551616)
    (h : u0 + 18446744073709551616 * u1 + 340282366920938463463374607431768211456 * u2 = p0 + 18446744073709551616 * p1 + 340282366920938463463374607431768211456 * p2 + R) (hR : R < 340282366920938463463374607431768211456) :
    borK [u0, u1, u2] [p0, p1, p2] 3 = 0 ∧ difs [u0, u1, u2] [p0, p1, p2] 3 = [R % 18446744073709551616, R / 18446744073709551616, 0] := by
  simp only [difs, difK, borK, List.range_succ, List.range_zero, List.nil_append, List.map_cons, List.map_nil, List.cons_append, List.getD_cons_zero, List.getD_cons_succ, Nat.add_zero, Nat.sub_zero]
  by_cases h0 : u0 < p0
  · rw [if_pos h0]
    by_cases h1 : u1 < p1 + 1
    · rw [if_pos h1]
      refine ⟨by rw [if_neg (by omega)], ?_⟩
      congr 1
      · omega
      · congr 1
        · omega
        · congr 1
          omega
    · rw [if_neg h1]
      refine ⟨by rw [if_neg (by omega)], ?_⟩
      congr 1
      · omega
      · congr 1
        · omega
        · congr 1
          omega
  · rw [if_neg h0]
    by_cases h1 : u1 < p1 + 0
    · rw [if_pos h1]
      refine ⟨by rw [if_neg (by omega)], ?_⟩
      congr 1
      · omega
      · congr 1
        · omega
        · congr 1
          omega
    · rw [if_neg h1]
      refine ⟨by rw [if_neg (by omega)], ?_⟩
      congr 1
      · omega
      · congr 1
        · omega
        · congr 1
          omega
theorem sub2_zero (u1 u2 : Nat) (h1 : u1 < 18446744073709551616) (h2 : u2 < 18446744073709551616) : borK [u1, u2] [0, 0] 2 = 0 ∧ difs [u1, u2] [0, 0] 2 = [u1, u2] := by
  simp [difs, difK, borK, List.range_succ, Nat.mod_eq_of_lt h1, Nat.mod_eq_of_lt h2]
set_option maxRecDepth 100000 in
set_option maxHeartbeats 4000000 in
theorem restoreD (k : Nat) (n : Int) (u : FrameMode) (w : World) (hb : w.heap[k]? = some (.cells #[.pointer none] 209 (0, 0))) : CallsD Tryz.prog 161 #[.pointer (some ⟨k, 0, none⟩), .int .i64 n] u w fun e u' w' => u' = u ∧ e = .returned (.tuple #[]) ∧ w' = w := by
  have hc := blk_cell hb 0
  have hf := blk_frozen hb
  go_enter_d Tryz.func161, Tryz.ntmps161
  go_wp2_with fail
  (try simp only [Exit.inBlock, Exit.then])
  refine bodyPost_ret (results_none rfl _ _ _) rfl ?_
  exact ⟨rfl, rfl⟩
set_option maxRecDepth 100000 in
set_option maxHeartbeats 4000000 in
theorem alias166 (g n ub : Nat) (hne : g ≠ ub) (w : World) {ca cb : Array Value} (hg : w.heap[g]? = some (.cells ca 150 (0, 0))) (hu : w.heap[ub]? = some (.cells cb 150 (0, 0))) : Calls Tryz.prog 166 #[.slice (some ⟨g, 0, none⟩) n 2, .slice (some ⟨ub, 0, none⟩) 3 7] w fun e w' => e = .returned (.bool false) ∧ Keep (fun _ => False) w w' := by
  have HE := fun nq => run_eql_ptr_other (P := Tryz.prog) (w.drewN nq) (tp := 216) (te := 150) (a := ⟨g, 1, none⟩) (b := ⟨ub, 6, none⟩) (by kernel_rfl) (show Tryz.prog.info? 150 = some _ from rfl) (by decide) (fun h => hne (congrArg Addr.block h)) (blk_drewN hg nq) (blk_drewN hu nq)
  have w1 : IntKind.i64.wrap 1 = 1 := by kernel_rfl
  have w6 : IntKind.i64.wrap 6 = 6 := by kernel_rfl
  go_enter Tryz.func166, Tryz.ntmps166
  go_wp2_with fail
  go_quiet (fail)
  go_wp2_with fail
  go_ret
  exact ⟨rfl, (Keep.refl _ _).drewN _⟩
end Go.Proofs.YtamkglgiaiejkaaGreatDoor

/-! Natural numbers of words: long division by two words. -/
namespace Go.Proofs.YtamkglgiaiejkaaGreatDoor
open Go.RowKit

/-- A number of two words is multiplied by a word. -/
theorem vtimes216 (hb hc vb vc v0 v1 q : Nat) (cs : Array Value) (w : World) (hcs : w.heap[hb]? = some (.cells cs 150 (0, 0))) (hsz : 3 ≤ cs.size) (hv : Words w vb 0 [v0, v1]) (hne : vb ≠ hb) (hv0 : v0 < 18446744073709551616) (hv1 : v1 < 18446744073709551616) (hq : q < 18446744073709551616) :
    Calls Tryz.prog 216 #[.slice (some ⟨hb, 0, none⟩) 2 hc, .slice (some ⟨vb, 0, none⟩) 2 vc, .int .u64 q, .int .u64 0] w fun e w' => ∃ n : Nat, e = .returned (.int .u64 n) ∧ ∃ p0 p1 : Nat, p0 < 18446744073709551616 ∧ p1 < 18446744073709551616 ∧ n < 18446744073709551616 ∧ p0 + 18446744073709551616 * p1 + 340282366920938463463374607431768211456 * n = (v1 * 18446744073709551616 + v0) * q ∧ w'.heap[hb]? = some (.cells (putW cs 0 [p0, p1]) 150 (0, 0)) ∧ Keep (fun b => b = hb) w w' := by
  refine mulAdd216 _ _ _ _ w (fun n w' => ∃ p0 p1 : Nat, p0 < 18446744073709551616 ∧ p1 < 18446744073709551616 ∧ n < 18446744073709551616 ∧ p0 + 18446744073709551616 * p1 + 340282366920938463463374607431768211456 * n = (v1 * 18446744073709551616 + v0) * q ∧ w'.heap[hb]? = some (.cells (putW cs 0 [p0, p1]) 150 (0, 0)) ∧ Keep (fun b => b = hb) w w') ?_
  have hx9 : ∀ k, [v0, v1].getD k 0 < 18446744073709551616 := fun k => by
    match k with
    | 0 => exact hv0
    | 1 => exact hv1
    | k + 2 => exact (by decide : (0 : Nat) < 18446744073709551616)
  refine (mulAdd239 hb 0 hc vb 0 vc [v0, v1] q 0 2 cs w rfl (by decide) hcs (by omega) hv hne hx9 hq (by decide)).mono ?_
  rintro e w' ⟨rfl, h1, h2⟩
  have hcl := carK_lt (xs := [v0, v1]) (y := q) (r := 0) hx9 hq (by decide) 2
  obtain ⟨e1, e2⟩ := pros2 v0 v1 q
  rw [e1] at h1
  rw [e2] at hcl ⊢
  refine ⟨_, rfl, _, _, Nat.mod_lt _ (by decide), Nat.mod_lt _ (by decide), hcl, ?_, h1, h2⟩
  rw [mul2_val (X0 := v0 * q) (X1 := v1 * q) rfl rfl rfl, Nat.add_mul, Nat.mul_right_comm v1]
  generalize v0 * q = a
  generalize v1 * q = b
  omega
/-- Words are taken off. -/
theorem usub136 (zb zo zc yb yc : Nat) (xs ys : List Nat) (n : Nat) (cs : Array Value) (w : World) (hn : xs.length = n) (hn' : ys.length = n) (hn9 : n ≤ 100) (hz : w.heap[zb]? = some (.cells cs 150 (0, 0))) (hxs : ∀ k, k < n → cs[zo + k]? = some (.int .u64 (xs.getD k 0 : Nat))) (hys : Words w yb 0 ys) (hne : yb ≠ zb) (rs : List Nat) (h0 : borK xs ys n = 0) (hr : difs xs ys n = rs) :
    Calls Tryz.prog 136 #[.slice (some ⟨zb, zo, none⟩) n zc, .slice (some ⟨zb, zo, none⟩) n zc, .slice (some ⟨yb, 0, none⟩) n yc] w fun e w' => ∃ k : Nat, e = .returned (.int .u64 k) ∧ k = 0 ∧ w'.heap[zb]? = some (.cells (putW cs zo rs) 150 (0, 0)) ∧ Keep (fun b => b = zb) w w' := by
  refine subVV136 _ _ _ w (fun k w' => k = 0 ∧ w'.heap[zb]? = some (.cells (putW cs zo rs) 150 (0, 0)) ∧ Keep (fun b => b = zb) w w') ?_
  refine (subVV173 zb zo zc yb 0 yc xs ys n cs w hn hn' hn9 hz hxs hys hne).mono ?_
  rintro e w' ⟨rfl, h1, h2⟩
  rw [hr] at h1
  exact ⟨_, rfl, h0, h1, h2⟩
end Go.Proofs.YtamkglgiaiejkaaGreatDoor

/-! Natural numbers of words: long division by two words, walked. -/
namespace Go.Proofs.YtamkglgiaiejkaaGreatDoor
open Go.RowKit

/-- The row of words of the number that is divided. -/
abbrev uRow (u0 u1 u2 : Nat) (ur : List Value) : Array Value := (.int .u64 u0 :: .int .u64 u1 :: .int .u64 u2 :: ur).toArray
theorem uRow_cells {w : World} {g u0 u1 u2 : Nat} {ur : List Value} (h : w.heap[g]? = some (.cells (uRow u0 u1 u2 ur) 150 (0, 0))) : w.cell? ⟨g, 0, none⟩ = some (.int .u64 u0) ∧ w.cell? ⟨g, 1, none⟩ = some (.int .u64 u1) ∧ w.cell? ⟨g, 2, none⟩ = some (.int .u64 u2) :=
  ⟨blk_cell h 0, blk_cell h 1, blk_cell h 2⟩
theorem pRow {cs : Array Value} (h : 3 ≤ cs.size) (p0 p1 p2 : Nat) : ((putW cs 0 [p0, p1]).setIfInBounds 2 (.int .u64 p2))[0]? = some (.int .u64 p0) ∧ ((putW cs 0 [p0, p1]).setIfInBounds 2 (.int .u64 p2))[1]? = some (.int .u64 p1) ∧ ((putW cs 0 [p0, p1]).setIfInBounds 2 (.int .u64 p2))[2]? = some (.int .u64 p2) ∧ ((putW cs 0 [p0, p1]).setIfInBounds 2 (.int .u64 p2)).size = cs.size := by
  have h0 : 0 < cs.size := by omega
  have h1 : 1 < cs.size := by omega
  have h2 : 2 < cs.size := by omega
  refine ⟨?_, ?_, ?_, ?_⟩ <;> simp [putW, h0, h1, h2]
theorem first_guess {u2 u1 u0 v1 v0 U : Nat} (hU : U = u2 * 18446744073709551616 + u1) (hu2 : u2 < v1) (hu1 : u1 < 18446744073709551616) (hu0 : u0 < 18446744073709551616) (hv0 : v0 < 18446744073709551616) (hv1 : v1 < 18446744073709551616) (htop : 18446744073709551616 ≤ 2 * v1) :
    U < v1 * 18446744073709551616 + v0 ∧ U / v1 < 18446744073709551616 ∧ Guess 18446744073709551616 v1 v0 U u0 (U / v1) (U % v1) := by
  have h0 : 0 < v1 := by omega
  have h1 : U < v1 * 18446744073709551616 := by omega
  have h2 : U < v1 * 18446744073709551616 + v0 := Nat.lt_of_lt_of_le h1 (Nat.le_add_right _ _)
  obtain ⟨g1, g2⟩ := guess_first (K := 18446744073709551616) (y1 := v1) (y0 := v0) (u := U) (d := u0) htop hv0 hu0 h2
  have hdm := Nat.div_add_mod U v1
  have hml := Nat.mod_lt U h0
  rw [Nat.mul_comm] at hdm
  refine ⟨h2, ?_, ⟨hdm, g1, g2, Nat.lt_trans hml hv1⟩⟩
  generalize hB : 18446744073709551616 = B at *
  exact Nat.div_lt_of_lt_mul h1
theorem great_done {xan xbn rn a0 X : Nat} (hX : xan * 18446744073709551616 + xbn = X) (hxB : xbn < 18446744073709551616) (h : ¬ (rn < xan ∨ xan = rn ∧ a0 < xbn)) : X ≤ 18446744073709551616 * rn + a0 := by omega
theorem great_more {xan xbn rn a0 X : Nat} (hX : xan * 18446744073709551616 + xbn = X) (ha : a0 < 18446744073709551616) (h : rn < xan ∨ xan = rn ∧ a0 < xbn) : 18446744073709551616 * rn + a0 < X := by omega
theorem sub_low {xan xbn xbp v0 Y : Nat} (hX : xan * 18446744073709551616 + xbn = Y + v0) (hxbp : xbp = (xbn + 18446744073709551616 - v0) % 18446744073709551616) (hxB : xbn < 18446744073709551616) (hb : ¬ xbn < v0) : xan * 18446744073709551616 + xbp = Y := by
  have : xbp = xbn - v0 := by omega
  omega
theorem sub_high {xan xbn xbp v0 Y : Nat} (hX : xan * 18446744073709551616 + xbn = Y + v0) (hxbp : xbp = (xbn + 18446744073709551616 - v0) % 18446744073709551616) (hxB : xbn < 18446744073709551616) (hb : xbn < v0) (hv0 : v0 < 18446744073709551616) (hx1 : 0 < xan) : (xan - 1) * 18446744073709551616 + xbp = Y := by
  obtain ⟨x, rfl⟩ : ∃ x, xan = x + 1 := ⟨xan - 1, by omega⟩
  have h1 : xbp + v0 = xbn + 18446744073709551616 := by omega
  clear hxbp
  rw [Nat.add_sub_cancel]
  rw [Nat.add_mul, Nat.one_mul] at hX
  generalize x * 18446744073709551616 = X at *
  generalize 18446744073709551616 = B at *
  omega
/-- A round of the loop that makes the guess less. -/
theorem guess_round {v1 v0 U a0 qn rn xan xbn : Nat} (hG : Guess 18446744073709551616 v1 v0 U a0 qn rn) (hX : xan * 18446744073709551616 + xbn = qn * v0) (hxB : xbn < 18446744073709551616) (hqB : qn < 18446744073709551616) (hv0 : v0 < 18446744073709551616) (hv1 : v1 < 18446744073709551616) (ha : a0 < 18446744073709551616) (hUV : U < v1 * 18446744073709551616 + v0) (hend : rn < xan ∨ xan = rn ∧ a0 < xbn) :
    ∃ qp rp rw' xap xbp : Nat, IntKind.u64.wrap ((qn : Int) - 1) = (qp : Int) ∧ IntKind.u64.wrap ((rn : Int) + (v1 : Int)) = (rw' : Int) ∧ IntKind.u64.wrap ((xbn : Int) - (v0 : Int)) = (xbp : Int) ∧ (xbn < v0 → IntKind.u64.wrap ((xan : Int) - 1) = (xap : Int)) ∧ qp < qn ∧
      ((rw' < v1 ∧ qp = (U * 18446744073709551616 + a0) / (v1 * 18446744073709551616 + v0)) ∨
       (¬ rw' < v1 ∧ ((xbn < v0 ∧ rp = rw') ∨ (¬ xbn < v0 ∧ xap = xan)) ∧ xap * 18446744073709551616 + xbp = qp * v0 ∧ xbp < 18446744073709551616 ∧ Guess 18446744073709551616 v1 v0 U a0 qp rw')) := by
  have hgt := great_more hX ha hend
  obtain ⟨hq0, hinv, hlow, htop⟩ := hG.step hv0 ha hUV (.inr hgt)
  have hrem := hG.rem
  obtain ⟨qp, rfl⟩ : ∃ z, qn = z + 1 := ⟨qn - 1, by omega⟩
  rw [Nat.add_sub_cancel] at hinv hlow htop
  have hm : (qp + 1) * v0 = qp * v0 + v0 := by rw [Nat.add_mul, Nat.one_mul]
  rw [hm] at hX
  obtain ⟨Y, hY⟩ : ∃ Y, Y = qp * v0 := ⟨_, rfl⟩
  rw [← hY] at hX
  have w1 : IntKind.u64.wrap (((qp + 1 : Nat) : Int) - 1) = (qp : Int) := by rw [IntKind.wrap_u64]; omega
  have hYm : (qp + 1) * v0 ≤ 18446744073709551615 * 18446744073709551615 := Nat.mul_le_mul (by omega) (by omega)
  rw [hm, ← hY] at hYm
  have hxan : xan < 18446744073709551616 := by omega
  obtain ⟨xbp, hxbp⟩ : ∃ z, z = (xbn + 18446744073709551616 - v0) % 18446744073709551616 := ⟨_, rfl⟩
  have w3 : IntKind.u64.wrap ((xbn : Int) - (v0 : Int)) = (xbp : Int) := by rw [IntKind.wrap_u64]; omega
  have hxbp9 : xbp < 18446744073709551616 := by omega
  have hqlt : qp < qp + 1 := Nat.lt_succ_self _
  have hVp : 0 < v1 * 18446744073709551616 + v0 := Nat.lt_of_le_of_lt (Nat.zero_le _) hUV
  by_cases hbr : 18446744073709551616 ≤ rn + v1
  · have hov := guess_over hinv hlow htop hbr hv0 hVp
    have w2 : IntKind.u64.wrap ((rn : Int) + (v1 : Int)) = ((rn + v1 - 18446744073709551616 : Nat) : Int) := by rw [IntKind.wrap_u64]; omega
    have hlt : rn + v1 - 18446744073709551616 < v1 := by omega
    by_cases hb : xbn < v0
    · have w4 : IntKind.u64.wrap ((xan : Int) - 1) = ((xan - 1 : Nat) : Int) := by
        have : 0 < xan := by omega
        rw [IntKind.wrap_u64]; omega
      exact ⟨qp, rn, _, _, xbp, w1, w2, w3, fun _ => w4, hqlt, .inl ⟨hlt, hov⟩⟩
    · exact ⟨qp, rn, _, 0, xbp, w1, w2, w3, fun h => absurd h hb, hqlt, .inl ⟨hlt, hov⟩⟩
  · have hrm : rn + v1 < 18446744073709551616 := by omega
    have hG' : Guess 18446744073709551616 v1 v0 U a0 qp (rn + v1) := ⟨hinv, hlow, Nat.le_trans htop (Nat.le_add_right _ _), hrm⟩
    have w2 : IntKind.u64.wrap ((rn : Int) + (v1 : Int)) = ((rn + v1 : Nat) : Int) := by rw [IntKind.wrap_u64]; omega
    have hnlt : ¬ rn + v1 < v1 := by omega
    by_cases hb : xbn < v0
    · have hx1 : 0 < xan := by omega
      have w4 : IntKind.u64.wrap ((xan : Int) - 1) = ((xan - 1 : Nat) : Int) := by rw [IntKind.wrap_u64]; omega
      have he : (xan - 1) * 18446744073709551616 + xbp = qp * v0 := by
        rw [← hY]
        exact sub_high hX hxbp hxB hb hv0 hx1
      exact ⟨qp, rn + v1, _, _, xbp, w1, w2, w3, fun _ => w4, hqlt, .inr ⟨hnlt, .inl ⟨hb, rfl⟩, he, hxbp9, hG'⟩⟩
    · have he : xan * 18446744073709551616 + xbp = qp * v0 := by
        rw [← hY]
        exact sub_low hX hxbp hxB hb
      exact ⟨qp, rn + v1, _, xan, xbp, w1, w2, w3, fun h => absurd h hb, hqlt, .inr ⟨hnlt, .inr ⟨hb, rfl⟩, he, hxbp9, hG'⟩⟩
theorem great_not (u2 u1 : Nat) : decide (u2 < 0 ∨ 0 = u2 ∧ u1 < 0) = false := by simp
set_option maxRecDepth 100000 in
set_option maxHeartbeats 16000000 in
theorem divBasic167 (qb qc ub vb vc sb z u0 u1 u2 v0 v1 : Nat) (zr ur vr : List Value) (w : World)
    (hS : w.heap[sb]? = some (.cells #[.pointer none] 209 (0, 0))) (hq : w.heap[qb]? = some (.cells (.int .u64 z :: zr).toArray 150 (0, 0))) (hu : w.heap[ub]? = some (.cells (uRow u0 u1 u2 ur) 150 (0, 0))) (hv : w.heap[vb]? = some (.cells (.int .u64 v0 :: .int .u64 v1 :: vr).toArray 150 (0, 0)))
    (hqu : qb ≠ ub) (hvu : vb ≠ ub) (hvq : vb ≠ qb) (hu0 : u0 < 18446744073709551616) (hu1 : u1 < 18446744073709551616) (hu2 : u2 < v1) (hv0 : v0 < 18446744073709551616) (hv1 : v1 < 18446744073709551616) (htop : 18446744073709551616 ≤ 2 * v1) (Q R : Nat) (hQ : Q = ((u2 * 18446744073709551616 + u1) * 18446744073709551616 + u0) / (v1 * 18446744073709551616 + v0)) (hR : R = ((u2 * 18446744073709551616 + u1) * 18446744073709551616 + u0) % (v1 * 18446744073709551616 + v0)) :
    Calls Tryz.prog 167 #[.slice (some ⟨qb, 0, none⟩) 1 qc, .pointer (some ⟨sb, 0, none⟩), .slice (some ⟨ub, 0, none⟩) 3 7, .slice (some ⟨vb, 0, none⟩) 2 vc] w fun e w' => e = .returned (.tuple #[]) ∧
      w'.heap[qb]? = some (.cells (.int .u64 Q :: zr).toArray 150 (0, 0)) ∧ w'.heap[ub]? = some (.cells (uRow (R % 18446744073709551616) (R / 18446744073709551616) 0 ur) 150 (0, 0)) ∧ Keep (fun b => b = qb ∨ b = ub) w w' := by
  have hsq : sb ≠ qb := blk_ne hS hq (by decide)
  have hsu : sb ≠ ub := blk_ne hS hu (by decide)
  have lq := blk_lt hq
  have lu := blk_lt hu
  have lv := blk_lt hv
  have ls := blk_lt hS
  have hv1c : w.cell? ⟨vb, 1, none⟩ = some (.int .u64 v1) := blk_cell hv 1
  have hv0c : w.cell? ⟨vb, 0, none⟩ = some (.int .u64 v0) := blk_cell hv 0
  have hW : Words w vb 0 [v0, v1] := fun k hk => by
    rw [Nat.zero_add, blk_cell hv]
    match k, hk with
    | 0, _ => rfl
    | 1, _ => rfl
  have HS162 := save162 sb w hS
  have HN := nat164 sb 3 (by decide) (by decide) w hS
  rw [show ((3 : Nat) : Int) = 3 from rfl] at HN
  have HN := Lib.hid HN
  have hv1p : 0 < v1 := by omega
  have HRC := Lib.hid (fun w => recip207 v1 hv1p hv1 w)
  have HNUM := Lib.hid (And.intro hQ (And.intro hR (And.intro hu0 (And.intro hu1 (And.intro hu2 (And.intro hv0 (And.intro hv1 htop)))))))
  have HBL := Lib.hid (And.intro hS (And.intro hq (And.intro hu (And.intro hv hW))))
  clear hQ hR hu0 hu1 htop hS hq hu hv hW
  go_enter_defers Tryz.func167, Tryz.ntmps167
  go_wp2_with fail
  refine HS162.mono ?_
  rintro e w1 ⟨rfl, rfl⟩
  go_wp2_with fail
  refine HN.out.mono ?_
  rintro e w2 ⟨hc, cs, rfl, hc3, hcs3, hcb, hk2⟩
  have hv1c := hk2.cell hv1c (fun h => h)
  have hv0c := hk2.cell hv0c (fun h => h)
  go_wp2_with fail
  refine (HRC.out _).mono ?_
  rintro e w3 ⟨s, m, rfl, hs, hm, hk3⟩
  have HSM := Lib.hid (And.intro hs hm)
  clear HRC HN HS162
  clear hs hm
  have hcb := hk3.blk hcb (fun h => h)
  have hkF := hk2.trans hk3
  have hk3 := hkF.mono (S' := fun b => b = qb ∨ b = ub) (fun _ h => h.elim)
  clear hk2
  have hq3 := hkF.blk HBL.out.2.1 (fun h => h)
  have hu3 := hkF.blk HBL.out.2.2.1 (fun h => h)
  have hnv : ¬ (vb = qb ∨ vb = ub) := by omega
  have hvhb : vb ≠ w1.heap.size := by omega
  have hqhb : qb ≠ w1.heap.size := by omega
  have huhb : ub ≠ w1.heap.size := by omega
  have hsz1 : w1.heap.size ≤ w1.heap.size := Nat.le_refl _
  obtain ⟨hb, hhb⟩ : ∃ z, z = w1.heap.size := ⟨_, rfl⟩
  rw [← hhb] at hcb hvhb hqhb huhb ⊢
  have HHB := Lib.hid hhb
  clear hhb hsz1
  go_wp2_with fail
  go_loopw [13, 14] (fun uj j wr => ∃ (cs : Array Value) (zq a0 a1 a2 : Nat), 3 ≤ cs.size ∧ wr.heap[hb]? = some (.cells cs 150 (0, 0)) ∧ wr.heap[qb]? = some (.cells (.int .u64 zq :: zr).toArray 150 (0, 0)) ∧ wr.heap[ub]? = some (.cells (uRow a0 a1 a2 ur) 150 (0, 0)) ∧ Keep (fun b => b = qb ∨ b = ub) w1 wr ∧
    ((j = .int .i64 1 ∧ uj = .int .u64 0 ∧ zq = z ∧ a0 = u0 ∧ a1 = u1 ∧ a2 = u2) ∨ (j = .int .i64 0 ∧ uj = .int .u64 u2 ∧ zq = z ∧ a0 = u0 ∧ a1 = u1 ∧ a2 = u2) ∨ (j = .int .i64 (-1) ∧ zq = Q ∧ a0 = R % 18446744073709551616 ∧ a1 = R / 18446744073709551616 ∧ a2 = 0))) (fun _ j _ => (intOf j + 1).toNat)
  case atStart =>
    exact ⟨cs, z, u0, u1, u2, hcs3, hcb, hq3, hu3, hk3, .inl ⟨rfl, rfl, rfl, rfl, rfl, rfl⟩⟩
  case round =>
    obtain ⟨cs, zq, a0, a1, a2, hcsz, hcbk, hqk, huk, hkk, hcase⟩ := hrel
    have hWk := Words.keep HBL.out.2.2.2.2 hkk hnv
    have x0 : wr.cell? ⟨vb, 0, none⟩ = some (.int .u64 v0) := hWk 0 (by simp)
    have x1 : wr.cell? ⟨vb, 1, none⟩ = some (.int .u64 v1) := hWk 1 (by simp)
    obtain ⟨y0, y1, y2⟩ := uRow_cells huk
    have HV := Lib.hid (And.intro hWk (And.intro hcbk (And.intro hqk huk)))
    clear hWk hcbk hqk huk hq3 hu3 hcb hv1c hv0c hkF hk3
    rcases hcase with ⟨rfl, rfl, rfl, rfl, rfl, rfl⟩ | ⟨rfl, rfl, rfl, rfl, rfl, rfl⟩ | ⟨rfl, rfl, rfl, rfl, rfl⟩
    · have hv1b : ((0 : Int) == (v1 : Int)) = false := beq_eq_false_iff_ne.2 (by omega)
      have HD := divWW208 0 a2 v1 m s hv1p (by have := HNUM.out; omega) HNUM.out.2.2.2.2.2.2.1 HSM.out.1 HSM.out.2 wr
      rw [Nat.zero_mul, Nat.zero_add, Nat.div_eq_of_lt hu2, Nat.mod_eq_of_lt hu2] at HD
      have HD := Lib.hid HD
      have HM := Lib.hid (fun w => mulWW175 0 v0 (by decide) HNUM.out.2.2.2.2.2.1 w)
      go_wp2_with fail
      refine HD.out.mono ?_
      rintro e w4 ⟨rfl, hk4⟩
      have x0 := hk4.cell x0 (fun h => h)
      have x1 := hk4.cell x1 (fun h => h)
      have y0 := hk4.cell y0 (fun h => h)
      have y1 := hk4.cell y1 (fun h => h)
      have y2 := hk4.cell y2 (fun h => h)
      go_wp2_with fail
      refine (HM.out _).mono ?_
      rintro e w5 ⟨rfl, rfl⟩
      have HG := Lib.hid (show ∀ w, Calls Tryz.prog 215 #[.int .u64 0, .int .u64 0, .int .u64 a2, .int .u64 a1] w fun e w' => e = .returned (.bool false) ∧ w' = w from fun w => by
        have := greater215 0 0 a2 a1 w
        rw [great_not] at this
        exact this)
      go_wp2_with fail
      go_loopw [15, 16, 18, 19] (fun q r xa xb wq => q = .int .u64 0 ∧ r = .int .u64 a2 ∧ xa = .int .u64 0 ∧ xb = .int .u64 0 ∧ wq = w5) (fun _ _ _ _ _ => 0)
      case atStart => exact ⟨rfl, rfl, rfl, rfl, rfl⟩
      case round =>
        obtain ⟨rfl, rfl, rfl, rfl, rfl⟩ := hrel
        go_wp2_with fail
        refine (HG.out _).mono ?_
        rintro e w6 ⟨rfl, rfl⟩
        have HVT := Lib.hid (show Calls Tryz.prog 216 #[.slice (some ⟨hb, 0, none⟩) 2 hc, .slice (some ⟨vb, 0, none⟩) 2 vc, .int .u64 0, .int .u64 0] _ _ from vtimes216 hb hc vb vc v0 v1 0 cs w6 (hk4.blk HV.out.2.1 (fun h => h)) hcsz (HV.out.1.keep hk4 (fun h => h)) hvhb HNUM.out.2.2.2.2.2.1 HNUM.out.2.2.2.2.2.2.1 (by decide))
        go_wp2_with fail
        refine HVT.out.mono ?_
        rintro e w7 ⟨n, rfl, p0, p1, hp0, hp1, hn, hsum, hcb7, hk7⟩
        obtain ⟨rfl, rfl, rfl⟩ : p0 = 0 ∧ p1 = 0 ∧ n = 0 := by omega
        obtain ⟨r0, r1, r2, r3⟩ := pRow hcsz 0 0 0
        have hf7 := blk_frozen hcb7
        obtain ⟨vv, hvv⟩ : ∃ vv, (putW cs 0 [0, 0])[2]? = some vv := ⟨_, Array.getElem?_eq_getElem (show 2 < (putW cs 0 [0, 0]).size by rw [putW_size]; omega)⟩
        have hc7 : w7.cell? ⟨hb, 2, none⟩ = some vv := by rw [blk_cell hcb7 2]; exact hvv
        have hcb8 := blk_set hcb7 2 (.int .u64 (0 : Nat))
        have hk8 := hk7.setCell (p := ⟨hb, 2, none⟩) (.inl rfl) (.int .u64 (0 : Nat))
        have hc8 : (w7.setCell ⟨hb, 2, none⟩ (.int .u64 (0 : Nat))).cell? ⟨hb, 2, none⟩ = some (.int .u64 0) := by rw [blk_cell hcb8]; exact r2
        have HC8 := Lib.hid (And.intro hcb8 (And.intro hk8 (And.intro r0 (And.intro r1 (And.intro r2 r3)))))
        clear hcb8 r0 r1 r2 r3 hsum hcb7 hvv
        rw [show ((0 : Nat) : Int) = 0 from rfl] at *
        have hc3' : (3 : Int) ≤ (hc : Int) := by omega
        go_wp2_with fail
        refine wp_region_mid 15 (by kernel_rfl) (by kernel_rfl) rfl ?_
        simp only [List.take_succ_cons, List.take_zero, List.drop_succ_cons, List.drop_zero]
        repeat (go_big_quiet_step (fail))
        refine wpQuiet_nil ?_
        rintro _ ⟨nq2, rfl⟩
        go_wp2_with fail
        obtain ⟨t1, t2⟩ := sub2_zero a1 a2 HNUM.out.2.2.2.1 (by omega)
        have hub8 := blk_drewN (HC8.out.2.1.blk (hk4.blk HV.out.2.2.2 (fun h => h)) huhb) nq2
        have hhb8 := blk_drewN HC8.out.1 nq2
        have HU := Lib.hid (usub136 ub 1 6 hb hc [a1, a2] [0, 0] 2 (uRow a0 a1 a2 ur) _ rfl rfl (by decide) hub8 (fun k hk => by
          match k, hk with
          | 0, _ => rfl
          | 1, _ => rfl) (fun k hk => by
          have hk : k < 2 := hk
          rw [Nat.zero_add, blk_cell hhb8]
          match k, hk with
          | 0, _ => exact HC8.out.2.2.1
          | 1, _ => exact HC8.out.2.2.2.1) (fun h => huhb h.symm) [a1, a2] t1 t2)
        rw [show putW (uRow a0 a1 a2 ur) 1 [a1, a2] = uRow a0 a1 a2 ur by simp [putW, uRow]] at HU
        have hk8d := HC8.out.2.1.drewN nq2
        have HT := Lib.hid (And.intro hub8 hhb8)
        clear t1 t2 hub8 hhb8
        refine HU.out.mono ?_
        rintro e w9 ⟨kk, rfl, rfl, hub9, hk9⟩
        obtain ⟨y0, y1, y2⟩ := uRow_cells hub9
        have hkT : Keep (fun b => b = qb ∨ b = ub) w1 w9 := ((hkk.step (hk4.mono (S' := fun _ => False) (fun _ h => h)) (fun _ h => h.elim)).step hk8d (fun i hi => .inr (by have := HHB.out; omega))).step hk9 (fun i hi => .inl (.inr hi))
        have hhb9 := hk9.blk HT.out.2 (fun h => huhb h.symm)
        have hqb9 := hk9.blk (hk8d.blk (hk4.blk HV.out.2.2.1 (fun h => h)) hqhb) hqu
        have HZ := Lib.hid (And.intro hub9 (And.intro hhb9 hqb9))
        clear hub9 hhb9 hqb9 HU
        go_wp2_with fail
        repeat (go_big_quiet_step (fail))
        refine wpQuiet_nil ?_
        rintro _ ⟨nq3, rfl⟩
        have y2 : (w9.drewN nq3).cell? _ = _ := y2
        go_wp2_with fail
        go_roundw
        case rel => exact ⟨_, zq, a0, a1, a2, by rw [HC8.out.2.2.2.2.2]; exact hcsz, blk_drewN HZ.out.2.1 nq3, blk_drewN HZ.out.2.2 nq3, blk_drewN HZ.out.1 nq3, hkT.drewN nq3, .inr (.inl ⟨rfl, rfl, rfl, rfl, rfl, rfl⟩)⟩
        case measure => simp [intOf]
    · have hv1b : ((a2 : Int) == (v1 : Int)) = false := beq_eq_false_iff_ne.2 (by omega)
      obtain ⟨U, hU⟩ : ∃ z, z = a2 * 18446744073709551616 + a1 := ⟨_, rfl⟩
      have HD := divWW208 a2 a1 v1 m s hu2 (by have := HNUM.out; omega) HNUM.out.2.2.2.2.2.2.1 HSM.out.1 HSM.out.2 wr
      rw [← hU] at HD
      obtain ⟨hUV, hqaB, hga⟩ := first_guess hU hu2 HNUM.out.2.2.2.1 HNUM.out.2.2.1 hv0 hv1 HNUM.out.2.2.2.2.2.2.2
      obtain ⟨qa, hqa⟩ : ∃ z, z = U / v1 := ⟨_, rfl⟩
      obtain ⟨ra, hra⟩ : ∃ z, z = U % v1 := ⟨_, rfl⟩
      rw [← hqa] at hqaB
      rw [← hqa, ← hra] at hga
      rw [← hqa, ← hra] at HD
      have HD := Lib.hid HD
      have hQU : Q = (U * 18446744073709551616 + a0) / (v1 * 18446744073709551616 + v0) := by rw [hU]; exact HNUM.out.1
      have hRU : R = (U * 18446744073709551616 + a0) % (v1 * 18446744073709551616 + v0) := by rw [hU]; exact HNUM.out.2.1
      have HM := mulWW175 qa v0 hqaB HNUM.out.2.2.2.2.2.1
      obtain ⟨xa, hxa⟩ : ∃ z, z = qa * v0 / 18446744073709551616 := ⟨_, rfl⟩
      obtain ⟨xb, hxb⟩ : ∃ z, z = qa * v0 % 18446744073709551616 := ⟨_, rfl⟩
      have hxx : xa * 18446744073709551616 + xb = qa * v0 := by rw [hxa, hxb]; omega
      have hxbB : xb < 18446744073709551616 := by rw [hxb]; exact Nat.mod_lt _ (by decide)
      rw [← hxa, ← hxb] at HM
      have HM := Lib.hid HM
      have HG := Lib.hid (And.intro hga (And.intro hqaB (And.intro hxx (And.intro hxbB (And.intro hQU (And.intro hRU (And.intro hUV hU)))))))
      clear hga hqaB hxx hxbB hqa hra hxa hxb hQU hRU hUV hU
      go_wp2_with fail
      refine HD.out.mono ?_
      rintro e w4 ⟨rfl, hk4⟩
      have x0 := hk4.cell x0 (fun h => h)
      have x1 := hk4.cell x1 (fun h => h)
      have y0 := hk4.cell y0 (fun h => h)
      have y1 := hk4.cell y1 (fun h => h)
      have y2 := hk4.cell y2 (fun h => h)
      go_wp2_with fail
      refine (HM.out _).mono ?_
      rintro e w5 ⟨rfl, rfl⟩
      go_upto_block 2 with fail
      go_cut [15] from 84 to 104 (fun q wx => q = .int .u64 Q ∧ wx = w5)
      case first =>
        go_wp2_with fail
        go_loopw [15, 16, 18, 19] (fun q r ya yb wq => ∃ qn rn xan xbn : Nat, q = .int .u64 qn ∧ r = .int .u64 rn ∧ ya = .int .u64 xan ∧ yb = .int .u64 xbn ∧ xan * 18446744073709551616 + xbn = qn * v0 ∧ xbn < 18446744073709551616 ∧ Guess 18446744073709551616 v1 v0 U a0 qn rn ∧ qn < 18446744073709551616 ∧ wq = w5) (fun q _ _ _ _ => (intOf q).toNat)
        case atStart => exact ⟨qa, ra, xa, xb, rfl, rfl, rfl, rfl, HG.out.2.2.1, HG.out.2.2.2.1, HG.out.1, HG.out.2.1, rfl⟩
        case round =>
          obtain ⟨qn, rn, xan, xbn, rfl, rfl, rfl, rfl, hX, hxB, hG, hqB, rfl⟩ := hrel
          by_cases hend : rn < xan ∨ xan = rn ∧ a0 < xbn
          · have HC := Lib.hid (show ∀ w, Calls Tryz.prog 215 #[.int .u64 xan, .int .u64 xbn, .int .u64 rn, .int .u64 a0] w fun e w' => e = .returned (.bool true) ∧ w' = w from fun w => by
              have := greater215 xan xbn rn a0 w
              rw [decide_eq_true hend] at this
              exact this)
            obtain ⟨qp, rp, rw', xap, xbp, f1, f2, f3, f4, f5, f6⟩ := guess_round hG hX hxB hqB hv0 hv1 HNUM.out.2.2.1 HG.out.2.2.2.2.2.2.1 hend
            rcases f6 with ⟨hlt, hfin⟩ | ⟨hnlt, hcase2, hX', hxB', hG'⟩
            · have hlt' : (rw' : Int) < (v1 : Int) := by omega
              have HE := Lib.hid (hfin.trans HG.out.2.2.2.2.1.symm)
              clear hfin hG hX hend
              go_wp2_with fail
              refine (HC.out _).mono ?_
              rintro e w6 ⟨rfl, rfl⟩
              go_wp2_with fail
              go_meet
              exact ⟨by rw [HE.out], rfl⟩
            · have hlt' : ¬ ((rw' : Int) < (v1 : Int)) := by omega
              have HE := Lib.hid (And.intro hX' (And.intro hxB' hG'))
              have hqpB : qp < qn := f5
              clear hX' hxB' hG' hG hX hend
              rcases hcase2 with ⟨hb1, e1⟩ | ⟨hb1, e1⟩
              · have hb1' : (xbn : Int) < (v0 : Int) := by omega
                go_wp2_with fail
                refine (HC.out _).mono ?_
                rintro e w6 ⟨rfl, rfl⟩
                go_wp2_with fail
                go_roundw
                case rel => exact ⟨qp, rw', xap, xbp, rfl, rfl, rfl, rfl, HE.out.1, HE.out.2.1, HE.out.2.2, by omega, by first | rfl | trivial⟩
                case measure => simp [intOf]; omega
              · have hb1' : ¬ ((xbn : Int) < (v0 : Int)) := by omega
                subst e1
                go_wp2_with fail
                refine (HC.out _).mono ?_
                rintro e w6 ⟨rfl, rfl⟩
                go_wp2_with fail
                go_roundw
                case rel => exact ⟨qp, rw', xap, xbp, rfl, rfl, rfl, rfl, HE.out.1, HE.out.2.1, HE.out.2.2, by omega, by first | rfl | trivial⟩
                case measure => simp [intOf]; omega
          · have HC := Lib.hid (show ∀ w, Calls Tryz.prog 215 #[.int .u64 xan, .int .u64 xbn, .int .u64 rn, .int .u64 a0] w fun e w' => e = .returned (.bool false) ∧ w' = w from fun w => by
              have := greater215 xan xbn rn a0 w
              rw [decide_eq_false hend] at this
              exact this)
            have HE := Lib.hid ((hG.done (by omega) (great_done hX hxB hend)).trans HG.out.2.2.2.2.1.symm)
            clear hG hX hend
            go_wp2_with fail
            refine (HC.out _).mono ?_
            rintro e w6 ⟨rfl, rfl⟩
            go_wp2_with fail
            go_meet
            exact ⟨by rw [HE.out], rfl⟩
      case rest =>
        obtain ⟨rfl, rfl⟩ := hcut
        have hQB : Q < 18446744073709551616 := by
          rw [HG.out.2.2.2.2.1]
          exact digit_lt HNUM.out.2.2.1 HG.out.2.2.2.2.2.2.1
        have hdiv := Nat.div_add_mod (U * 18446744073709551616 + a0) (v1 * 18446744073709551616 + v0)
        rw [← HG.out.2.2.2.2.1, ← HG.out.2.2.2.2.2.1, HG.out.2.2.2.2.2.2.2] at hdiv
        have hRV : R < v1 * 18446744073709551616 + v0 := by rw [HG.out.2.2.2.2.2.1]; exact Nat.mod_lt _ (Nat.lt_of_le_of_lt (Nat.zero_le _) HG.out.2.2.2.2.2.2.1)
        have hRB : R < 340282366920938463463374607431768211456 := by omega
        have HVT := Lib.hid (vtimes216 hb hc vb vc v0 v1 Q cs _ (hk4.blk HV.out.2.1 (fun h => h)) hcsz (HV.out.1.keep hk4 (fun h => h)) hvhb HNUM.out.2.2.2.2.2.1 HNUM.out.2.2.2.2.2.2.1 hQB)
        have HDV := Lib.hid (And.intro hdiv hRB)
        clear hdiv hRB hRV hQB
        go_wp2_with fail
        refine HVT.out.mono ?_
        rintro e w7 ⟨n, rfl, p0, p1, hp0, hp1, hn, hsum, hcb7, hk7⟩
        obtain ⟨r0, r1, r2, r3⟩ := pRow hcsz p0 p1 n
        have hf7 := blk_frozen hcb7
        obtain ⟨vv, hvv⟩ : ∃ vv, (putW cs 0 [p0, p1])[2]? = some vv := ⟨_, Array.getElem?_eq_getElem (show 2 < (putW cs 0 [p0, p1]).size by rw [putW_size]; omega)⟩
        have hc7 : w7.cell? ⟨hb, 2, none⟩ = some vv := by rw [blk_cell hcb7 2]; exact hvv
        have hcb8 := blk_set hcb7 2 (.int .u64 (n : Nat))
        have hk8 := hk7.setCell (p := ⟨hb, 2, none⟩) (.inl rfl) (.int .u64 (n : Nat))
        have hsub := sub3_val HNUM.out.2.2.1 HNUM.out.2.2.2.1 (show a2 < 18446744073709551616 by omega) hp0 hp1 hn (R := R) (by have := HDV.out.1; omega) HDV.out.2
        have HC8 := Lib.hid (And.intro hcb8 (And.intro hk8 (And.intro r0 (And.intro r1 (And.intro r2 (And.intro r3 hsub))))))
        clear hcb8 r0 r1 r2 r3 hsum hcb7 hvv hsub hp0 hp1 hn
        have hc3' : (3 : Int) ≤ (hc : Int) := by omega
        go_wp2_with fail
        refine wp_region_mid 15 (by kernel_rfl) (by kernel_rfl) rfl ?_
        simp only [List.take_succ_cons, List.take_zero, List.drop_succ_cons, List.drop_zero]
        repeat (go_big_quiet_step (fail))
        refine wpQuiet_nil ?_
        rintro _ ⟨nq2, rfl⟩
        go_wp2_with fail
        have hub8 := blk_drewN (HC8.out.2.1.blk (hk4.blk HV.out.2.2.2 (fun h => h)) huhb) nq2
        have hhb8 := blk_drewN HC8.out.1 nq2
        have HU := Lib.hid (usub136 ub 0 7 hb hc [a0, a1, a2] [p0, p1, n] 3 (uRow a0 a1 a2 ur) _ rfl rfl (by decide) hub8 (fun k hk => by
          match k, hk with
          | 0, _ => rfl
          | 1, _ => rfl
          | 2, _ => rfl) (fun k hk => by
          have hk : k < 3 := hk
          rw [Nat.zero_add, blk_cell hhb8]
          match k, hk with
          | 0, _ => exact HC8.out.2.2.1
          | 1, _ => exact HC8.out.2.2.2.1
          | 2, _ => exact HC8.out.2.2.2.2.1) (fun h => huhb h.symm) _ HC8.out.2.2.2.2.2.2.1 HC8.out.2.2.2.2.2.2.2)
        rw [show putW (uRow a0 a1 a2 ur) 0 [R % 18446744073709551616, R / 18446744073709551616, 0] = uRow (R % 18446744073709551616) (R / 18446744073709551616) 0 ur by simp [putW, uRow]] at HU
        obtain ⟨Rl, hRl⟩ : ∃ z, z = R % 18446744073709551616 := ⟨_, rfl⟩
        obtain ⟨Rh, hRh⟩ : ∃ z, z = R / 18446744073709551616 := ⟨_, rfl⟩
        rw [← hRl, ← hRh] at HU
        have HLH := Lib.hid (And.intro hRl hRh)
        have hk8d := HC8.out.2.1.drewN nq2
        have HT := Lib.hid (And.intro hub8 hhb8)
        clear hub8 hhb8 hRl hRh
        refine HU.out.mono ?_
        rintro e w9 ⟨kk, rfl, rfl, hub9, hk9⟩
        obtain ⟨y0, y1, y2⟩ := uRow_cells hub9
        have hkT : Keep (fun b => b = qb ∨ b = ub) w1 w9 := ((hkk.step (hk4.mono (S' := fun _ => False) (fun _ h => h)) (fun _ h => h.elim)).step hk8d (fun i hi => .inr (by have := HHB.out; omega))).step hk9 (fun i hi => .inl (.inr hi))
        have hhb9 := hk9.blk HT.out.2 (fun h => huhb h.symm)
        have hqb9 := hk9.blk (hk8d.blk (hk4.blk HV.out.2.2.1 (fun h => h)) hqhb) hqu
        have qc0 : w9.cell? ⟨qb, 0, none⟩ = some (.int .u64 zq) := blk_cell hqb9 0
        have qf0 := blk_frozen hqb9 0
        have HZ := Lib.hid (And.intro hub9 (And.intro hhb9 hqb9))
        clear hub9 hhb9 hqb9 HU
        go_wp2_with fail
        repeat (go_big_quiet_step (fail))
        refine wpQuiet_nil ?_
        rintro _ ⟨nq3, rfl⟩
        have y1 : (w9.drewN nq3).cell? _ = _ := y1
        have qc0 : (w9.drewN nq3).cell? _ = _ := qc0
        have qf0 : (w9.drewN nq3).frozen? _ = _ := qf0
        go_wp2_with fail
        go_roundw
        case rel => exact ⟨_, Q, Rl, Rh, 0, by rw [HC8.out.2.2.2.2.2.1]; exact hcsz, blk_far (blk_drewN HZ.out.2.1 nq3) hqhb _, by have := blk_set (blk_drewN HZ.out.2.2 nq3) 0 (.int .u64 (Q : Nat)); simpa using this, blk_far (blk_drewN HZ.out.1 nq3) hqu _, (hkT.drewN nq3).setCell (p := ⟨qb, 0, none⟩) (.inl (.inl rfl)) _, .inr (.inr ⟨by first | rfl | trivial, rfl, HLH.out.1, HLH.out.2, rfl⟩)⟩
        case measure => simp [intOf]
    · go_wp2_with fail
      refine leaves_cons (f := 161) (args := #[.pointer (some ⟨sb, 0, none⟩), .int .i64 0]) (by simp) (by simp [go_sem]) ?_
      refine (restoreD sb 0 .returning _ (hkk.blk HBL.out.1 (by omega))).mono ?_
      rintro e u' w'' ⟨rfl, rfl, rfl⟩
      exact ⟨_, results_none rfl _ _ _, rfl, HV.out.2.2.1, HV.out.2.2.2, hkk⟩
end Go.Proofs.YtamkglgiaiejkaaGreatDoor
