import Derived.Test.YtamkglgiaiejkaaGreatDoorYx20
/-! Natural numbers of words: division by two words. -/
namespace Go.Proofs.YtamkglgiaiejkaaGreatDoor
open Go.RowKit

theorem scaled_div {m n S V U : Nat} (hS : 0 < S) (hV : V = n * S) (hU : U = m * S) : U / V = m / n ∧ U % V = m % n * S := by
  subst hV hU
  exact ⟨Nat.mul_div_mul_right m n hS, Nat.mul_mod_mul_right S m n⟩
/-- How far a divisor's high word is moved. -/
theorem scale_sh {y s : Nat} (h : Scale y s) (h1 : y < 9223372036854775808) : Sh s (64 - s) := by
  have hlt := h.lt
  have hlow := h.low
  refine ⟨?_, hlt, rfl⟩
  rcases Nat.eq_zero_or_pos s with rfl | h0
  · rw [Nat.pow_zero, Nat.mul_one] at hlow
    omega
  · exact h0
theorem lsh_top {x1 x0 c y1 y0 s : Nat} (hs : Scale x1 s) (hx0 : x0 < 18446744073709551616) (h : (x1 * 18446744073709551616 + x0) * 2 ^ s = (c * 18446744073709551616 + y1) * 18446744073709551616 + y0) (hy1 : y1 < 18446744073709551616) (hy0 : y0 < 18446744073709551616) : c = 0 ∧ 9223372036854775808 ≤ y1 := by
  have hp := pow_split hs.lt
  have htop := hs.top
  have hlow := hs.low
  have hS : 0 < 2 ^ s := Nat.pow_pos (by decide)
  generalize 2 ^ s = S at *
  generalize 2 ^ (64 - s) = T at *
  have hT : x1 < T := by
    refine Nat.lt_of_mul_lt_mul_right (a := S) ?_
    rw [Nat.mul_comm T, hp]
    exact htop
  have h1 : (x1 + 1) * S ≤ 18446744073709551616 := by
    rw [← hp, Nat.mul_comm S]
    exact Nat.mul_le_mul_right S hT
  rw [Nat.add_mul, Nat.one_mul] at h1
  have h2 : x0 * S + S ≤ 18446744073709551616 * S := by
    have := Nat.mul_le_mul_right S (show x0 + 1 ≤ 18446744073709551616 from hx0)
    rw [Nat.add_mul, Nat.one_mul] at this
    exact this
  have h3 : (x1 * 18446744073709551616 + x0) * S = x1 * S * 18446744073709551616 + x0 * S := by
    rw [Nat.add_mul, Nat.mul_right_comm]
  rw [h3] at h
  generalize x1 * S = X at *
  generalize x0 * S = Y at *
  omega
theorem digit_small {m n : Nat} (hm : m < 340282366920938463463374607431768211456) (hn : 18446744073709551616 ≤ n) : m / n < 18446744073709551616 := by
  refine Nat.div_lt_of_lt_mul ?_
  have := Nat.mul_le_mul_right 18446744073709551616 hn
  omega
theorem NV.keepS {S : Nat → Prop} {w w' : World} {g k c n : Nat} (h : NV w (.slice (some ⟨g, 0, none⟩) k c) n) (hk : Keep S w w') (hS : ¬ S g) : NV w' (.slice (some ⟨g, 0, none⟩) k c) n := by
  obtain ⟨A, c', e, h1, h2⟩ := h
  cases e
  refine ⟨_, c, rfl, h1, fun h0 => ?_⟩
  obtain ⟨g', e, h3, h4⟩ := h2 h0
  cases e
  exact ⟨g, rfl, hk.cell h3 hS, fun h => hk.cell (h4 h) hS⟩
theorem arr2 {cs : Array Value} (h : 2 ≤ cs.size) : ∃ z0 z1 zr, cs = (z0 :: z1 :: zr).toArray := by
  obtain ⟨l⟩ := cs
  match l, h with
  | z0 :: z1 :: zr, _ => exact ⟨z0, z1, zr, rfl⟩
theorem lsh165 (zb zc xb xc x0 x1 s t : Nat) (z0 z1 : Value) (zr : List Value) (w : World) (hz : w.heap[zb]? = some (.cells (z0 :: z1 :: zr).toArray 150 (0, 0))) (h0 : w.cell? ⟨xb, 0, none⟩ = some (.int .u64 x0)) (h1 : w.cell? ⟨xb, 1, none⟩ = some (.int .u64 x1)) (hne : xb ≠ zb) (hx0 : x0 < 18446744073709551616) (hx1 : x1 < 18446744073709551616) (hs : Sh s t) :
    Calls Tryz.prog 165 #[.slice (some ⟨zb, 0, none⟩) 2 zc, .slice (some ⟨xb, 0, none⟩) 2 xc, .int .u64 s] w fun e w' => ∃ c : Nat, e = .returned (.int .u64 c) ∧ ∃ y1 y0 : Nat, y1 < 18446744073709551616 ∧ y0 < 18446744073709551616 ∧ (x1 * 18446744073709551616 + x0) * 2 ^ s = (c * 18446744073709551616 + y1) * 18446744073709551616 + y0 ∧ c < 2 ^ s ∧ w'.heap[zb]? = some (.cells (.int .u64 y0 :: .int .u64 y1 :: zr).toArray 150 (0, 0)) ∧ Keep (fun b => b = zb) w w' := by
  refine lshVU165 _ _ _ w (fun c w' => ∃ y1 y0 : Nat, y1 < 18446744073709551616 ∧ y0 < 18446744073709551616 ∧ (x1 * 18446744073709551616 + x0) * 2 ^ s = (c * 18446744073709551616 + y1) * 18446744073709551616 + y0 ∧ c < 2 ^ s ∧ w'.heap[zb]? = some (.cells (.int .u64 y0 :: .int .u64 y1 :: zr).toArray 150 (0, 0)) ∧ Keep (fun b => b = zb) w w') ?_
  refine (lshVU214 zb zc xb xc x0 x1 s t z0 z1 zr w hz h0 h1 hne hx0 hx1 hs).mono ?_
  rintro e w' ⟨c, y1, y0, rfl, h⟩
  exact ⟨c, rfl, y1, y0, h⟩
theorem rsh169 (zb zc u0 u1 u2 s t : Nat) (zr : List Value) (w : World) (hz : w.heap[zb]? = some (.cells (uRow u0 u1 u2 zr) 150 (0, 0))) (hu0 : u0 < 18446744073709551616) (hu1 : u1 < 18446744073709551616) (hu2 : u2 < 18446744073709551616) (hs : Sh s t) (R : Nat) (h : u0 + 18446744073709551616 * u1 + 18446744073709551616 * 18446744073709551616 * u2 = R * 2 ^ s) :
    Calls Tryz.prog 169 #[.slice (some ⟨zb, 0, none⟩) 3 zc, .slice (some ⟨zb, 0, none⟩) 3 zc, .int .u64 s] w fun e w' => ∃ c : Nat, e = .returned (.int .u64 c) ∧ ∃ r0 r1 r2 : Nat, r0 < 18446744073709551616 ∧ r1 < 18446744073709551616 ∧ r2 < 18446744073709551616 ∧ wv [r0, r1, r2] = R ∧ w'.heap[zb]? = some (.cells (uRow r0 r1 r2 zr) 150 (0, 0)) ∧ Keep (fun b => b = zb) w w' := by
  refine rshVU169 _ _ _ w (fun c w' => ∃ r0 r1 r2 : Nat, r0 < 18446744073709551616 ∧ r1 < 18446744073709551616 ∧ r2 < 18446744073709551616 ∧ wv [r0, r1, r2] = R ∧ w'.heap[zb]? = some (.cells (uRow r0 r1 r2 zr) 150 (0, 0)) ∧ Keep (fun b => b = zb) w w') ?_
  refine (rshVU218 zb zc u0 u1 u2 s t zr w hz hu0 hu1 hu2 hs).mono ?_
  rintro e w' ⟨c, r0, r1, r2, rfl, g0, g1, g2, e0, e1, e2, hb, hk⟩
  have hv := rsh_val hs h e0 e1 e2
  exact ⟨c, rfl, r0, r1, r2, g0, g1, g2, by rw [← hv]; simp only [wv]; omega, hb, hk⟩
set_option maxRecDepth 100000 in
set_option maxHeartbeats 16000000 in
theorem divLarge130 (g sb gv cv m n : Nat) (w : World) (hS : w.heap[sb]? = some (.cells #[.pointer none] 209 (0, 0))) (hg : BV w g m) (hG : w.cell? ⟨2, 0, none⟩ = some (.int .i64 40)) (hm1 : 18446744073709551616 ≤ m) (hn1 : 18446744073709551616 ≤ n) (hn9 : n < 170141183460469231731687303715884105728)
    (hv0 : w.cell? ⟨gv, 0, none⟩ = some (.int .u64 (n % 18446744073709551616 : Nat))) (hv1 : w.cell? ⟨gv, 1, none⟩ = some (.int .u64 (n / 18446744073709551616 : Nat))) :
    Calls Tryz.prog 130 #[.slice (some ⟨g, 0, none⟩) 2 2, .pointer (some ⟨sb, 0, none⟩), .slice none 0 0, .slice (some ⟨g, 0, none⟩) 2 2, .slice (some ⟨gv, 0, none⟩) 2 cv] w fun e w' => ∃ q r, e = .returned (.tuple #[q, r]) ∧ NV w' q (m / n) ∧ NV w' r (m % n) ∧ Keep (fun b => b = g) w w' := by
  obtain ⟨lo, hi, hm, hlo, hhi, hb⟩ := hg
  obtain ⟨vl, hvl⟩ : ∃ z, z = n % 18446744073709551616 := ⟨_, rfl⟩
  obtain ⟨vh, hvh⟩ : ∃ z, z = n / 18446744073709551616 := ⟨_, rfl⟩
  rw [← hvl] at hv0
  rw [← hvh] at hv1
  have lg := blk_lt hb
  have ls := blk_lt hS
  have lgv := World.block_lt_of_cell? w _ hv0
  have hvh0 : 0 < vh := by omega
  have hvh9 : vh < 9223372036854775808 := by omega
  have HS162 := save162 sb w hS
  have HNLZ := Lib.hid (nlz163 vh hvh0 (by omega))
  have hc0 := blk_cell hb 0
  have hc1 := blk_cell hb 1
  have HNUM := Lib.hid (And.intro hm (And.intro hvl (And.intro hvh (And.intro hm1 (And.intro hn1 (And.intro hlo hhi))))))
  have HVW := Lib.hid (And.intro hv0 (And.intro hc0 hc1))
  clear hm hvl hvh hm1 hn1 hn9 hc0 hc1
  go_enter_defers Tryz.func130, Tryz.ntmps130
  go_wp2_with fail
  refine HS162.mono ?_
  rintro e w1 ⟨rfl, rfl⟩
  go_wp2_with fail
  refine (HNLZ.out _).mono ?_
  rintro e w2 ⟨s, rfl, hsc, rfl⟩
  have hsh := scale_sh hsc hvh9
  have hs0 := hsh.s0
  have hs9 := hsh.s9
  have HSC := Lib.hid (And.intro hsc hsh)
  have HN := nat164 sb 2 (by decide) (by decide) w2 hS
  rw [show ((2 : Nat) : Int) = 2 from rfl] at HN
  have HN := Lib.hid HN
  clear hsc hsh HNLZ
  go_wp2_with fail
  refine HN.out.mono ?_
  rintro e w3 ⟨vc, cs, rfl, hvc, hcs, hcb, hk3⟩
  have HM3 := make132_three w3
  obtain ⟨z0, z1, zr, rfl⟩ := arr2 hcs
  have hs0b : ((s : Int) == 0) = false := beq_eq_false_iff_ne.2 (by omega)
  have hkA : Keep (fun _ => False) w2 (w3.alloc (.cells #[.int .u64 0, .int .u64 0, .int .u64 0, .int .u64 0, .int .u64 0, .int .u64 0, .int .u64 0] 150)) := hk3.alloc _
  have hubA := blk_new w3 (.cells #[.int .u64 0, .int .u64 0, .int .u64 0, .int .u64 0, .int .u64 0, .int .u64 0, .int .u64 0] 150)
  have hcbA := blk_alloc hcb (.cells #[.int .u64 0, .int .u64 0, .int .u64 0, .int .u64 0, .int .u64 0, .int .u64 0, .int .u64 0] 150)
  have lcb := blk_lt hcb
  have l3 := hk3.size
  obtain ⟨vb, hvb⟩ : ∃ z, z = w2.heap.size := ⟨_, rfl⟩
  obtain ⟨ub, hub⟩ : ∃ z, z = w3.heap.size := ⟨_, rfl⟩
  rw [← hvb] at hcbA ls lg lgv lcb l3 ⊢
  rw [← hub] at hubA HM3 lcb l3
  have HSZ := Lib.hid (And.intro hvb hub)
  clear hcb hvb hub hk3 HN HS162
  go_wp2_with fail
  refine HM3.mono ?_
  rintro e w4 ⟨rfl, rfl⟩
  clear HM3
  generalize w3.alloc (.cells #[.int .u64 0, .int .u64 0, .int .u64 0, .int .u64 0, .int .u64 0, .int .u64 0, .int .u64 0] 150) = w4 at *
  have HL1 := Lib.hid (lsh165 vb vc gv cv vl vh s (64 - s) z0 z1 zr w4 hcbA (hkA.cell hv0 (fun h => h)) (hkA.cell hv1 (fun h => h)) (by omega) (by have := HNUM.out; omega) (by omega) HSC.out.2)
  go_wp2_with fail
  refine HL1.out.mono ?_
  rintro e w5 ⟨c1, rfl, V1, V0, hV1, hV0, hVe, hc1s, hcb5, hk5⟩
  obtain ⟨rfl, hV1t⟩ := lsh_top HSC.out.1 (by have := HNUM.out; omega) hVe hV1 hV0
  rw [Nat.zero_mul, Nat.zero_add, show vh * 18446744073709551616 + vl = n by have := HNUM.out; omega] at hVe
  have HV1 := Lib.hid (And.intro hVe (And.intro hV1 (And.intro hV0 hV1t)))
  clear hVe hc1s HL1
  have hub5 := hk5.blk hubA (by omega)
  have hg5 := hk5.blk (hkA.blk hb (fun h => h)) (by omega)
  have HL2 := Lib.hid (lsh165 ub 7 g 2 lo hi s (64 - s) (.int .u64 0) (.int .u64 0) [.int .u64 0, .int .u64 0, .int .u64 0, .int .u64 0, .int .u64 0] w5 hub5 (blk_cell hg5 0) (blk_cell hg5 1) (by omega) hlo hhi HSC.out.2)
  go_wp2_with fail
  refine HL2.out.mono ?_
  rintro e w6 ⟨U2, rfl, U1, U0, hU1, hU0, hUe, hU2s, hub6, hk6⟩
  rw [show hi * 18446744073709551616 + lo = m by have := HNUM.out; omega] at hUe
  have hU2V : U2 < V1 := by
    have h1 : 2 ^ s ≤ 2 ^ 63 := Nat.pow_le_pow_right (by decide) (by omega)
    have h2 : (2 : Nat) ^ 63 = 9223372036854775808 := by decide
    have := HV1.out.2.2.2
    omega
  have HU1 := Lib.hid (And.intro hUe (And.intro hU1 (And.intro hU0 hU2V)))
  have hub6c : w6.cell? ⟨ub, 2, none⟩ = some (.int .u64 0) := blk_cell hub6 2
  have hub6f := blk_frozen hub6 2
  have hub7 : (w6.setCell ⟨ub, 2, none⟩ (.int .u64 (U2 : Nat))).heap[ub]? = some (.cells (uRow U0 U1 U2 [.int .u64 0, .int .u64 0, .int .u64 0, .int .u64 0]) 150 (0, 0)) := by have := blk_set hub6 2 (.int .u64 (U2 : Nat)); simpa [uRow] using this
  have hk7 := hk6.setCell (p := ⟨ub, 2, none⟩) (.inl rfl) (.int .u64 (U2 : Nat))
  have hg7 := hk7.blk hg5 (by omega)
  have hvb7 := hk7.blk hcb5 (by omega)
  have hkB : Keep (fun _ => False) w2 (w6.setCell ⟨ub, 2, none⟩ (.int .u64 (U2 : Nat))) := (hkA.step hk5 (fun i hi => .inr (by have := HSZ.out; omega))).step hk7 (fun i hi => .inr (by have := HSZ.out; omega))
  have hS7 := hkB.blk hS (fun h => h)
  have hG7 := hkB.cell hG (fun h => h)
  have hgub : g ≠ ub := by omega
  have HAL := Lib.hid (alias166 g 2 ub hgub _ hg7 hub7)
  have HM1 := Lib.hid (fun w => make132_reuse (some ⟨g, 0, none⟩) 2 2 1 w (by decide))
  have HK := Lib.hid (And.intro hub7 (And.intro hg7 (And.intro hvb7 (And.intro hkB hS7))))
  clear hk7 hub7 hg7 hvb7 hkB hS7 hUe hU2s hub6 HL2 hg5 hub5 hcb5 hubA hcbA
  go_wp2_with fail
  refine HAL.out.mono ?_
  rintro e w8 ⟨rfl, hk8⟩
  have hG8 := hk8.cell hG7 (fun h => h)
  go_wp2_with fail
  refine (HM1.out _).mono ?_
  rintro e w9 ⟨rfl, rfl⟩
  obtain ⟨e1, e2⟩ := scaled_div (m := m) (n := n) (S := 2 ^ s) (Nat.pow_pos (by decide)) HV1.out.1.symm HU1.out.1.symm
  have HDB := Lib.hid (divBasic167 g 2 ub vb vc sb lo U0 U1 U2 V0 V1 [.int .u64 (hi : Nat)] [.int .u64 0, .int .u64 0, .int .u64 0, .int .u64 0] zr w9 (hk8.blk HK.out.2.2.2.2 (fun h => h)) (hk8.blk HK.out.2.1 (fun h => h)) (hk8.blk HK.out.1 (fun h => h)) (hk8.blk HK.out.2.2.1 (fun h => h)) hgub (by omega) (by omega) HU1.out.2.2.1 HU1.out.2.1 HU1.out.2.2.2 HV1.out.2.2.1 HV1.out.2.1 (by have := HV1.out.2.2.2; omega) _ _ e1.symm e2.symm)
  clear e1 e2 HAL HM1
  go_wp2_with fail
  refine HDB.out.mono ?_
  rintro e wa ⟨rfl, hga, huba, hka⟩
  clear HDB
  obtain ⟨QQ, hQQ⟩ : ∃ z, z = m / n := ⟨_, rfl⟩
  obtain ⟨RR, hRR⟩ : ∃ z, z = m % n := ⟨_, rfl⟩
  rw [← hQQ] at hga
  rw [← hRR] at huba
  have hQ9 : QQ < 18446744073709551616 := by
    rw [hQQ]
    exact digit_small (by have := HNUM.out; omega) HNUM.out.2.2.2.2.1
  have hRV : RR * 2 ^ s < 340282366920938463463374607431768211456 := by
    have h1 : RR < n := by rw [hRR]; exact Nat.mod_lt _ (by have := HNUM.out; omega)
    have h2 : RR * 2 ^ s ≤ n * 2 ^ s := Nat.mul_le_mul_right _ (Nat.le_of_lt h1)
    have h3 := HV1.out
    omega
  have hRB : RR < 18446744073709551616 * 18446744073709551616 := by
    have h2 : RR * 1 ≤ RR * 2 ^ s := Nat.mul_le_mul_left _ (Nat.pow_pos (by decide))
    omega
  have HNQ := normV g 1 2 [QQ] wa rfl (by decide) (by decide) (fun k hk => by
    have hk : k < 1 := hk
    obtain rfl : k = 0 := by omega
    rw [blk_cell hga]; rfl) (fun d hd => by simp at hd; subst hd; exact hQ9) (by simp [wv]; omega)
  rw [show wv [QQ] = QQ by simp [wv]] at HNQ
  have HNQ := Lib.hid HNQ
  obtain ⟨RS, hRS⟩ : ∃ z, z = RR * 2 ^ s := ⟨_, rfl⟩
  rw [← hRS] at huba hRV
  have HRS := Lib.hid (rsh169 ub 7 (RS % 18446744073709551616) (RS / 18446744073709551616) 0 s (64 - s) _ wa huba (Nat.mod_lt _ (by decide)) (by omega) (by decide) HSC.out.2 RR (by rw [← hRS]; omega))
  have HFIN := Lib.hid (And.intro hQ9 (And.intro hRB (And.intro hQQ hRR)))
  clear hQQ hRR hRS hQ9 hRV hRB
  go_wp2_with fail
  refine HNQ.out.mono ?_
  rintro e wb ⟨rfl, hNQ, rfl⟩
  have HNQ2 := Lib.hid hNQ
  generalize hwq : wlen QQ = kq at *
  clear hNQ HNQ
  go_wp2_with fail
  refine HRS.out.mono ?_
  rintro e wc ⟨cc, rfl, r0, r1, r2, g0, g1, g2, hwr, hubc, hkc⟩
  have HNR := normV ub 3 7 [r0, r1, r2] wc rfl (by decide) (by decide) (fun k hk => by
    have hk : k < 3 := hk
    rw [Nat.zero_add, blk_cell hubc]
    match k, hk with
    | 0, _ => rfl
    | 1, _ => rfl
    | 2, _ => rfl) (fun d hd => by simp at hd; rcases hd with rfl | rfl | rfl <;> assumption) (by rw [hwr]; exact HFIN.out.2.1)
  rw [hwr] at HNR
  have HNR := Lib.hid HNR
  have HKC := Lib.hid (And.intro hkc hwq)
  clear hubc hwr hkc hwq
  generalize hwk : wlen RR = kr at *
  go_wp2_with fail
  refine HNR.out.mono ?_
  rintro e wd ⟨rfl, hNR, rfl⟩
  have HNR2 := Lib.hid hNR
  clear hNR HNR
  go_wp2_with fail
  have hsg : sb ≠ g := blk_ne hS hb (by decide)
  have hkT : Keep (fun b => b = g) w2 wd := ((((HK.out.2.2.2.1.trans hk8).mono (S' := fun b => b = g) (fun _ h => h.elim)).step hka (fun i hi => hi.elim (fun h => .inl h) (fun h => .inr (by have := HSZ.out; omega)))).step HKC.out.1 (fun i hi => .inr (by have := HSZ.out; omega)))
  refine leaves_cons (f := 161) (args := #[.pointer (some ⟨sb, 0, none⟩), .int .i64 0]) (by simp) (by simp [go_sem]) ?_
  refine (restoreD sb 0 .returning _ (hkT.blk hS hsg)).mono ?_
  rintro e u' w'' ⟨rfl, rfl, rfl⟩
  refine ⟨_, results_tmp2 rfl _ _ _, _, _, rfl, ?_, ?_, hkT⟩
  · rw [← HFIN.out.2.2.1]
    exact HNQ2.out.keepS HKC.out.1 hgub
  · rw [← HFIN.out.2.2.2]
    exact HNR2.out
end Go.Proofs.YtamkglgiaiejkaaGreatDoor

/-! Natural numbers of words: division. -/
namespace Go.Proofs.YtamkglgiaiejkaaGreatDoor
open Go.RowKit

set_option maxRecDepth 100000 in
set_option maxHeartbeats 4000000 in
theorem freeD (k : Nat) (u : FrameMode) (w : World) (hb : w.heap[k]? = some (.cells #[.pointer none] 209 (0, 0))) : CallsD Tryz.prog 129 #[.pointer (some ⟨k, 0, none⟩)] u w fun e u' w' => u' = u ∧ e = .returned (.tuple #[]) ∧ w' = w := by
  have hc := blk_cell hb 0
  have hf := blk_frozen hb
  go_enter_d Tryz.func129, Tryz.ntmps129
  go_wp2_with fail
  go_end0
  exact ⟨rfl, rfl⟩
set_option maxRecDepth 100000 in
set_option maxHeartbeats 8000000 in
theorem div103 (g m n : Nat) (v : Value) (w : World) (hg : BV w g m) (hv : NV w v n) (hG : w.cell? ⟨2, 0, none⟩ = some (.int .i64 40)) (hn0 : 0 < n) (hn9 : n < 170141183460469231731687303715884105728) :
    Calls Tryz.prog 103 #[.slice (some ⟨g, 0, none⟩) (wlen m) 2, .pointer none, .slice none 0 0, .slice (some ⟨g, 0, none⟩) (wlen m) 2, v] w fun e w' => ∃ q r, e = .returned (.tuple #[q, r]) ∧ NV w' q (m / n) ∧ NV w' r (m % n) ∧ Keep (fun b => b = g) w w' := by
  have hnvm := hg.nv
  rcases hv.cases with ⟨rfl, _⟩ | ⟨_, hn1, gv, cv, rfl, hcv, y0⟩ | ⟨hn1, gv, cv, rfl, hcv, y0, y1⟩
  · omega
  · have HD := Lib.hid (divW125 g m n w hg hn0 hn1)
    have hmn : m % n < 18446744073709551616 := Nat.lt_trans (Nat.mod_lt _ hn0) hn1
    generalize wlen m = k at *
    generalize m % n = r at *
    generalize m / n = q at *
    clear hg hv hnvm
    go_enter_defers Tryz.func103, Tryz.ntmps103
    go_wp2_with fail
    refine HD.out.mono ?_
    rintro e w1 ⟨vq, rfl, hq, hk⟩
    have HQ := Lib.hid hq
    have HW := Lib.hid (setWord126_nil r hmn w1)
    obtain ⟨A, c, rfl, _⟩ := hq
    generalize wlen q = kq at *
    clear HD
    go_wp2_with fail
    refine HW.out.mono ?_
    rintro e w2 ⟨vr, rfl, hr, hk2⟩
    have HR := Lib.hid hr
    obtain ⟨A', c', rfl, _⟩ := hr
    generalize wlen r = kr at *
    go_wp2_with fail
    exact ⟨_, results_tmp2 rfl _ _ _, .slice A kq c, .slice A' kr c', rfl, HQ.out.keep hk2, HR.out, hk.trans (hk2.mono (fun _ h => h.elim))⟩
  · have HC := Lib.hid (cmp108 _ _ m n w hnvm hv hn1)
    by_cases hlt : m < n
    · have HS := Lib.hid (fun w (h : NV w (.slice (some ⟨g, 0, none⟩) (wlen m) 2) m) => set127_nil _ m w h)
      have HV := Lib.hid hnvm
      have HE := Lib.hid (And.intro (Nat.div_eq_of_lt hlt) (Nat.mod_eq_of_lt hlt))
      generalize wlen m = k at *
      clear hg hv hnvm y0 y1
      go_enter_defers Tryz.func103, Tryz.ntmps103
      go_wp2_with fail
      refine HC.out.mono ?_
      rintro e w1 ⟨c, rfl, hc, hk⟩
      have hc0 : c < 0 := hc.2 hlt
      go_wp2_with fail
      refine (HS.out _ (HV.out.keep hk)).mono ?_
      rintro e w2 ⟨vr, rfl, hr, hk2⟩
      have HR := Lib.hid hr
      obtain ⟨A', c', rfl, _⟩ := hr
      generalize wlen m = kr at *
      go_wp2_with fail
      refine ⟨_, results_tmp2 rfl _ _ _, .slice (some ⟨g, 0, none⟩) 0 2, .slice A' kr c', rfl, ?_, ?_, (hk.trans hk2).mono (fun _ h => h.elim)⟩
      · rw [HE.out.1]
        exact NV.nil _ _ _
      · rw [HE.out.2]
        exact HR.out
    · have hm2 := wlen_two (show 18446744073709551616 ≤ m by omega)
      generalize wlen m = k at *
      subst hm2
      have HY := Lib.hid (And.intro y0 y1)
      have HB := Lib.hid hg
      have lg : g < w.heap.size := by
        obtain ⟨_, _, _, _, _, hb⟩ := hg
        exact blk_lt hb
      have hm1 : 18446744073709551616 ≤ m := by omega
      clear hg hv hnvm y0 y1
      go_enter_defers Tryz.func103, Tryz.ntmps103
      go_wp2_with fail
      refine HC.out.mono ?_
      rintro e w1 ⟨c, rfl, hc, hk⟩
      have hc0 : ¬ c < 0 := fun h => hlt (hc.1 h)
      have lg1 := Nat.lt_of_lt_of_le lg hk.size
      have HGS := Lib.hid (getStack128 w1)
      go_wp2_with fail
      refine HGS.out.mono ?_
      rintro e w2 ⟨rfl, rfl⟩
      have hst := blk_new w1 (.cells #[.pointer none] 209)
      have hkA : Keep (fun _ => False) w (w1.alloc (.cells #[.pointer none] 209)) := hk.alloc _
      obtain ⟨sb, hsb⟩ : ∃ z, z = w1.heap.size := ⟨_, rfl⟩
      rw [← hsb] at hst ⊢
      have hsg : sb ≠ g := by omega
      have HSB := Lib.hid hsb
      clear hsb HGS
      generalize w1.alloc (.cells #[.pointer none] 209) = w2 at *
      have HDL := Lib.hid (divLarge130 g sb gv cv m n w2 hst (by
        obtain ⟨lo, hi, e1, e2, e3, hb⟩ := HB.out
        exact ⟨lo, hi, e1, e2, e3, hkA.blk hb (fun h => h)⟩) (hkA.cell hG (fun h => h)) hm1 hn1 hn9 (hkA.cell HY.out.1 (fun h => h)) (hkA.cell HY.out.2 (fun h => h)))
      go_wp2_with fail
      refine HDL.out.mono ?_
      rintro e w3 ⟨vq, vr, rfl, hq, hr, hk3⟩
      have HQR := Lib.hid (And.intro hq hr)
      obtain ⟨A, c1, rfl, _⟩ := hq
      obtain ⟨A', c2, rfl, _⟩ := hr
      generalize wlen (m / n) = kq at *
      generalize wlen (m % n) = kr at *
      go_wp2_with fail
      refine leaves_cons (f := 129) (args := #[.pointer (some ⟨sb, 0, none⟩)]) (by simp) (by simp [go_sem]) ?_
      refine (freeD sb .returning _ (hk3.blk hst hsg)).mono ?_
      rintro e u' w'' ⟨rfl, rfl, rfl⟩
      exact ⟨_, results_tmp2 rfl _ _ _, .slice A kq c1, .slice A' kr c2, rfl, HQR.out.1, HQR.out.2, (hkA.mono (fun _ h => h.elim)).trans hk3⟩
end Go.Proofs.YtamkglgiaiejkaaGreatDoor

/-! Whole numbers of words: made of two words, their sign, their words. -/
namespace Go.Proofs.YtamkglgiaiejkaaGreatDoor
open Go.RowKit

/-- A whole number that lies at a pointer: its sign and its words. -/
def IV (w : World) (p : Nat) (neg : Bool) (n : Nat) : Prop := ∃ v, w.heap[p]? = some (.cells #[.bool neg, v] 128 (0, 0)) ∧ NV w v n
theorem IV.keep {w w' : World} {p : Nat} {neg : Bool} {n : Nat} (h : IV w p neg n) (hk : Keep (fun _ => False) w w') : IV w' p neg n := by
  obtain ⟨v, h1, h2⟩ := h
  exact ⟨v, hk.blk h1 (fun h => h), h2.keep hk⟩
set_option maxRecDepth 100000 in
set_option maxHeartbeats 4000000 in
theorem bits105 (p : Nat) (neg : Bool) (v : Value) (w : World) (h : w.heap[p]? = some (.cells #[.bool neg, v] 128 (0, 0))) (hv : ∃ A k c, v = .slice A k c) : Calls Tryz.prog 105 #[.pointer (some ⟨p, 0, none⟩)] w fun e w' => e = .returned v ∧ w' = w := by
  obtain ⟨A, k, c, rfl⟩ := hv
  have hc := blk_cell h 1
  have hf := blk_frozen h
  simp only [List.getElem?_toArray, List.getElem?_cons_zero, List.getElem?_cons_succ] at hc
  go_enter Tryz.func105, Tryz.ntmps105
  go_wp2_with fail
  go_ret
  exact ⟨rfl, rfl⟩
set_option maxRecDepth 100000 in
set_option maxHeartbeats 4000000 in
theorem sign106 (p : Nat) (neg : Bool) (n : Nat) (w : World) (h : IV w p neg n) : Calls Tryz.prog 106 #[.pointer (some ⟨p, 0, none⟩)] w fun e w' => ∃ s : Int, e = .returned (.int .i64 s) ∧ (s < 0 ↔ (neg = true ∧ 0 < n)) ∧ w' = w := by
  obtain ⟨v, hb, hv⟩ := h
  have hc0 := blk_cell hb 0
  have hc1 := blk_cell hb 1
  have hf := blk_frozen hb
  simp only [List.getElem?_toArray, List.getElem?_cons_zero, List.getElem?_cons_succ] at hc0 hc1
  rcases hv.cases with ⟨rfl, A, c, rfl⟩ | ⟨h0, _, g, c, rfl, _, _⟩ | ⟨h0, g, c, rfl, _, _, _⟩
  · go_enter Tryz.func106, Tryz.ntmps106
    go_wp2_with fail
    go_ret
    exact ⟨0, rfl, by simp, rfl⟩
  · cases neg
    · go_enter Tryz.func106, Tryz.ntmps106
      go_wp2_with fail
      go_ret
      exact ⟨1, rfl, by simp, rfl⟩
    · go_enter Tryz.func106, Tryz.ntmps106
      go_wp2_with fail
      go_ret
      exact ⟨-1, rfl, by simp; omega, rfl⟩
  · cases neg
    · go_enter Tryz.func106, Tryz.ntmps106
      go_wp2_with fail
      go_ret
      exact ⟨1, rfl, by simp, rfl⟩
    · go_enter Tryz.func106, Tryz.ntmps106
      go_wp2_with fail
      go_ret
      exact ⟨-1, rfl, by simp; omega, rfl⟩
set_option maxRecDepth 100000 in
set_option maxHeartbeats 4000000 in
/-- A whole number is set to its words. -/
theorem setBits124 (p g n : Nat) (b0 : Bool) (v0 : Value) (w : World) (hb : w.heap[p]? = some (.cells #[.bool b0, v0] 128 (0, 0))) (hg : BV w g n) (hn : n < 340282366920938463463374607431768211456) : Calls Tryz.prog 124 #[.pointer (some ⟨p, 0, none⟩), .slice (some ⟨g, 0, none⟩) 2 2] w fun e w' => e = .returned (.pointer (some ⟨p, 0, none⟩)) ∧ w'.heap[p]? = some (.cells #[.bool false, .slice (some ⟨g, 0, none⟩) (wlen n) 2] 128 (0, 0)) ∧ BV w' g n ∧ Keep (fun b => b = p) w w' := by
  have hgg := hg
  obtain ⟨lo, hi, hn', hlo, hhi, hbg⟩ := hg
  have hpg : g ≠ p := blk_ne hbg hb (by decide)
  have HN := normV g 2 2 [lo, hi] w rfl (by decide) (by decide) (fun k hk => by
    have hk : k < 2 := hk
    rw [Nat.zero_add, blk_cell hbg]
    match k, hk with
    | 0, _ => rfl
    | 1, _ => rfl) (fun d hd => by simp at hd; rcases hd with rfl | rfl <;> assumption) (by simp [wv]; omega)
  rw [show wv [lo, hi] = n by rw [hn']; simp [wv]] at HN
  have HN := Lib.hid HN
  have hc0 := blk_cell hb 0
  have hc1 := blk_cell hb 1
  have hf := blk_frozen hb
  have hs := blk_set (blk_set hb 1 (.slice (some ⟨g, 0, none⟩) (wlen n) 2)) 0 (.bool false)
  have hk : Keep (fun b => b = p) w ((w.setCell ⟨p, 1, none⟩ (.slice (some ⟨g, 0, none⟩) (wlen n) 2)).setCell ⟨p, 0, none⟩ (.bool false)) := ((Keep.refl (fun b => b = p) w).setCell (p := ⟨p, 1, none⟩) (.inl rfl) _).setCell (p := ⟨p, 0, none⟩) (.inl rfl) _
  have HS := Lib.hid (And.intro hs (And.intro (hk.blk hbg hpg) hk))
  have HZ := Lib.hid (And.intro hn' (And.intro hlo hhi))
  simp only [List.getElem?_toArray, List.getElem?_cons_zero, List.getElem?_cons_succ] at hc0 hc1
  clear hs hk hgg hbg hn'
  generalize hkn : wlen n = k at *
  go_enter Tryz.func124, Tryz.ntmps124
  go_wp2_with fail
  refine HN.out.mono ?_
  rintro e w1 ⟨rfl, _, rfl⟩
  go_wp2_with fail
  go_ret
  exact ⟨rfl, HS.out.1, ⟨lo, hi, HZ.out.1, HZ.out.2.1, HZ.out.2.2, HS.out.2.1⟩, HS.out.2.2⟩
end Go.Proofs.YtamkglgiaiejkaaGreatDoor

/-! Decimals of 128 bits: made big integers. -/
namespace Go.Proofs.YtamkglgiaiejkaaGreatDoor
open Go.RowKit

set_option maxRecDepth 100000 in
set_option maxHeartbeats 4000000 in
theorem toBig101 (lo hi : Nat) (hlo : lo < 18446744073709551616) (hhi : hi < 9223372036854775808) (w : World) : Calls Tryz.prog 101 #[.agg #[.int .u64 lo, .int .i64 hi]] w fun e w' => ∃ p g : Nat, e = .returned (.pointer (some ⟨p, 0, none⟩)) ∧ w.heap.size ≤ p ∧ w.heap.size ≤ g ∧ w'.heap[p]? = some (.cells #[.bool false, .slice (some ⟨g, 0, none⟩) (wlen (lo + 18446744073709551616 * hi)) 2] 128 (0, 0)) ∧ BV w' g (lo + 18446744073709551616 * hi) ∧ Keep (fun _ => False) w w' := by
  have hw : IntKind.u64.wrap (hi : Int) = (hi : Int) := by rw [IntKind.wrap_u64]; omega
  have hk : Keep (fun _ => False) w (((w.alloc (.cells #[.int .u64 lo, .int .i64 hi] 42)).alloc (.cells #[.bool false, .slice none 0 0] 128)).alloc (.cells #[.int .u64 lo, .int .u64 hi] 150)) := (((Keep.refl _ w).alloc _).alloc _).alloc _
  have hp : (((w.alloc (.cells #[.int .u64 lo, .int .i64 hi] 42)).alloc (.cells #[.bool false, .slice none 0 0] 128)).alloc (.cells #[.int .u64 lo, .int .u64 hi] 150)).heap[w.heap.size + 1]? = some (.cells #[.bool false, .slice none 0 0] 128 (0, 0)) := by
    have := blk_alloc (blk_new (w.alloc (.cells #[.int .u64 lo, .int .i64 hi] 42)) (.cells #[.bool false, .slice none 0 0] 128)) (.cells #[.int .u64 lo, .int .u64 hi] 150)
    simpa using this
  have hgb : (((w.alloc (.cells #[.int .u64 lo, .int .i64 hi] 42)).alloc (.cells #[.bool false, .slice none 0 0] 128)).alloc (.cells #[.int .u64 lo, .int .u64 hi] 150)).heap[w.heap.size + 2]? = some (.cells #[.int .u64 lo, .int .u64 hi] 150 (0, 0)) := by
    have := blk_new ((w.alloc (.cells #[.int .u64 lo, .int .i64 hi] 42)).alloc (.cells #[.bool false, .slice none 0 0] 128)) (.cells #[.int .u64 lo, .int .u64 hi] 150)
    simpa using this
  have HS := Lib.hid (setBits124 (w.heap.size + 1) (w.heap.size + 2) (lo + 18446744073709551616 * hi) false (.slice none 0 0) _ hp ⟨lo, hi, rfl, hlo, by omega, hgb⟩ (by omega))
  have HK := Lib.hid hk
  clear hk hp hgb
  go_enter Tryz.func101, Tryz.ntmps101
  go_wp2_with fail
  refine HS.out.mono ?_
  rintro e w1 ⟨rfl, hp1, hg1, hk1⟩
  go_wp2_with fail
  go_ret
  exact ⟨_, _, rfl, by omega, by omega, hp1, hg1, HK.out.step hk1 (fun i hi => .inr (by omega))⟩
end Go.Proofs.YtamkglgiaiejkaaGreatDoor

/-! Whole numbers of words: turned about. -/
namespace Go.Proofs.YtamkglgiaiejkaaGreatDoor
open Go.RowKit

set_option maxRecDepth 100000 in
theorem run_neq_same (w : World) (a : Addr) : (binOp .neq 121 (.pointer (some a)) (.pointer (some a))).run Tryz.prog w = .ok (.bool false) w := by
  have hp : Tryz.prog.underlying 121 = some (.pointer 128) := by kernel_rfl
  obtain ⟨j, hj⟩ : ∃ j, Tryz.prog.info? 128 = some j := ⟨_, rfl⟩
  have h : ∀ d : Nat, (Op.equalIn (d + 1) 121 (.pointer (some a)) (.pointer (some a))).run Tryz.prog w = .ok true w := fun d => by
    simp [Op.equalIn, run_underlying hp, sizeOf, typeInfo, hj, run_sameAddr_same]
  simp only [binOp]
  simp [Op.equal, Op.maxDepth, h 9999]
set_option maxRecDepth 100000 in
set_option maxHeartbeats 4000000 in
theorem set107_self (a : Addr) (w : World) : Calls Tryz.prog 107 #[.pointer (some a), .pointer (some a)] w fun e w' => e = .returned (.pointer (some a)) ∧ w' = w := by
  have HE := run_neq_same w a
  go_enter Tryz.func107, Tryz.ntmps107
  go_wp2_with fail
  go_ret
  exact ⟨rfl, rfl⟩
set_option maxRecDepth 100000 in
set_option maxHeartbeats 4000000 in
theorem neg102_self (p : Nat) (neg : Bool) (A : Option Addr) (k c : Nat) (w : World) (hb : w.heap[p]? = some (.cells #[.bool neg, .slice A k c] 128 (0, 0))) : Calls Tryz.prog 102 #[.pointer (some ⟨p, 0, none⟩), .pointer (some ⟨p, 0, none⟩)] w fun e w' => e = .returned (.pointer (some ⟨p, 0, none⟩)) ∧ w'.heap[p]? = some (.cells #[.bool (decide (0 < k) && !neg), .slice A k c] 128 (0, 0)) ∧ Keep (fun b => b = p) w w' := by
  have HS := set107_self ⟨p, 0, none⟩ w
  have hc0 := blk_cell hb 0
  have hc1 := blk_cell hb 1
  have hf := blk_frozen hb
  simp only [List.getElem?_toArray, List.getElem?_cons_zero, List.getElem?_cons_succ] at hc0 hc1
  have HB := Lib.hid (And.intro (blk_set hb 0 (.bool (decide (0 < k) && !neg))) ((Keep.refl (fun b => b = p) w).setCell (p := ⟨p, 0, none⟩) (.inl rfl) (.bool (decide (0 < k) && !neg))))
  by_cases h0 : 0 < k
  · have h0' : (0 : Int) < (k : Int) := by omega
    cases neg
    · go_enter Tryz.func102, Tryz.ntmps102
      go_wp2_with fail
      refine HS.mono ?_
      rintro e w1 ⟨rfl, rfl⟩
      go_wp2_with fail
      go_ret
      have := HB.out
      simp only [h0, decide_true, Bool.true_and, Bool.not_false] at this ⊢
      exact ⟨rfl, this.1, this.2⟩
    · go_enter Tryz.func102, Tryz.ntmps102
      go_wp2_with fail
      refine HS.mono ?_
      rintro e w1 ⟨rfl, rfl⟩
      go_wp2_with fail
      go_ret
      have := HB.out
      simp only [h0, decide_true, Bool.true_and, Bool.not_true] at this ⊢
      exact ⟨rfl, this.1, this.2⟩
  · obtain rfl : k = 0 := by omega
    go_enter Tryz.func102, Tryz.ntmps102
    go_wp2_with fail
    refine HS.mono ?_
    rintro e w1 ⟨rfl, rfl⟩
    go_wp2_with fail
    go_ret
    have := HB.out
    simp only [Nat.lt_irrefl, decide_false, Bool.false_and] at this ⊢
    exact ⟨rfl, this.1, this.2⟩
end Go.Proofs.YtamkglgiaiejkaaGreatDoor
