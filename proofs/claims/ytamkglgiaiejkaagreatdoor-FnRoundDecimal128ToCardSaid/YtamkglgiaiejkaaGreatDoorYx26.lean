import Derived.Test.YtamkglgiaiejkaaGreatDoorYx17
import Derived.Shelf.Spec.TrailingZeros
/-! Digits are divided, bit by bit. -/
namespace Go.Proofs.YtamkglgiaiejkaaGreatDoor
open Go.RowKit

theorem bits_and_one (x : Nat) (hx : x < 4294967296) : bits .and .u32 (x : Int) 1 = ((x % 2 : Nat) : Int) := by
  have h := bits_and_u32_nat x 1 hx (by decide)
  rw [Nat.and_one_is_mod] at h
  exact h
theorem bits_or_u32_nat (a b : Nat) (ha : a < 4294967296) (hb : b < 4294967296) : bits .or .u32 (a : Int) (b : Int) = ((a ||| b : Nat) : Int) := by
  have hx : a ||| b < 2 ^ 32 := Nat.or_lt_two_pow (by omega) (by omega)
  have h1 : (BitVec.ofInt 32 (a : Int)).toNat = a := by
    rw [BitVec.ofInt_natCast, BitVec.toNat_ofNat]; exact Nat.mod_eq_of_lt (by omega)
  have h2 : (BitVec.ofInt 32 (b : Int)).toNat = b := by
    rw [BitVec.ofInt_natCast, BitVec.toNat_ofNat]; exact Nat.mod_eq_of_lt (by omega)
  show IntKind.u32.wrap ((BitVec.ofInt 32 (a : Int) ||| BitVec.ofInt 32 (b : Int)).toNat : Int) = _
  rw [BitVec.toNat_or, h1, h2, IntKind.wrap_u32]
  omega
theorem bit_val (k : Nat) : ((2 : Int) ^ (k % 32) % 4294967296) = ((2 ^ (k % 32) : Nat) : Int) ∧ 2 ^ (k % 32) < 4294967296 := by
  have h1 : (2 : Nat) ^ (k % 32) < 2 ^ 32 := Nat.pow_lt_pow_right (by decide) (Nat.mod_lt _ (by decide))
  have h2 : ((2 : Int) ^ (k % 32)) = ((2 ^ (k % 32) : Nat) : Int) := by rw [Int.natCast_pow]; rfl
  rw [h2]
  generalize 2 ^ (k % 32) = p at *
  omega
theorem MagV.keepF {S : Nat → Prop} {w w' : World} {v : Value} {l : List Nat} (h : MagV w v l) (hk : Keep S w w') (hS : ∀ g o n c, v = .slice (some ⟨g, o, none⟩) n c → ¬ S g) : MagV w' v l := by
  obtain ⟨A, c, rfl, h1, h2⟩ := h
  refine ⟨A, c, rfl, h1, fun h0 => ?_⟩
  obtain ⟨g, o, rfl, hr⟩ := h2 h0
  exact ⟨g, o, rfl, hr.keep hk (hS g o _ _ rfl)⟩
set_option maxRecDepth 100000 in
set_option maxHeartbeats 4000000 in
theorem magDiv33 (u v : Value) (a b : Nat) (w : World) (hu : MagV w u (digs a)) (hv : MagV w v (digs b)) (hb : 0 < b) (ha9 : (digs a).length ≤ 1000) (hb9 : (digs b).length ≤ 1000) : Calls Tryz.prog 33 #[u, v] w fun e w' => ∃ x y, e = .returned (.tuple #[x, y]) ∧ MagV w' x (digs (a / b)) ∧ MagV w' y (digs (a % b)) ∧ Keep (fun _ => False) w w' := by
  have HU := Lib.hid (And.intro hu hv)
  have HA := Lib.hid (And.intro (digs_digs a) (And.intro (digs_digs b) (And.intro (val_digs a) (val_lt (digs_digs a)))))
  obtain ⟨A, ca, rfl, _, _⟩ := hu
  obtain ⟨B, cb, rfl, _, _⟩ := hv
  obtain ⟨n, hn⟩ : ∃ n, n = (digs a).length := ⟨_, rfl⟩
  obtain ⟨m, hm⟩ : ∃ m, m = (digs b).length := ⟨_, rfl⟩
  rw [← hn] at ha9 HU HA ⊢
  rw [← hm] at hb9 HU ⊢
  have HN := Lib.hid (And.intro hn hm)
  have hmk := make_small (t := 27) (e := 65) (by kernel_rfl) info65 rfl (by omega) n (by omega) w
  have hod := OD.made w n (by omega)
  have hk0 : Keep (fun _ => False) w (w.alloc (.cells (madeCells #[.int .u32 0] n) 65)) := (Keep.refl _ w).alloc _
  clear hn hm
  go_enter Tryz.func33, Tryz.ntmps33
  go_wp2_with fail
  obtain ⟨q, hq⟩ : ∃ q, q = w.heap.size := ⟨_, rfl⟩
  rw [← hq] at hod hmk ⊢
  have HK := Lib.hid (And.intro hk0 (And.intro hod hq))
  clear hk0 hod hmk hq
  generalize w.alloc (.cells (madeCells #[.int .u32 0] n) 65) = w0 at *
  go_loopw [5, 6] (fun r i wr => ∃ (k : Nat) (o : List Nat), i = .int .i64 ((k : Int) - 1) ∧ k ≤ 32 * n ∧ MagV wr r (digs (a / 2 ^ k % b)) ∧ o.length = n ∧ OD wr q (.slice (some ⟨q, 0, none⟩) n n) o ∧ Digs o ∧ val o = 2 ^ k * (a / 2 ^ k / b) ∧ Keep (fun _ => False) w wr) (fun _ i _ => (intOf i + 1).toNat)
  case atStart =>
    have h0 : a / 2 ^ (32 * n) = 0 := Nat.div_eq_of_lt (by have := HA.out.2.2.2; rw [HA.out.2.2.1] at this; rw [Nat.pow_mul]; exact this)
    refine ⟨32 * n, List.replicate n 0, by go_num, by omega, ?_, by simp, HK.out.2.1, fun d hd => (by rw [List.eq_of_mem_replicate hd]; decide), by rw [h0, val_replicate]; simp, HK.out.1⟩
    rw [h0, Nat.zero_mod, digs_zero]
    exact ⟨none, 0, rfl, Nat.le_refl _, fun h => absurd h (by decide)⟩
  case round =>
    obtain ⟨k, o, rfl, hkn, hmr, hol, hod, hdo, hval, hk⟩ := hrel
    have hmr' := hmr
    obtain ⟨R, cr, rfl, _, _⟩ := hmr'
    have hlr : (digs (a / 2 ^ k % b)).length ≤ 1000 := by
      have := digs_length_mono (Nat.le_of_lt (Nat.mod_lt (a / 2 ^ k) hb))
      have := HN.out.2
      omega
    have HH := Lib.hid (And.intro hol (And.intro hod (And.intro hdo (And.intro hval hmr))))
    clear hol hod hdo hval
    cases k with
    | zero =>
      obtain ⟨h1, h2, h3, h4, h5⟩ := HH.out
      rw [Nat.pow_zero, Nat.div_one] at h5
      rw [Nat.pow_zero, Nat.div_one, Nat.one_mul] at h4
      have HT := Lib.hid (trim_mag (some ⟨q, 0, none⟩) n n o wr h2.mag h1 h3 (by omega))
      rw [h4] at HT
      have HM := Lib.hid h5
      rw [Nat.pow_zero, Nat.div_one]
      clear h1 h2 h3 h4 h5 HH hmr
      go_wp2_with fail
      refine HT.out.mono ?_
      rintro e w4 ⟨j, rfl, hm, rfl⟩
      go_wp2_with fail
      go_ret2
      exact ⟨.slice (some ⟨q, 0, none⟩) j n, .slice R (digs (a % b)).length cr, rfl, hm, HM.out, hk⟩
    | succ k =>
      have hkk : ((k + 1 : Nat) : Int) - 1 = (k : Int) := by omega
      have HA1 := Lib.hid (magAdd37 _ _ _ _ wr hmr hmr (digs_digs _) (digs_digs _) (by omega) (by omega))
      rw [val_digs] at HA1
      obtain ⟨r, hr⟩ : ∃ r, r = a / 2 ^ (k + 1) % b := ⟨_, rfl⟩
      rw [← hr] at HA1 hmr hlr HH ⊢
      obtain ⟨lr, hlre⟩ : ∃ l, l = (digs r).length := ⟨_, rfl⟩
      rw [← hlre] at HA1 hlr ⊢
      have HR := Lib.hid (And.intro hr hlre)
      clear hr hlre hmr
      rw [hkk]
      go_wp2_with fail
      refine HA1.out.mono ?_
      rintro e w1 ⟨x1, l1, rfl, hod1, hdl1, hvl1, hlen1, hk1⟩
      have hm1 := hod1.mag
      obtain ⟨A1, c1, rfl, _, _⟩ := hod1.mag
      have hka := hk.trans hk1
      obtain ⟨g, oo, rfl, hcell⟩ := (HU.out.1.keep hka (fun _ _ h => h)).cell (k / 32) (by rw [← HN.out.1]; omega)
      obtain ⟨d, hd⟩ : ∃ d, d = (digs a).getD (k / 32) 0 := ⟨_, rfl⟩
      rw [← hd] at hcell
      obtain ⟨t, ht⟩ : ∃ t, t = d / 2 ^ (k % 32) % 2 := ⟨_, rfl⟩
      have hta : t = a / 2 ^ k % 2 := by rw [ht, hd, val_bit HA.out.1, HA.out.2.2.1]
      have hd9 : d < 4294967296 := by rw [hd]; exact getD_lt HA.out.1 _
      have hde : (d : Int) / 2 ^ (k % 32) = ((d / 2 ^ (k % 32) : Nat) : Int) := by
        rw [Int.natCast_ediv, Int.natCast_pow]; rfl
      have hbit : (bits .and .u32 ((d : Int) / 2 ^ (k % 32)) 1 == 1) = decide (t = 1) := by
        rw [hde, bits_and_one _ (Nat.lt_of_le_of_lt (Nat.div_le_self _ _) hd9), ← ht]
        by_cases h : t = 1
        · simp [h]
        · simp [h]; omega
      have hstep := div_step (A := a) (b := b) (i := k) (r := r) hb HR.out.1
      rw [← hta] at hstep
      have ht2 : t < 2 := by rw [ht]; exact Nat.mod_lt _ (by decide)
      have HD := Lib.hid (And.intro hd (And.intro hstep ht2))
      clear hd HA1 hde hta ht hstep
      by_cases hone : t = 1
      · have hbit1 : (bits .and .u32 ((d : Int) / 2 ^ (k % 32)) 1 == 1) = true := by rw [hbit]; simp [hone]
        clear hbit
        have hko : Keep (fun _ => False) w1 (w1.alloc (.cells #[.int .u32 1] 65)) := (Keep.refl _ w1).alloc _
        have hmo : MagV (w1.alloc (.cells #[.int .u32 1] 65)) (.slice (some ⟨w1.heap.size, 0, none⟩) 1 1) [1] := ⟨_, 1, rfl, Nat.le_refl _, fun _ => ⟨w1.heap.size, 0, rfl, fun j hj => by
          rw [blk_cell (blk_new w1 _)]
          match j, hj with
          | 0, _ => rfl⟩⟩
        have HA2 := Lib.hid (magAdd37 _ _ l1 [1] (w1.alloc (.cells #[.int .u32 1] 65)) (hm1.keep hko (fun _ _ h => h)) hmo hdl1 (by intro z hz; simp at hz; omega) (by omega) (by decide))
        clear hmo
        go_wp2_with fail
        refine HA2.out.mono ?_
        rintro e w2 ⟨x2, l2, rfl, hod2, hdl2, hvl2, hlen2, hk2⟩
        have hm2 := hod2.mag
        obtain ⟨A2, c2, rfl, _, _⟩ := hod2.mag
        have hkb := (hka.trans hko).trans hk2
        have hkw := (hk1.trans hko).trans hk2
        have hv2 : val l2 = 2 * r + t := by rw [hvl2, hvl1, hone]; simp [val]; omega
        have hl29 : l2.length ≤ 1002 := by simp at hlen2; omega
        have hxl : (digs (val l2)).length ≤ 1002 := Nat.le_trans (digs_length_le (val_lt hdl2)) hl29
        have HT := Lib.hid (trim_mag A2 l2.length c2 l2 w2 hm2 rfl hdl2 (by omega))
        clear HA2 hod2 hdl2 hvl2 hlen2 hk2 hko hm1 hod1 hdl1 hvl1 hlen1 hk1 hm2
        generalize l2.length = n2 at *
        go_wp2_with fail
        refine HT.out.mono ?_
        rintro e w3 ⟨j, rfl, hm3, rfl⟩
        rw [hv2] at hm3 hxl
        obtain ⟨x, hx⟩ : ∃ x, x = 2 * r + t := ⟨_, rfl⟩
        rw [← hx] at hm3 hxl
        have HX := Lib.hid hx
        have hvb := HU.out.2.keep hkb (fun _ _ h => h)
        have HC := Lib.hid (magCmp38 _ _ x b w3 hm3 hvb (by omega) (by rw [← HN.out.2]; omega))
        by_cases hge : b ≤ x
        · have hx0 : 0 < (digs x).length := by
            rcases Nat.eq_zero_or_pos (digs x).length with e | e
            · have := digs_nil.1 (List.eq_nil_of_length_eq_zero e); omega
            · exact e
          have hcmp : ¬ (cmpI x b < 0) := by
            unfold cmpI
            rw [if_neg (by omega)]
            split <;> omega
          have HS := Lib.hid (fun w4 (hk4 : Keep (fun _ => False) w3 w4) => magSub39F _ _ (digs x) (digs b) w4 (hm3.keep hk4 (fun _ _ h => h)) (hvb.keep hk4 (fun _ _ h => h)) (digs_digs _) (digs_digs _) hx0 (by omega) (digs_length_mono hge) (by rw [val_digs, val_digs]; exact hge))
          rw [val_digs, val_digs] at HS
          generalize cmpI x b = z at *
          have HE := Lib.hid (And.intro hge hkb)
          clear HT hm3 hvb hx hx0 hge hkb hv2
          go_wp2_with fail
          refine HC.out.mono ?_
          rintro e w4 ⟨rfl, hk4⟩
          have HS := Lib.hid (HS.out w4 hk4)
          have hkc := HE.out.2.trans hk4
          have hkv := hkw.trans hk4
          clear HC hk4 hkw
          go_wp2_with fail
          refine HS.out.mono ?_
          rintro e w5 ⟨x5, rfl, hm5, hk5, hfr⟩
          have hkd := hkc.trans hk5
          have ho5 := HH.out.2.1.keep (hkv.trans hk5) (fun _ _ h => h)
          have hm5' := hm5
          have hql : q < w4.heap.size := by
            obtain ⟨_, cur, hg⟩ := HH.out.2.1.blk
            have := blk_lt hg
            have := hkv.size
            omega
          have hqn : ∀ g o n c, x5 = .slice (some ⟨g, o, none⟩) n c → ¬ g = q := fun g o n c e h => by
            have := hfr g o n c e
            omega
          obtain ⟨A5, c5, rfl, _, _⟩ := hm5'
          have hkl : k / 32 < n := by omega
          obtain ⟨hqb, cur, hg⟩ := ho5.blk
          have hf := blk_frozen hg
          obtain ⟨q', o', hqe, hcell5⟩ := ho5.mag.cell (k / 32) (by rw [HH.out.1]; exact hkl)
          cases hqe
          obtain ⟨y, hy⟩ : ∃ y, y = o.getD (k / 32) 0 := ⟨_, rfl⟩
          rw [← hy, Nat.zero_add] at hcell5
          have hor : bits .or .u32 (y : Int) (2 ^ (k % 32) % 4294967296) = ((y ||| 2 ^ (k % 32) : Nat) : Int) := by
            rw [(bit_val k).1]
            exact bits_or_u32_nat _ _ (by rw [hy]; exact getD_lt HH.out.2.2.1 _) (bit_val k).2
          have hqb2 := quot_bit (i := k) HH.out.2.2.1 (by rw [HH.out.1]; exact hkl) HH.out.2.2.2.1
          rw [← hy] at hqb2
          have HM := Lib.hid (And.intro hm5 (And.intro hkd (And.intro ho5 (And.intro hqn (And.intro hor hqb2)))))
          clear hm5 hkd ho5 hy hg HS hkc hkv hk5 hcell hqn hor hqb2 hfr
          go_wp2_with fail
          refine wp_region_mid 10 (by kernel_rfl) (by kernel_rfl) rfl ?_
          simp only [List.take_succ_cons, List.take_zero, List.drop_succ_cons, List.drop_zero]
          repeat (go_big_quiet_step (fail))
          refine wpQuiet_nil ?_
          rintro _ ⟨nq2, rfl⟩
          go_wp2_with fail
          refine wpQuiet_nil ?_
          rintro _ ⟨nq3, rfl⟩
          go_wp2_with fail
          go_roundw
          case rel =>
            rw [HM.out.2.2.2.2.1]
            obtain ⟨e1, e2⟩ := HD.out.2.1.1 (by rw [← HX.out]; exact HE.out.1)
            have hkq : Keep (fun b => b = q) w5 (((w5.drewN nq2).setCell ⟨q, k / 32, none⟩ (.int .u32 ((y ||| 2 ^ (k % 32) : Nat) : Int))).drewN nq3) := (((Keep.refl (fun b => b = q) w5).drewN nq2).setCell (p := ⟨q, k / 32, none⟩) (.inl rfl) _).drewN nq3
            have hmf := HM.out.1.keepF hkq HM.out.2.2.2.1
            refine ⟨k, o.set (k / 32) (y ||| 2 ^ (k % 32)), rfl, by omega, ?_, by rw [List.length_set]; exact HH.out.1, OD.drewN (OD.put' (OD.drewN HM.out.2.2.1 _) HH.out.1 _ _) _, HH.out.2.2.1.set _ _ HM.out.2.2.2.2.2.1, ?_, HM.out.2.1.step hkq (fun b hb => .inr (by have h' : b = q := hb; rw [h', HK.out.2.2]; exact Nat.le_refl _))⟩
            · rw [← e1, ← HX.out]
              exact hmf
            · rw [e2]
              exact HM.out.2.2.2.2.2.2
          case measure => simp [intOf]
        · have hcmp : cmpI x b < 0 := by
            unfold cmpI
            rw [if_pos (by omega)]
            decide
          generalize cmpI x b = z at *
          have ho5 := HH.out.2.1.keep hkw (fun _ _ h => h)
          have HM := Lib.hid (And.intro hm3 (And.intro hkb (And.intro ho5 (show x < b by omega))))
          clear HT hm3 hvb hx hge hkb hv2 ho5 hkw
          have hm3' := HM.out.1
          go_wp2_with fail
          refine HC.out.mono ?_
          rintro e w4 ⟨rfl, hk4⟩
          go_wp2_with fail
          go_roundw
          case rel =>
            obtain ⟨e1, e2⟩ := HD.out.2.1.2 (by rw [← HX.out]; exact HM.out.2.2.2)
            refine ⟨k, o, rfl, by omega, ?_, HH.out.1, HM.out.2.2.1.keep hk4 (fun _ _ h => h), HH.out.2.2.1, ?_, HM.out.2.1.trans hk4⟩
            · rw [← e1, ← HX.out]
              exact HM.out.1.keep hk4 (fun _ _ h => h)
            · rw [e2, HH.out.2.2.2.1, Nat.pow_succ, Nat.mul_assoc]
          case measure => simp [intOf]
      · have hbit1 : (bits .and .u32 ((d : Int) / 2 ^ (k % 32)) 1 == 1) = false := by rw [hbit]; simp [hone]
        clear hbit
        have hkb := hka
        have hkw := hk1
        have hv2 : val l1 = 2 * r + t := by rw [hvl1]; omega
        have hl29 : l1.length ≤ 1002 := by omega
        have hxl : (digs (val l1)).length ≤ 1002 := Nat.le_trans (digs_length_le (val_lt hdl1)) hl29
        have HT := Lib.hid (trim_mag A1 l1.length c1 l1 w1 hm1 rfl hdl1 (by omega))
        clear hod1 hdl1 hvl1 hlen1 hk1 hm1
        generalize l1.length = n1 at *
        go_wp2_with fail
        refine HT.out.mono ?_
        rintro e w3 ⟨j, rfl, hm3, rfl⟩
        rw [hv2] at hm3 hxl
        obtain ⟨x, hx⟩ : ∃ x, x = 2 * r + t := ⟨_, rfl⟩
        rw [← hx] at hm3 hxl
        have HX := Lib.hid hx
        have hvb := HU.out.2.keep hkb (fun _ _ h => h)
        have HC := Lib.hid (magCmp38 _ _ x b w3 hm3 hvb (by omega) (by rw [← HN.out.2]; omega))
        by_cases hge : b ≤ x
        · have hx0 : 0 < (digs x).length := by
            rcases Nat.eq_zero_or_pos (digs x).length with e | e
            · have := digs_nil.1 (List.eq_nil_of_length_eq_zero e); omega
            · exact e
          have hcmp : ¬ (cmpI x b < 0) := by
            unfold cmpI
            rw [if_neg (by omega)]
            split <;> omega
          have HS := Lib.hid (fun w4 (hk4 : Keep (fun _ => False) w3 w4) => magSub39F _ _ (digs x) (digs b) w4 (hm3.keep hk4 (fun _ _ h => h)) (hvb.keep hk4 (fun _ _ h => h)) (digs_digs _) (digs_digs _) hx0 (by omega) (digs_length_mono hge) (by rw [val_digs, val_digs]; exact hge))
          rw [val_digs, val_digs] at HS
          generalize cmpI x b = z at *
          have HE := Lib.hid (And.intro hge hkb)
          clear HT hm3 hvb hx hx0 hge hkb hv2
          go_wp2_with fail
          refine HC.out.mono ?_
          rintro e w4 ⟨rfl, hk4⟩
          have HS := Lib.hid (HS.out w4 hk4)
          have hkc := HE.out.2.trans hk4
          have hkv := hkw.trans hk4
          clear HC hk4 hkw
          go_wp2_with fail
          refine HS.out.mono ?_
          rintro e w5 ⟨x5, rfl, hm5, hk5, hfr⟩
          have hkd := hkc.trans hk5
          have ho5 := HH.out.2.1.keep (hkv.trans hk5) (fun _ _ h => h)
          have hm5' := hm5
          have hql : q < w4.heap.size := by
            obtain ⟨_, cur, hg⟩ := HH.out.2.1.blk
            have := blk_lt hg
            have := hkv.size
            omega
          have hqn : ∀ g o n c, x5 = .slice (some ⟨g, o, none⟩) n c → ¬ g = q := fun g o n c e h => by
            have := hfr g o n c e
            omega
          obtain ⟨A5, c5, rfl, _, _⟩ := hm5'
          have hkl : k / 32 < n := by omega
          obtain ⟨hqb, cur, hg⟩ := ho5.blk
          have hf := blk_frozen hg
          obtain ⟨q', o', hqe, hcell5⟩ := ho5.mag.cell (k / 32) (by rw [HH.out.1]; exact hkl)
          cases hqe
          obtain ⟨y, hy⟩ : ∃ y, y = o.getD (k / 32) 0 := ⟨_, rfl⟩
          rw [← hy, Nat.zero_add] at hcell5
          have hor : bits .or .u32 (y : Int) (2 ^ (k % 32) % 4294967296) = ((y ||| 2 ^ (k % 32) : Nat) : Int) := by
            rw [(bit_val k).1]
            exact bits_or_u32_nat _ _ (by rw [hy]; exact getD_lt HH.out.2.2.1 _) (bit_val k).2
          have hqb2 := quot_bit (i := k) HH.out.2.2.1 (by rw [HH.out.1]; exact hkl) HH.out.2.2.2.1
          rw [← hy] at hqb2
          have HM := Lib.hid (And.intro hm5 (And.intro hkd (And.intro ho5 (And.intro hqn (And.intro hor hqb2)))))
          clear hm5 hkd ho5 hy hg HS hkc hkv hk5 hcell hqn hor hqb2 hfr
          go_wp2_with fail
          refine wp_region_mid 10 (by kernel_rfl) (by kernel_rfl) rfl ?_
          simp only [List.take_succ_cons, List.take_zero, List.drop_succ_cons, List.drop_zero]
          repeat (go_big_quiet_step (fail))
          refine wpQuiet_nil ?_
          rintro _ ⟨nq2, rfl⟩
          go_wp2_with fail
          refine wpQuiet_nil ?_
          rintro _ ⟨nq3, rfl⟩
          go_wp2_with fail
          go_roundw
          case rel =>
            rw [HM.out.2.2.2.2.1]
            obtain ⟨e1, e2⟩ := HD.out.2.1.1 (by rw [← HX.out]; exact HE.out.1)
            have hkq : Keep (fun b => b = q) w5 (((w5.drewN nq2).setCell ⟨q, k / 32, none⟩ (.int .u32 ((y ||| 2 ^ (k % 32) : Nat) : Int))).drewN nq3) := (((Keep.refl (fun b => b = q) w5).drewN nq2).setCell (p := ⟨q, k / 32, none⟩) (.inl rfl) _).drewN nq3
            have hmf := HM.out.1.keepF hkq HM.out.2.2.2.1
            refine ⟨k, o.set (k / 32) (y ||| 2 ^ (k % 32)), rfl, by omega, ?_, by rw [List.length_set]; exact HH.out.1, OD.drewN (OD.put' (OD.drewN HM.out.2.2.1 _) HH.out.1 _ _) _, HH.out.2.2.1.set _ _ HM.out.2.2.2.2.2.1, ?_, HM.out.2.1.step hkq (fun b hb => .inr (by have h' : b = q := hb; rw [h', HK.out.2.2]; exact Nat.le_refl _))⟩
            · rw [← e1, ← HX.out]
              exact hmf
            · rw [e2]
              exact HM.out.2.2.2.2.2.2
          case measure => simp [intOf]
        · have hcmp : cmpI x b < 0 := by
            unfold cmpI
            rw [if_pos (by omega)]
            decide
          generalize cmpI x b = z at *
          have ho5 := HH.out.2.1.keep hkw (fun _ _ h => h)
          have HM := Lib.hid (And.intro hm3 (And.intro hkb (And.intro ho5 (show x < b by omega))))
          clear HT hm3 hvb hx hge hkb hv2 ho5 hkw
          have hm3' := HM.out.1
          go_wp2_with fail
          refine HC.out.mono ?_
          rintro e w4 ⟨rfl, hk4⟩
          go_wp2_with fail
          go_roundw
          case rel =>
            obtain ⟨e1, e2⟩ := HD.out.2.1.2 (by rw [← HX.out]; exact HM.out.2.2.2)
            refine ⟨k, o, rfl, by omega, ?_, HH.out.1, HM.out.2.2.1.keep hk4 (fun _ _ h => h), HH.out.2.2.1, ?_, HM.out.2.1.trans hk4⟩
            · rw [← e1, ← HX.out]
              exact HM.out.1.keep hk4 (fun _ _ h => h)
            · rw [e2, HH.out.2.2.2.1, Nat.pow_succ, Nat.mul_assoc]
          case measure => simp [intOf]
end Go.Proofs.YtamkglgiaiejkaaGreatDoor

/-! Whole numbers: products, quotients, powers of two. -/
namespace Go.Proofs.YtamkglgiaiejkaaGreatDoor
open Go.RowKit

theorem sgn_mul (x y : Int) : sgn (decide (x < 0) != decide (y < 0)) (x.natAbs * y.natAbs) = x * y := by
  unfold sgn
  rw [Int.natCast_mul]
  by_cases hx : x < 0 <;> by_cases hy : y < 0
  · have e1 : (x.natAbs : Int) = -x := by omega
    have e2 : (y.natAbs : Int) = -y := by omega
    simp only [hx, hy, decide_true, bne_self_eq_false, Bool.false_eq_true, if_false, e1, e2, Int.neg_mul_neg]
  · have e1 : (x.natAbs : Int) = -x := by omega
    have e2 : (y.natAbs : Int) = y := by omega
    simp [hx, hy, e1, e2, Int.neg_mul]
  · have e1 : (x.natAbs : Int) = x := by omega
    have e2 : (y.natAbs : Int) = -y := by omega
    simp [hx, hy, e1, e2, Int.mul_neg]
  · have e1 : (x.natAbs : Int) = x := by omega
    have e2 : (y.natAbs : Int) = y := by omega
    simp [hx, hy, e1, e2]
theorem int_cases (x : Int) : (∃ a : Nat, 0 < a ∧ x = -(a : Int)) ∨ ∃ a : Nat, x = (a : Int) := by
  by_cases h : x < 0
  · exact .inl ⟨x.natAbs, by omega, by omega⟩
  · exact .inr ⟨x.natAbs, by omega⟩
theorem dec_neg {a : Nat} (h : 0 < a) : decide (-(a : Int) < 0) = true := by simp; omega
theorem dec_pos (a : Nat) : decide ((a : Int) < 0) = false := by simp
theorem sgn_div (x y : Int) : sgn (decide (x < 0) != decide (y < 0)) (x.natAbs / y.natAbs) = x.tdiv y := by
  rcases int_cases x with ⟨a, ha, rfl⟩ | ⟨a, rfl⟩ <;> rcases int_cases y with ⟨b, hb, rfl⟩ | ⟨b, rfl⟩
  · rw [dec_neg ha, dec_neg hb, Int.natAbs_neg, Int.natAbs_neg, Int.natAbs_natCast, Int.natAbs_natCast, Int.neg_tdiv, Int.tdiv_neg, Int.neg_neg, ← Int.ofNat_tdiv]; rfl
  · rw [dec_neg ha, dec_pos, Int.natAbs_neg, Int.natAbs_natCast, Int.natAbs_natCast, Int.neg_tdiv, ← Int.ofNat_tdiv]; rfl
  · rw [dec_pos, dec_neg hb, Int.natAbs_neg, Int.natAbs_natCast, Int.natAbs_natCast, Int.tdiv_neg, ← Int.ofNat_tdiv]; rfl
  · rw [dec_pos, dec_pos, Int.natAbs_natCast, Int.natAbs_natCast, ← Int.ofNat_tdiv]; rfl
theorem sgn_mod (x y : Int) : sgn (decide (x < 0)) (x.natAbs % y.natAbs) = x.tmod y := by
  rcases int_cases x with ⟨a, ha, rfl⟩ | ⟨a, rfl⟩ <;> rcases int_cases y with ⟨b, hb, rfl⟩ | ⟨b, rfl⟩
  · rw [dec_neg ha, Int.natAbs_neg, Int.natAbs_neg, Int.natAbs_natCast, Int.natAbs_natCast, Int.neg_tmod, Int.tmod_neg, ← Int.ofNat_tmod]; rfl
  · rw [dec_neg ha, Int.natAbs_neg, Int.natAbs_natCast, Int.natAbs_natCast, Int.neg_tmod, ← Int.ofNat_tmod]; rfl
  · rw [dec_pos, Int.natAbs_neg, Int.natAbs_natCast, Int.natAbs_natCast, Int.tmod_neg, ← Int.ofNat_tmod]; rfl
  · rw [dec_pos, Int.natAbs_natCast, Int.natAbs_natCast, ← Int.ofNat_tmod]; rfl
theorem four_boxes (w : World) (a b c d : Array Value) : ((((w.alloc (.cells a 29)).alloc (.cells b 29)).alloc (.cells c 29)).alloc (.cells d 29)).heap[w.heap.size]? = some (.cells a 29 (0, 0)) ∧
    ((((w.alloc (.cells a 29)).alloc (.cells b 29)).alloc (.cells c 29)).alloc (.cells d 29)).heap[w.heap.size + 1]? = some (.cells b 29 (0, 0)) ∧
    ((((w.alloc (.cells a 29)).alloc (.cells b 29)).alloc (.cells c 29)).alloc (.cells d 29)).heap[w.heap.size + 2]? = some (.cells c 29 (0, 0)) ∧
    ((((w.alloc (.cells a 29)).alloc (.cells b 29)).alloc (.cells c 29)).alloc (.cells d 29)).heap[w.heap.size + 3]? = some (.cells d 29 (0, 0)) ∧
    Keep (fun _ => False) w ((((w.alloc (.cells a 29)).alloc (.cells b 29)).alloc (.cells c 29)).alloc (.cells d 29)) := by
  obtain ⟨h1, h2, h3, h4⟩ := two_boxes w a b c
  refine ⟨blk_alloc h1 _, blk_alloc h2 _, blk_alloc h3 _, ?_, h4.alloc _⟩
  have := blk_new (((w.alloc (.cells a 29)).alloc (.cells b 29)).alloc (.cells c 29)) (.cells d 29)
  simpa using this
set_option maxRecDepth 100000 in
set_option maxHeartbeats 4000000 in
theorem wideMul10 (u v : Value) (x y : Int) (w : World) (hu : WV w u x) (hv : WV w v y) (hx9 : (digs x.natAbs).length ≤ 1000) (hy9 : (digs y.natAbs).length ≤ 1000) : Calls Tryz.prog 10 #[u, v] w fun e w' => ∃ r, e = .returned r ∧ WV w' r (x * y) ∧ Keep (fun _ => False) w w' := by
  obtain ⟨m, rfl, hm⟩ := hu
  obtain ⟨m', rfl, hm'⟩ := hv
  have hma := hm
  have hmb := hm'
  obtain ⟨A, c, rfl, _, _⟩ := hma
  obtain ⟨B, d, rfl, _, _⟩ := hmb
  obtain ⟨h0, h1, h2, hk0⟩ := two_boxes w #[.bool (decide (x < 0)), .slice A (digs x.natAbs).length c] #[.bool (decide (y < 0)), .slice B (digs y.natAbs).length d] #[.bool false, .slice none 0 0]
  have HA := Lib.hid (magMul22 _ _ _ _ (((w.alloc (.cells #[.bool (decide (x < 0)), .slice A (digs x.natAbs).length c] 29)).alloc (.cells #[.bool (decide (y < 0)), .slice B (digs y.natAbs).length d] 29)).alloc (.cells #[.bool false, .slice none 0 0] 29)).drew (hm.keep hk0.drew (fun _ _ h => h)) (hm'.keep hk0.drew (fun _ _ h => h)) (digs_digs _) (digs_digs _) (by omega) (by omega))
  rw [val_digs, val_digs] at HA
  have hp9 : (digs (x.natAbs * y.natAbs)).length ≤ 1000000 := by
    have e1 := val_lt (digs_digs x.natAbs)
    have e2 := val_lt (digs_digs y.natAbs)
    rw [val_digs] at e1 e2
    have e3 : x.natAbs * y.natAbs < 4294967296 ^ ((digs x.natAbs).length + (digs y.natAbs).length) := by
      rw [Nat.pow_add]
      exact Nat.mul_lt_mul_of_lt_of_lt e1 e2
    have := digs_length_le e3
    omega
  obtain ⟨z, hz⟩ : ∃ z, z = x * y := ⟨_, rfl⟩
  have HX := Lib.hid (show sgn (decide (x < 0) != decide (y < 0)) (x.natAbs * y.natAbs) = z by rw [hz]; exact sgn_mul x y)
  rw [← hz]
  clear hz hm hm'
  generalize decide (x < 0) = bx at *
  generalize decide (y < 0) = by0 at *
  generalize hn : (digs x.natAbs).length = n at *
  generalize hn' : (digs y.natAbs).length = n' at *
  go_enter Tryz.func10, Tryz.ntmps10
  go_wp2_with fail
  generalize (((w.alloc (.cells #[.bool bx, .slice A n c] 29)).alloc (.cells #[.bool by0, .slice B n' d] 29)).alloc (.cells #[.bool false, .slice none 0 0] 29)) = w0 at *
  refine wp_region_takesC (fun w' => w'.heap[w.heap.size]? = some (.cells #[.bool bx, .slice A n c] 29 (0, 0)) ∧ w'.heap[w.heap.size + 1]? = some (.cells #[.bool by0, .slice B n' d] 29 (0, 0))) (by kernel_rfl) ?_
  go_simp
  refine wpC_take 0 (v := .pointer (some ⟨w.heap.size, 0, none⟩)) (by kernel_rfl) rfl rfl (fun _ _ _ h => h) (fun w' hC => by go_simp) ?_
  go_simp
  refine wpC_take 2 (v := .pointer (some ⟨w.heap.size + 1, 0, none⟩)) (by kernel_rfl) rfl rfl (fun _ _ _ h => h) (fun w' hC => by go_simp) ?_
  go_simp
  refine wpC_take 5 (v := .pointer (some ⟨w.heap.size, 1, none⟩)) (by kernel_rfl) rfl rfl (fun _ _ _ h => h) (fun w' hC => by go_simp) ?_
  go_simp
  refine wpC_take 7 (v := .pointer (some ⟨w.heap.size + 1, 1, none⟩)) (by kernel_rfl) rfl rfl (fun _ _ _ h => h) (fun w' hC => by go_simp) ?_
  go_simp
  refine wpC_take 1 (v := .bool bx) (by kernel_rfl) rfl rfl (fun _ _ _ h => h) (fun w' hC => by have hc := blk_cell hC.1; go_simp) ?_
  go_simp
  refine wpC_take 3 (v := .bool by0) (by kernel_rfl) rfl rfl (fun _ _ _ h => h) (fun w' hC => by have hc := blk_cell hC.2; go_simp) ?_
  go_simp
  refine wpC_take 6 (v := .slice A n c) (by kernel_rfl) rfl rfl (fun _ _ _ h => h) (fun w' hC => by have hc := blk_cell hC.1; go_simp) ?_
  go_simp
  refine wpC_take 8 (v := .slice B n' d) (by kernel_rfl) rfl rfl (fun _ _ _ h => h) (fun w' hC => by have hc := blk_cell hC.2; go_simp) ?_
  go_simp
  refine wpC_take 4 (v := .bool (bx != by0)) (by kernel_rfl) rfl rfl (fun _ _ _ h => h) (fun w' hC => by go_simp; cases bx <;> cases by0 <;> rfl) ?_
  go_simp
  refine wpC_only 9 (by kernel_rfl) ⟨blk_drew h0, blk_drew h1⟩ rfl ?_
  go_wp2_with fail
  refine HA.out.mono ?_
  rintro e w1 ⟨x1, rfl, hmag, hk1⟩
  have hmag' := hmag
  obtain ⟨A1, c1, rfl, _, _⟩ := hmag'
  have HW0 := wide20 (bx != by0) _ (digs (x.natAbs * y.natAbs)) w1 hmag (digs_digs _) hp9
  rw [val_digs, HX.out] at HW0
  have h02 := hk1.blk (blk_drew h0) (fun h => h)
  have h12 := hk1.blk (blk_drew h1) (fun h => h)
  have h22 := hk1.blk (blk_drew h2) (fun h => h)
  have hka : Keep (fun _ => False) w w1 := hk0.drew.trans hk1
  have HW := Lib.hid HW0
  clear HW0 HA h0 h1 h2 hk0 hk1 hmag
  go_wp2_with fail
  refine wpC_only 10 (by kernel_rfl) ⟨h02, h12⟩ rfl ?_
  go_wp2_with fail
  refine HW.out.mono ?_
  rintro e w2 ⟨v2, rfl, hv2, hk2⟩
  obtain ⟨m2, rfl, hm2⟩ := hv2
  have hm2' := hm2
  obtain ⟨A2, c2, rfl, _, _⟩ := hm2'
  have h03 := hk2.blk h02 (fun h => h)
  have h13 := hk2.blk h12 (fun h => h)
  have h23 := hk2.blk h22 (fun h => h)
  have hc2 := blk_cell h23
  have hf2 := blk_frozen h23
  obtain ⟨hl1, hl2, hl3⟩ := wide_laid h23 hm2 (decide (z < 0))
  have hkE : Keep (fun _ => False) w ((w2.setCell ⟨w.heap.size + 2, 0, none⟩ (.bool (decide (z < 0)))).setCell ⟨w.heap.size + 2, 1, none⟩ (.slice A2 (digs z.natAbs).length c2)) := (hka.trans hk2).step hl2 (fun b hb => .inr (by have h' : b = w.heap.size + 2 := hb; omega))
  have HL := Lib.hid (And.intro hl1 hkE)
  clear HW hka hk2 h02 h12 h22 hm2 hl1 hkE
  go_wp2_with fail
  refine wpC_only 11 (by kernel_rfl) ⟨h03, h13⟩ rfl ?_
  go_wp2_with fail
  refine wpC_stop (by kernel_rfl) ⟨hl2.blk h03 (by show ¬ w.heap.size = w.heap.size + 2; omega), hl2.blk h13 (by show ¬ w.heap.size + 1 = w.heap.size + 2; omega)⟩ ?_
  go_wp2_with fail
  exact bodyPost_ret (v := .agg #[.bool (decide (z < 0)), .slice A2 (digs z.natAbs).length c2]) (by simp [results, Tryz.results10, go_sem, hl3]) rfl ⟨_, rfl, ⟨_, rfl, HL.out.1⟩, HL.out.2⟩
set_option maxRecDepth 100000 in
set_option maxHeartbeats 4000000 in
theorem wideDiv23 (u v : Value) (x y : Int) (w : World) (hu : WV w u x) (hv : WV w v y) (hy0 : y ≠ 0) (hx9 : (digs x.natAbs).length ≤ 1000) (hy9 : (digs y.natAbs).length ≤ 1000) : Calls Tryz.prog 23 #[u, v] w fun e w' => ∃ q r, e = .returned (.tuple #[q, r]) ∧ WV w' q (x.tdiv y) ∧ WV w' r (x.tmod y) ∧ Keep (fun _ => False) w w' := by
  obtain ⟨m, rfl, hm⟩ := hu
  obtain ⟨m', rfl, hm'⟩ := hv
  have hma := hm
  have hmb := hm'
  obtain ⟨A, c, rfl, _, _⟩ := hma
  obtain ⟨B, d, rfl, _, _⟩ := hmb
  obtain ⟨h0, h1, h2, h3, hk0⟩ := four_boxes w #[.bool (decide (x < 0)), .slice A (digs x.natAbs).length c] #[.bool (decide (y < 0)), .slice B (digs y.natAbs).length d] #[.bool false, .slice none 0 0] #[.bool false, .slice none 0 0]
  have HA := Lib.hid (magDiv33 _ _ _ _ ((((w.alloc (.cells #[.bool (decide (x < 0)), .slice A (digs x.natAbs).length c] 29)).alloc (.cells #[.bool (decide (y < 0)), .slice B (digs y.natAbs).length d] 29)).alloc (.cells #[.bool false, .slice none 0 0] 29)).alloc (.cells #[.bool false, .slice none 0 0] 29)) (hm.keep hk0 (fun _ _ h => h)) (hm'.keep hk0 (fun _ _ h => h)) (by omega) (by omega) (by omega))
  obtain ⟨z, hz⟩ : ∃ z, z = x.tdiv y := ⟨_, rfl⟩
  obtain ⟨z', hz'⟩ : ∃ z, z = x.tmod y := ⟨_, rfl⟩
  have HX := Lib.hid (show sgn (decide (x < 0) != decide (y < 0)) (x.natAbs / y.natAbs) = z ∧ sgn (decide (x < 0)) (x.natAbs % y.natAbs) = z' by rw [hz, hz']; exact ⟨sgn_div x y, sgn_mod x y⟩)
  rw [← hz, ← hz']
  clear hz hz' hm hm'
  generalize decide (x < 0) = bx at *
  generalize decide (y < 0) = by0 at *
  generalize hn : (digs x.natAbs).length = n at *
  generalize hn' : (digs y.natAbs).length = n' at *
  go_enter Tryz.func23, Tryz.ntmps23
  go_wp2_with fail
  generalize ((((w.alloc (.cells #[.bool bx, .slice A n c] 29)).alloc (.cells #[.bool by0, .slice B n' d] 29)).alloc (.cells #[.bool false, .slice none 0 0] 29)).alloc (.cells #[.bool false, .slice none 0 0] 29)) = w0 at *
  refine HA.out.mono ?_
  rintro e w1 ⟨x1, x2, rfl, hm1, hm2, hk1⟩
  have hm1' := hm1
  have hm2' := hm2
  obtain ⟨A1, c1, rfl, _, _⟩ := hm1'
  obtain ⟨A2, c2, rfl, _, _⟩ := hm2'
  have h0 := hk1.blk h0 (fun h => h)
  have h1 := hk1.blk h1 (fun h => h)
  have h2 := hk1.blk h2 (fun h => h)
  have h3 := hk1.blk h3 (fun h => h)
  have hka : Keep (fun _ => False) w w1 := hk0.trans hk1
  have HW1 := wide20 (bx != by0) _ (digs (x.natAbs / y.natAbs)) w1.drew (hm1.keep (Keep.refl (fun _ => False) w1).drew (fun _ _ h => h)) (digs_digs _) (Nat.le_trans (digs_length_mono (Nat.div_le_self _ _)) (by omega))
  rw [val_digs, HX.out.1] at HW1
  have HW2 := fun w' (hk' : Keep (fun _ => False) w1 w') => wide20 bx _ (digs (x.natAbs % y.natAbs)) w' (hm2.keep hk' (fun _ _ h => h)) (digs_digs _) (Nat.le_trans (digs_length_mono (Nat.mod_le _ _)) (by omega))
  simp only [val_digs, HX.out.2] at HW2
  have HW1 := Lib.hid HW1
  have HW2 := Lib.hid HW2
  generalize (digs (x.natAbs / y.natAbs)).length = n1 at *
  generalize (digs (x.natAbs % y.natAbs)).length = n2 at *
  clear HA hk0 hm1 hm2
  go_wp2_with fail
  refine wp_region_takesC (fun w' => w'.heap[w.heap.size]? = some (.cells #[.bool bx, .slice A n c] 29 (0, 0)) ∧ w'.heap[w.heap.size + 1]? = some (.cells #[.bool by0, .slice B n' d] 29 (0, 0))) (by kernel_rfl) ?_
  go_simp
  refine wpC_take 0 (v := .pointer (some ⟨w.heap.size, 0, none⟩)) (by kernel_rfl) rfl rfl (fun _ _ _ h => h) (fun w' hC => by go_simp) ?_
  go_simp
  refine wpC_take 2 (v := .pointer (some ⟨w.heap.size + 1, 0, none⟩)) (by kernel_rfl) rfl rfl (fun _ _ _ h => h) (fun w' hC => by go_simp) ?_
  go_simp
  refine wpC_take 7 (v := .pointer (some ⟨w.heap.size, 0, none⟩)) (by kernel_rfl) rfl rfl (fun _ _ _ h => h) (fun w' hC => by go_simp) ?_
  go_simp
  refine wpC_take 1 (v := .bool bx) (by kernel_rfl) rfl rfl (fun _ _ _ h => h) (fun w' hC => by have hc := blk_cell hC.1; go_simp) ?_
  go_simp
  refine wpC_take 3 (v := .bool by0) (by kernel_rfl) rfl rfl (fun _ _ _ h => h) (fun w' hC => by have hc := blk_cell hC.2; go_simp) ?_
  go_simp
  refine wpC_take 8 (v := .bool bx) (by kernel_rfl) rfl rfl (fun _ _ _ h => h) (fun w' hC => by have hc := blk_cell hC.1; go_simp) ?_
  go_simp
  refine wpC_take 4 (v := .bool (bx != by0)) (by kernel_rfl) rfl rfl (fun _ _ _ h => h) (fun w' hC => by go_simp; cases bx <;> cases by0 <;> rfl) ?_
  go_simp
  refine wpC_take 5 (by kernel_rfl) rfl rfl (fun _ _ _ h => h) (fun w' hC => BigFrame.run_move _ rfl w') ?_
  go_simp
  refine wpC_take 9 (by kernel_rfl) rfl rfl (fun _ _ _ h => h) (fun w' hC => BigFrame.run_move _ rfl w') ?_
  go_simp
  refine wpC_only 6 (by kernel_rfl) ⟨blk_drew h0, blk_drew h1⟩ rfl ?_
  go_wp2_with fail
  refine HW1.out.mono ?_
  rintro e w2 ⟨v2, rfl, hv2, hk2⟩
  obtain ⟨m2, rfl, hm2⟩ := hv2
  have hm2' := hm2
  obtain ⟨A3, c3, rfl, _, _⟩ := hm2'
  have h02 := hk2.blk (blk_drew h0) (fun h => h)
  have h12 := hk2.blk (blk_drew h1) (fun h => h)
  have h22 := hk2.blk (blk_drew h2) (fun h => h)
  have h32 := hk2.blk (blk_drew h3) (fun h => h)
  have HW2 := Lib.hid (HW2.out w2 ((Keep.refl _ w1).drew.trans hk2))
  have hkb := hka.drew.trans hk2
  have HM := Lib.hid hm2
  clear HW1 hm2 h0 h1 h2 h3 hka hk2
  go_wp2_with fail
  refine wpC_only 10 (by kernel_rfl) ⟨h02, h12⟩ rfl ?_
  go_wp2_with fail
  refine HW2.out.mono ?_
  rintro e w3 ⟨v3, rfl, hv3, hk3⟩
  obtain ⟨m3, rfl, hm3⟩ := hv3
  have hm3' := hm3
  obtain ⟨A4, c4, rfl, _, _⟩ := hm3'
  have h03 := hk3.blk h02 (fun h => h)
  have h13 := hk3.blk h12 (fun h => h)
  have h23 := hk3.blk h22 (fun h => h)
  have h33 := hk3.blk h32 (fun h => h)
  have hc2 := blk_cell h23
  have hf2 := blk_frozen h23
  obtain ⟨hl1, hl2, hl3⟩ := wide_laid h23 (HM.out.keep hk3 (fun _ _ h => h)) (decide (z < 0))
  have hma := hm3.off hc2 (wide_cells _ _ _ _) hl2
  have h04 := hl2.blk h03 (by show ¬ w.heap.size = w.heap.size + 2; omega)
  have h14 := hl2.blk h13 (by show ¬ w.heap.size + 1 = w.heap.size + 2; omega)
  have h34 := hl2.blk h33 (by show ¬ w.heap.size + 3 = w.heap.size + 2; omega)
  have hkc := hkb.trans hk3
  have hkd := hkc.step hl2 (fun b hb => .inr (by have h' : b = w.heap.size + 2 := hb; omega))
  have HL := Lib.hid (And.intro hl1 hkd)
  clear HW2 hkb hk3 h02 h12 h22 h32 hm3 hl1 hkd hkc
  go_wp2_with fail
  refine wpC_only 11 (by kernel_rfl) ⟨h03, h13⟩ rfl ?_
  go_wp2_with fail
  generalize (w3.setCell ⟨w.heap.size + 2, 0, none⟩ (.bool (decide (z < 0)))).setCell ⟨w.heap.size + 2, 1, none⟩ (.slice A3 (digs z.natAbs).length c3) = w4 at *
  have hc3 := blk_cell h34
  have hf3 := blk_frozen h34
  obtain ⟨hn1, hn2, hn3⟩ := wide_laid h34 hma (decide (z' < 0))
  have hmb := HL.out.1.off hc3 (wide_cells _ _ _ _) hn2
  have hke := HL.out.2.step hn2 (fun b hb => .inr (by have h' : b = w.heap.size + 3 := hb; omega))
  have hl4 := fun i => hn2.cell (p := ⟨w.heap.size + 2, i, none⟩) (v := #[Value.bool (decide (z < 0)), Value.slice A3 (digs z.natAbs).length c3].getD i undef)
  have HN := Lib.hid (And.intro hn1 (And.intro hmb hke))
  have h25a := hn2.cell (p := ⟨w.heap.size + 2, 0, none⟩) (hl3 0) (by show ¬ w.heap.size + 2 = w.heap.size + 3; omega)
  have h25b := hn2.cell (p := ⟨w.heap.size + 2, 1, none⟩) (hl3 1) (by show ¬ w.heap.size + 2 = w.heap.size + 3; omega)
  clear HL hn1 hmb hke hma hl3 hl4
  go_wp2_with fail
  refine wpC_only 12 (by kernel_rfl) ⟨h04, h14⟩ rfl ?_
  go_wp2_with fail
  refine wpC_stop (by kernel_rfl) ⟨hn2.blk h04 (by show ¬ w.heap.size = w.heap.size + 3; omega), hn2.blk h14 (by show ¬ w.heap.size + 1 = w.heap.size + 3; omega)⟩ ?_
  go_wp2_with fail
  exact bodyPost_ret (v := .tuple #[.agg #[.bool (decide (z < 0)), .slice A3 (digs z.natAbs).length c3], .agg #[.bool (decide (z' < 0)), .slice A4 (digs z'.natAbs).length c4]]) (by simp [results, Tryz.results23, go_sem, hn3, h25a, h25b]) rfl ⟨_, _, rfl, ⟨_, rfl, HN.out.2.1⟩, ⟨_, rfl, HN.out.1⟩, HN.out.2.2⟩
end Go.Proofs.YtamkglgiaiejkaaGreatDoor
