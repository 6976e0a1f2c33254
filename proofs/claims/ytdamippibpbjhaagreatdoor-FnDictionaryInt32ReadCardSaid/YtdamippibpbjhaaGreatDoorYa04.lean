import Derived.Test.YtdamippibpbjhaaGreatDoorYa03
import Derived.Test.YtdamippibpbjhaaGreatDoorYa01
/-! Numbers of groups of seven bits. -/
namespace Go.Proofs.YtdamippibpbjhaaGreatDoor
open Go.RowKit

/-- Behind i bytes. -/
def UvRel (E : Env) (w : World) (o n : Nat) (x s i : Value) (wr : World) : Prop :=
  ∃ (k off bo : Nat) (buf vb : Int), k ≤ n ∧ i = .int .i64 k ∧ s = .int .u64 ((7 * k : Nat) : Int) ∧ x = .int .u64 (lebv E.D o k) ∧ off + (bo + 7) / 8 = o + k ∧ bo ≤ 64 ∧ Keep (fun k => k = E.b) w wr ∧ BR E wr off bo buf vb

set_option maxRecDepth 100000 in
set_option maxHeartbeats 2000000 in
theorem uvarint_any (E : Env) (w : World) (hW : E.Wf) (hS : Src E w) (off bo : Nat) (buf vb : Int) (hbo : bo ≤ 64) (hb : BR E w off bo buf vb) (o : Nat) (ho : off + (bo + 7) / 8 = o)
    (n : Nat) (hn : n ≤ 9) (hmore : ∀ j, j < n → 128 ≤ E.D.getD (o + j) 0) (hlast : E.D.getD (o + n) 0 < 128) (h9 : n = 9 → E.D.getD (o + n) 0 ≤ 1) (hlt : o + n < E.D.length) :
    Calls Tryz.prog 128 #[.iface 203 (.pointer (some ⟨E.b, 0, none⟩))] w fun e w' =>
      e = .returned (.tuple #[.int .u64 (lebv E.D o (n + 1)), .nilIface]) ∧ Keep (fun k => k = E.b) w w' ∧
      BR E w' ((o + n + 1 : Nat) : Int) 0 (le64 E.D (o + n + 1)) ((min 8 (E.D.length - (o + n + 1)) : Nat) * 8) := by
  have Hm := Lib.hid hmore
  have Hl := Lib.hid hlast
  have H9 := Lib.hid h9
  have Hn := Lib.hid hn
  have Ho := Lib.hid ho
  clear hmore hlast h9 ho
  go_enter Tryz.func128, Tryz.ntmps128
  go_wp2_with fail
  go_loopw [4, 5, 6] (fun x s i wr => UvRel E w o n x s i wr) (fun _ _ i _ => 10 - (intOf i).toNat)
  case atStart => exact ⟨0, off, bo, buf, vb, by omega, rfl, rfl, rfl, Ho.out, hbo, Keep.refl _ _, hb⟩
  case round =>
    obtain ⟨k, off, bo, buf, vb, hkn, rfl, rfl, rfl, hoff, hbo, hkr, hbr⟩ := hrel
    by_cases hkn' : k < n
    · have h128 := Hm.out k hkn'
      have HB := Lib.hid (readByte_any E wr hW (hS.keepB hW hkr) off bo buf vb hbo hbr (by omega))
      rw [hoff] at HB
      have hby := hW.byte (o + k)
      have HL := Lib.hid (lebv_bound E.D o k)
      have HV := Lib.hid (show lebv E.D o (k + 1) = lebv E.D o k + E.D.getD (o + k) 0 % 128 * 128 ^ k from rfl)
      generalize E.D.getD (o + k) 0 = b at *
      clear Hm Hl H9 Ho hoff hbr
      go_wp2_with fail
      refine HB.out.mono ?_
      rintro e w1 ⟨rfl, hk1, hb1⟩
      have hb128 : ¬ b < 128 := by omega
      go_wp2_with fail
      go_roundw
      case rel => exact ⟨k + 1, o + k + 1, 0, _, _, by omega, by go_num, by go_num, by rw [HV.out, leb_more (by omega) HL.out.1 HL.out.2 hby], by omega, by omega, hkr.trans hk1, hb1⟩
      case measure => simp [intOf]; omega
    · obtain rfl : k = n := by omega
      have hl := Hl.out
      have h9 := Lib.hid H9.out
      have HB := Lib.hid (readByte_any E wr hW (hS.keepB hW hkr) off bo buf vb hbo hbr (by omega))
      rw [hoff] at HB
      have hby := hW.byte (o + k)
      have HL := Lib.hid (lebv_bound E.D o k)
      have HV := Lib.hid (show lebv E.D o (k + 1) = lebv E.D o k + E.D.getD (o + k) 0 % 128 * 128 ^ k from rfl)
      generalize E.D.getD (o + k) 0 = b at *
      clear Hm Hl H9 Ho hoff hbr
      by_cases h : k = 9
      · have hb1 : b ≤ 1 := h9.out h
        subst h
        go_wp2_with fail
        refine HB.out.mono ?_
        rintro e w1 ⟨rfl, hk1, hb1⟩
        go_wp2_with fail
        go_ret2
        exact ⟨by rw [HV.out, ← leb_last9 HL.out.1 HL.out.2 hby.1 (by assumption)]; rfl, hkr.trans hk1, hb1⟩
      · have h9' : ((k : Int) == 9) = false := by simp; omega
        go_wp2_with fail
        refine HB.out.mono ?_
        rintro e w1 ⟨rfl, hk1, hb1⟩
        go_wp2_with fail
        go_ret2
        exact ⟨by rw [HV.out, ← leb_last (by omega) HL.out.1 HL.out.2 ⟨hby.1, hl⟩ (fun e => absurd e h)]; rfl, hkr.trans hk1, hb1⟩
end Go.Proofs.YtdamippibpbjhaaGreatDoor

/-! The next bits. -/
namespace Go.Proofs.YtdamippibpbjhaaGreatDoor
open Go.RowKit

set_option maxRecDepth 100000 in
theorem trailing_any (v n : Nat) (w : World) (hv : v < 2 ^ 64) (hn : n ≤ 64) :
    Calls Tryz.prog 170 #[.int .u64 v, .int .u64 n] w fun e w' => e = .returned (.int .u64 ((v % 2 ^ n : Nat) : Int)) ∧ w' = w := by
  by_cases h : n < 64
  · have H := Lib.hid (and_mask v n hv h)
    clear hv
    go_enter Tryz.func170, Tryz.ntmps170
    go_wp2
    go_ret
    exact ⟨by rw [← H.out]; rfl, rfl⟩
  · obtain rfl : n = 64 := by omega
    have H := Lib.hid (Nat.mod_eq_of_lt hv)
    clear hv
    go_enter Tryz.func170, Tryz.ntmps170
    go_wp2
    go_ret
    exact ⟨by rw [H.out]; rfl, rfl⟩

/-- The buffer holds the 64 bits from its place on. -/
def BL (E : Env) (w : World) (off bo : Nat) : Prop := BR E w off bo (bitsAt E.D (8 * off) 64 : Nat) ((min 8 (E.D.length - off) : Nat) * 8)

theorem BL.of {E : Env} (hW : E.Wf) {w : World} {off bo : Nat} (h : BR E w off bo (le64 E.D off) ((min 8 (E.D.length - off) : Nat) * 8)) : BL E w off bo := by
  unfold BL
  rw [← le64_bits E.D hW.byte]
  exact h

set_option maxRecDepth 100000 in
set_option maxHeartbeats 2000000 in
theorem next_near (E : Env) (w : World) (off bo n : Nat) (hn : 1 ≤ n) (hbo : bo + n ≤ 64) (hb : BL E w off bo) (hlt : 8 * off + bo + n ≤ 8 * E.D.length) :
    Calls Tryz.prog 148 #[.pointer (some ⟨E.b, 0, none⟩), .int .u64 n] w fun e w' =>
      e = .returned (.tuple #[.int .u64 (bitsAt E.D (8 * off + bo) n : Nat), .nilIface]) ∧ Keep (fun k => k = E.b) w w' ∧ BL E w' off (bo + n) := by
  obtain ⟨cs, hcs, hB⟩ := hb
  have hc := blk_cell hcs
  have hf := blk_frozen hcs
  have c1 := hB.c1
  have c3 := hB.c3
  have c4 := hB.c4
  have HT : Hid (∀ w', Calls Tryz.prog 170 #[.int .u64 (bitsAt E.D (8 * off) 64 : Nat), .int .u64 ((bo : Int) + n)] w' fun e w2 => e = .returned (.int .u64 ((bitsAt E.D (8 * off) 64 % 2 ^ (bo + n) : Nat) : Int)) ∧ w2 = w') := by
    intro w'
    have := trailing_any (bitsAt E.D (8 * off) 64) (bo + n) w' (bitsAt_lt _ _ _) hbo
    rwa [show ((bo + n : Nat) : Int) = (bo : Int) + n by omega] at this
  have HV : Hid (bitsAt E.D (8 * off) 64 % 2 ^ (bo + n) / 2 ^ bo = bitsAt E.D (8 * off + bo) n) := by
    have h1 := bitsAt_mod E.D (8 * off) 64 (bo + n) hbo
    have h2 := bitsAt_bits E.D (8 * off) (bo + n) bo n (Nat.le_refl _)
    show bitsAt E.D (8 * off) 64 % 2 ^ (bo + n) / 2 ^ bo = bitsAt E.D (8 * off + bo) n
    rw [h1, ← h2]
    exact (Nat.mod_eq_of_lt (Nat.div_lt_of_lt_mul (by rw [← Nat.pow_add]; exact bitsAt_lt _ _ _))).symm
  have hvb : ((bo : Int) + n) ≤ (min 8 (E.D.length - off) : Nat) * 8 := by omega
  have hvb' : ¬ ((min 8 (E.D.length - off) : Nat) * 8 : Int) < (bo : Int) + n := by omega
  have h64 : ((bo : Int) == 64) = false := by simp; omega
  have hn0 : ((n : Int) == 0) = false := by simp; omega
  generalize hvbe : (min 8 (E.D.length - off)) = vb at *
  generalize hve : bitsAt E.D (8 * off) 64 = v at *
  have Hvb := Lib.hid hvbe
  have Hv := Lib.hid hve
  clear hvbe hve
  generalize v % 2 ^ (bo + n) = u at *
  go_enter Tryz.func148, Tryz.ntmps148
  go_wp2_with fail
  go_quiet ((go_at_call 170; exact Calls.quiet_of_same (HT.out _)))
  go_wp2_with fail
  go_ret2
  have e1 : ((bo + n : Nat) : Int) = (bo : Int) + n := by omega
  exact ⟨by rw [← HV.out, Int.natCast_ediv, Int.natCast_pow]; rfl, ((Keep.refl (fun k => k = E.b) w).drewN _).setCell (p := ⟨E.b, 3, none⟩) (.inl rfl) _, _, blk_set (blk_drewN hcs _) 3 _, by rw [e1, Hv.out, Hvb.out]; exact hB.set3 _⟩

set_option maxRecDepth 100000 in
set_option maxHeartbeats 2000000 in
/-- Not all of the n bits are left in the buffer. -/
theorem next_far (E : Env) (w : World) (hW : E.Wf) (hS : Src E w) (off bo n : Nat) (hn : n ≤ 64) (hbo : bo < 64) (hfar : 64 < bo + n) (hb : BL E w off bo) (hlt : 8 * off + bo + n ≤ 8 * E.D.length) :
    Calls Tryz.prog 148 #[.pointer (some ⟨E.b, 0, none⟩), .int .u64 n] w fun e w' =>
      e = .returned (.tuple #[.int .u64 (bitsAt E.D (8 * off + bo) n : Nat), .nilIface]) ∧ Keep (fun k => k = E.b) w w' ∧ BL E w' (off + 8) (bo + n - 64) := by
  obtain ⟨cs, hcs, hB⟩ := hb
  have hc := blk_cell hcs
  have hf := blk_frozen hcs
  have hvb : min 8 (E.D.length - off) = 8 := by omega
  rw [hvb] at hB
  have c1 := hB.c1
  have c2 := hB.c2
  have c3 := hB.c3
  have c4 := hB.c4
  obtain ⟨m, Hm⟩ : ∃ m : Nat, Hid (m = 64 - bo) := ⟨_, rfl⟩
  obtain ⟨r, Hr⟩ : ∃ r : Nat, Hid (r = bo + n - 64) := ⟨_, rfl⟩
  have hbm : bo = 64 - m := by have := Hm.out; omega
  have hm64 : m ≤ 64 := by have := Hm.out; omega
  have hm1 : 1 ≤ m := by have := Hm.out; omega
  have hnr : n = m + r := by have := Hm.out; have := Hr.out; omega
  have hcap := hW.cap
  have h64 : ((bo : Int) == 64) = false := by simp; omega
  have hn0 : ((n : Int) == 0) = false := by simp; omega
  have hfar' : ¬ ((bo : Int) + n ≤ 64) := by omega
  clear hnr hbm hvb
  generalize hve : bitsAt E.D (8 * off) 64 = v at *
  have Hv := Lib.hid hve
  clear hve
  go_enter Tryz.func148, Tryz.ntmps148
  go_wp2_with fail
  go_quiet (fail)
  go_wp2_with fail
  have hbF := (⟨_, blk_set (blk_set (blk_drewN hcs nq) 2 (.int .i64 ((off : Int) + 8))) 3 (.int .u64 0), (hB.set2 ((off : Int) + 8)).set3 0⟩ :
    BR E (((w.drewN nq).setCell ⟨E.b, 2, none⟩ (.int .i64 ((off : Int) + 8))).setCell ⟨E.b, 3, none⟩ (.int .u64 0)) ((off : Int) + 8) 0 v (8 * 8))
  rw [show (off : Int) + 8 = ((off + 8 : Nat) : Int) by omega] at hbF
  have hkF : Keep (fun k => k = E.b) w (((w.drewN nq).setCell ⟨E.b, 2, none⟩ (.int .i64 ((off : Int) + 8))).setCell ⟨E.b, 3, none⟩ (.int .u64 0)) :=
    (((Keep.refl (fun k => k = E.b) w).drewN nq).setCell (p := ⟨E.b, 2, none⟩) (.inl rfl) _).setCell (p := ⟨E.b, 3, none⟩) (.inl rfl) _
  refine (fill_any E _ hW (hS.keepB hW hkF) (off + 8) 0 _ _ hbF).mono ?_
  rintro e w1 ⟨rfl, hk1, hb1⟩
  have hb1' := BL.of hW (off := off + 8) (bo := 0) hb1
  have hkk := hkF.trans hk1
  obtain ⟨cs1, hcs1, hB1⟩ := hb1'
  clear hc hf c1 c2 c3 c4 hbF hkF hk1 hb1 hB hcs
  have hc := blk_cell hcs1
  have hf := blk_frozen hcs1
  have c1 := hB1.c1
  have c3 := hB1.c3
  have c4 := hB1.c4
  have hvb' : ¬ ((min 8 (E.D.length - (off + 8)) : Nat) * 8 : Int) < (r : Int) := by have := Hr.out; omega
  have hr : (n : Int) - m = r := by have := Hr.out; have := Hm.out; omega
  have hmi : (64 : Int) - bo = m := by have := Hm.out; omega
  have hr64 : r ≤ 64 := by have := Hr.out; omega
  have HT := Lib.hid (trailing_any (bitsAt E.D (8 * (off + 8)) 64) r w1 (bitsAt_lt _ _ _) hr64)
  have HV : Hid (bits .or .u64 ((v : Int) / 2 ^ bo) (IntKind.u64.wrap (((bitsAt E.D (8 * (off + 8)) 64 % 2 ^ r : Nat) : Int) * 2 ^ m)) = (bitsAt E.D (8 * off + bo) n : Nat)) := by
    show _ = _
    rw [bitsAt_mod _ _ _ _ hr64, ← Hv.out]
    have e1 : ((bitsAt E.D (8 * off) 64 : Nat) : Int) / 2 ^ bo = (bitsAt E.D (8 * off + bo) m : Nat) := by
      have := bitsAt_bits E.D (8 * off) 64 bo m (by have := Hm.out; omega)
      rw [← this, Nat.mod_eq_of_lt (Nat.div_lt_of_lt_mul (by rw [← Nat.pow_add, show bo + m = 64 by have := Hm.out; omega]; exact bitsAt_lt _ _ _))]
      simp
    have e2 := bitsAt_add E.D (8 * off + bo) m r
    rw [show m + r = n by have := Hm.out; have := Hr.out; omega, show 8 * off + bo + m = 8 * (off + 8) by have := Hm.out; omega] at e2
    have l1 := bitsAt_lt E.D (8 * off + bo) m
    have l2 := bitsAt_lt E.D (8 * off + bo) n
    have l3 : bitsAt E.D (8 * off + bo) n < 2 ^ 64 := Nat.lt_of_lt_of_le l2 (Nat.pow_le_pow_right (by decide) hn)
    have l4 : bitsAt E.D (8 * off + bo) m < 2 ^ 64 := Nat.lt_of_lt_of_le l1 (Nat.pow_le_pow_right (by decide) hm64)
    rw [e1]
    generalize bitsAt E.D (8 * off + bo) m = a at *
    generalize bitsAt E.D (8 * (off + 8)) r = b at *
    generalize bitsAt E.D (8 * off + bo) n = c at *
    have e3 : (b : Int) * 2 ^ m = ((2 ^ m * b : Nat) : Int) := by simp [Int.mul_comm]
    have l5 : 2 ^ m * b < 18446744073709551616 := by simp at l3; omega
    rw [e3, wrap_u64_id (by omega) (by omega), ← e3, u64_or_pow m (by omega) (by exact_mod_cast l1) (by omega) (by rw [e3]; omega) (by simp at l4; omega), e3]
    omega
  go_wp2_with fail
  refine HT.out.mono ?_
  rintro e w' ⟨rfl, rfl⟩
  go_wp2_with fail
  go_ret2
  refine ⟨by rw [← HV.out]; rfl, hkk.setCell (p := ⟨E.b, 3, none⟩) (.inl rfl) _, _, blk_set hcs1 3 _, ?_⟩
  rw [show bo + n - 64 = r from Hr.out.symm]
  exact hB1.set3 r

set_option maxRecDepth 100000 in
set_option maxHeartbeats 2000000 in
/-- The buffer is used up. -/
theorem next_wrap (E : Env) (w : World) (hW : E.Wf) (hS : Src E w) (off n : Nat) (hn : 1 ≤ n) (hn64 : n ≤ 64) (hb : BL E w off 64) (hlt : 8 * off + 64 + n ≤ 8 * E.D.length) :
    Calls Tryz.prog 148 #[.pointer (some ⟨E.b, 0, none⟩), .int .u64 n] w fun e w' =>
      e = .returned (.tuple #[.int .u64 (bitsAt E.D (8 * off + 64) n : Nat), .nilIface]) ∧ Keep (fun k => k = E.b) w w' ∧ BL E w' (off + 8) n := by
  obtain ⟨cs, hcs, hB⟩ := hb
  have hc := blk_cell hcs
  have hf := blk_frozen hcs
  have c2 := hB.c2
  have c3 := hB.c3
  have hn0 : ((n : Int) == 0) = false := by simp; omega
  have hcap := hW.cap
  generalize bitsAt E.D (8 * off) 64 = v at *
  go_enter Tryz.func148, Tryz.ntmps148
  go_wp2_with fail
  have hbF := (⟨_, blk_set (blk_set hcs 2 (.int .i64 ((off : Int) + 8))) 3 (.int .u64 0), (hB.set2 ((off : Int) + 8)).set3 0⟩ :
    BR E ((w.setCell ⟨E.b, 2, none⟩ (.int .i64 ((off : Int) + 8))).setCell ⟨E.b, 3, none⟩ (.int .u64 0)) ((off : Int) + 8) 0 v _)
  rw [show (off : Int) + 8 = ((off + 8 : Nat) : Int) by omega] at hbF
  have hkF : Keep (fun k => k = E.b) w ((w.setCell ⟨E.b, 2, none⟩ (.int .i64 ((off : Int) + 8))).setCell ⟨E.b, 3, none⟩ (.int .u64 0)) :=
    ((Keep.refl (fun k => k = E.b) w).setCell (p := ⟨E.b, 2, none⟩) (.inl rfl) _).setCell (p := ⟨E.b, 3, none⟩) (.inl rfl) _
  refine (fill_any E _ hW (hS.keepB hW hkF) (off + 8) 0 _ _ hbF).mono ?_
  rintro e w1 ⟨rfl, hk1, hb1⟩
  have hb1' := BL.of hW (off := off + 8) (bo := 0) hb1
  have hkk := hkF.trans hk1
  obtain ⟨cs1, hcs1, hB1⟩ := hb1'
  clear hc hf c2 c3 hbF hkF hk1 hb1 hB hcs
  have hc := blk_cell hcs1
  have hf := blk_frozen hcs1
  have c1 := hB1.c1
  have c3 := hB1.c3
  have c4 := hB1.c4
  have HT : Hid (∀ w', Calls Tryz.prog 170 #[.int .u64 (bitsAt E.D (8 * (off + 8)) 64 : Nat), .int .u64 n] w' fun e w2 => e = .returned (.int .u64 ((bitsAt E.D (8 * (off + 8)) 64 % 2 ^ n : Nat) : Int)) ∧ w2 = w') :=
    fun w' => trailing_any (bitsAt E.D (8 * (off + 8)) 64) n w' (bitsAt_lt _ _ _) hn64
  have HV : Hid (bitsAt E.D (8 * (off + 8)) 64 % 2 ^ n = bitsAt E.D (8 * off + 64) n) := bitsAt_mod E.D (8 * (off + 8)) 64 n hn64
  have hvb' : ¬ ((min 8 (E.D.length - (off + 8)) : Nat) * 8 : Int) < (n : Int) := by omega
  generalize hvbe : (min 8 (E.D.length - (off + 8))) = vb at *
  generalize hve : bitsAt E.D (8 * (off + 8)) 64 = u at *
  have Hvb := Lib.hid hvbe
  have Hv := Lib.hid hve
  clear hvbe hve
  generalize u % 2 ^ n = x at *
  go_wp2_with fail
  go_quiet ((go_at_call 170; exact Calls.quiet_of_same (HT.out _)))
  go_wp2_with fail
  go_ret2
  exact ⟨by rw [← HV.out]; rfl, (hkk.drewN _).setCell (p := ⟨E.b, 3, none⟩) (.inl rfl) _, _, blk_set (blk_drewN hcs1 _) 3 _, by rw [Hv.out, Hvb.out]; exact hB1.set3 _⟩

/-- The next n bits, from whatever place. -/
theorem next_any (E : Env) (w : World) (hW : E.Wf) (hS : Src E w) (off bo n : Nat) (hn : 1 ≤ n) (hn64 : n ≤ 64) (hbo : bo ≤ 64) (hb : BL E w off bo) (hlt : 8 * off + bo + n ≤ 8 * E.D.length) :
    Calls Tryz.prog 148 #[.pointer (some ⟨E.b, 0, none⟩), .int .u64 n] w fun e w' =>
      e = .returned (.tuple #[.int .u64 (bitsAt E.D (8 * off + bo) n : Nat), .nilIface]) ∧ Keep (fun k => k = E.b) w w' ∧ ∃ off' bo', BL E w' off' bo' ∧ 8 * off' + bo' = 8 * off + bo + n ∧ 1 ≤ bo' ∧ bo' ≤ 64 := by
  by_cases h1 : bo = 64
  · subst h1
    exact (next_wrap E w hW hS off n hn hn64 hb hlt).mono fun e w' ⟨he, hk, hb'⟩ => ⟨he, hk, off + 8, n, hb', by omega, hn, hn64⟩
  · by_cases h2 : bo + n ≤ 64
    · exact (next_near E w off bo n hn h2 hb hlt).mono fun e w' ⟨he, hk, hb'⟩ => ⟨he, hk, off, bo + n, hb', by omega, by omega, h2⟩
    · exact (next_far E w hW hS off bo n hn64 (by omega) (by omega) hb hlt).mono fun e w' ⟨he, hk, hb'⟩ => ⟨he, hk, off + 8, bo + n - 64, hb', by omega, by omega, by omega⟩
end Go.Proofs.YtdamippibpbjhaaGreatDoor

/-! Numbers of a varying length off a bit reader. -/
namespace Go.Proofs.YtdamippibpbjhaaGreatDoor
open Go.RowKit

theorem xor_zero {x : Int} (h0 : 0 ≤ x) (h1 : x < 9223372036854775808) : bits .xor .i64 x 0 = x := by
  unfold bits
  simp only [IntKind.wrap_i64]
  have e : BitVec.ofInt IntKind.i64.bits x ^^^ BitVec.ofInt IntKind.i64.bits 0 = BitVec.ofInt IntKind.i64.bits x := by
    rw [show BitVec.ofInt IntKind.i64.bits 0 = 0#_ from rfl, BitVec.xor_zero]
  rw [e]
  have : ((BitVec.ofInt 64 x).toNat : Int) = x := by rw [BitVec.toNat_ofInt]; omega
  change (((BitVec.ofInt 64 x).toNat : Int) + _) % _ - _ = _
  rw [this]
  omega
theorem xor_neg {x : Int} (h0 : 0 ≤ x) (h1 : x < 9223372036854775808) : bits .xor .i64 x (-1) = -x - 1 := by
  unfold bits
  simp only [IntKind.wrap_i64]
  have e : BitVec.ofInt IntKind.i64.bits x ^^^ BitVec.ofInt IntKind.i64.bits (-1) = ~~~ (BitVec.ofInt IntKind.i64.bits x) := by
    rw [show BitVec.ofInt IntKind.i64.bits (-1) = BitVec.allOnes _ from rfl, BitVec.xor_allOnes]
  rw [e, BitVec.toNat_not]
  have : (BitVec.ofInt 64 x).toNat = x.toNat := by rw [BitVec.toNat_ofInt]; omega
  change (((2 ^ 64 - 1 - (BitVec.ofInt 64 x).toNat : Nat) : Int) + _) % _ - _ = _
  rw [this]
  omega

theorem u64_and1 {v : Int} (h0 : 0 ≤ v) (h1 : v < 18446744073709551616) : bits .and .u64 v 1 = v % 2 := by
  obtain ⟨n, rfl⟩ := Int.eq_ofNat_of_zero_le h0
  have := u64_mask (x := (n : Int)) 1 (by omega) (by omega) (by omega)
  simpa using this

set_option maxRecDepth 100000 in
set_option maxHeartbeats 2000000 in
theorem vlq_any (E : Env) (w : World) (hW : E.Wf) (hS : Src E w) (off bo : Nat) (buf vb : Int) (hbo : bo ≤ 64) (hb : BR E w off bo buf vb) (o : Nat) (ho : off + (bo + 7) / 8 = o)
    (n : Nat) (hn : n ≤ 9) (hmore : ∀ j, j < n → 128 ≤ E.D.getD (o + j) 0) (hlast : E.D.getD (o + n) 0 < 128) (h9 : n = 9 → E.D.getD (o + n) 0 ≤ 1) (hlt : o + n < E.D.length) :
    Calls Tryz.prog 106 #[.pointer (some ⟨E.b, 0, none⟩)] w fun e w' =>
      e = .returned (.tuple #[.int .u64 (lebv E.D o (n + 1)), .bool true]) ∧ Keep (fun k => k = E.b) w w' ∧ BL E w' (o + n + 1) 0 := by
  have HU := Lib.hid (uvarint_any E w hW hS off bo buf vb hbo hb o ho n hn hmore hlast h9 hlt)
  clear hn hmore hlast h9 hlt hb
  generalize lebv E.D o (n + 1) = v at *
  go_enter Tryz.func106, Tryz.ntmps106
  go_wp2_with fail
  refine HU.out.mono ?_
  rintro e w1 ⟨rfl, hk, hb1⟩
  go_wp2_with fail
  go_ret2
  exact ⟨rfl, hk, BL.of hW hb1⟩

set_option maxRecDepth 100000 in
set_option maxHeartbeats 2000000 in
theorem zzvlq_any (E : Env) (w : World) (hW : E.Wf) (hS : Src E w) (off bo : Nat) (buf vb : Int) (hbo : bo ≤ 64) (hb : BR E w off bo buf vb) (o : Nat) (ho : off + (bo + 7) / 8 = o)
    (n : Nat) (hn : n ≤ 9) (hmore : ∀ j, j < n → 128 ≤ E.D.getD (o + j) 0) (hlast : E.D.getD (o + n) 0 < 128) (h9 : n = 9 → E.D.getD (o + n) 0 ≤ 1) (hlt : o + n < E.D.length)
    (hv0 : 0 ≤ lebv E.D o (n + 1)) (hv1 : lebv E.D o (n + 1) < 18446744073709551616) :
    Calls Tryz.prog 107 #[.pointer (some ⟨E.b, 0, none⟩)] w fun e w' =>
      e = .returned (.tuple #[.int .i64 (unzz (lebv E.D o (n + 1))), .bool true]) ∧ Keep (fun k => k = E.b) w w' ∧ BL E w' (o + n + 1) 0 := by
  have HU := Lib.hid (vlq_any E w hW hS off bo buf vb hbo hb o ho n hn hmore hlast h9 hlt)
  clear hn hmore hlast h9 hlt hb
  generalize lebv E.D o (n + 1) = v at *
  have ha := u64_and1 hv0 hv1
  have hw1 : IntKind.i64.wrap (v / 2) = v / 2 := by rw [IntKind.wrap_i64]; omega
  have hx0 := xor_zero (x := v / 2) (by omega) (by omega)
  have hx1 := xor_neg (x := v / 2) (by omega) (by omega)
  by_cases h : v % 2 = 0
  · have hz : unzz v = v / 2 := by unfold unzz; rw [if_pos h]
    rw [hz]
    rw [h] at ha
    go_enter Tryz.func107, Tryz.ntmps107
    go_wp2_with fail
    refine HU.out.mono ?_
    rintro e w1 ⟨rfl, hk, hb1⟩
    go_wp2_with fail
    go_ret2
    exact ⟨rfl, hk, hb1⟩
  · have hz : unzz v = -(v / 2) - 1 := by unfold unzz; rw [if_neg h]
    rw [hz]
    have h1 : v % 2 = 1 := by omega
    rw [h1] at ha
    go_enter Tryz.func107, Tryz.ntmps107
    go_wp2_with fail
    refine HU.out.mono ?_
    rintro e w1 ⟨rfl, hk, hb1⟩
    go_wp2_with fail
    go_ret2
    exact ⟨rfl, hk, hb1⟩
end Go.Proofs.YtdamippibpbjhaaGreatDoor

/-! Numbers packed, bit behind bit. -/
namespace Go.Proofs.YtdamippibpbjhaaGreatDoor
open Go.RowKit

/-- The number that bits spell, the least first. -/
def bnum : List Bool → Nat
  | [] => 0
  | b :: l => b.toNat + 2 * bnum l
theorem bnum_lt : ∀ l, bnum l < 2 ^ l.length
  | [] => by simp [bnum]
  | b :: l => by
    have := bnum_lt l
    rw [List.length_cons, Nat.pow_succ]
    cases b <;> simp [bnum] <;> omega
theorem bnum_append : ∀ l m, bnum (l ++ m) = bnum l + 2 ^ l.length * bnum m
  | [], m => by simp [bnum]
  | b :: l, m => by
    rw [List.cons_append, bnum, bnum_append l m, bnum, List.length_cons, Nat.pow_succ, Nat.mul_add, Nat.mul_comm (2 ^ l.length) 2, Nat.mul_assoc]
    omega
/-- The bytes of a number. -/
def numB : Nat → Nat → List Int
  | 0, _ => []
  | k + 1, v => ((v % 256 : Nat) : Int) :: numB k (v / 256)
theorem numB_length : ∀ k v, (numB k v).length = k
  | 0, _ => rfl
  | k + 1, v => by simp [numB, numB_length k]
theorem numB_bytes : ∀ k v, ∀ x ∈ numB k v, 0 ≤ x ∧ x < 256
  | 0, _ => by simp [numB]
  | k + 1, v => by
    intro x hx
    simp only [numB, List.mem_cons] at hx
    rcases hx with rfl | hx
    · omega
    · exact numB_bytes k _ x hx
theorem num_numB : ∀ k v, v < 256 ^ k → num (numB k v) = v
  | 0, v, h => by simp at h; simp [numB, num, h]
  | k + 1, v, h => by
    rw [numB, num, num_numB k (v / 256) (by rw [Nat.pow_succ] at h; omega)]
    omega
theorem numB_getD : ∀ k v j, j < k → (numB k v).getD j 0 = ((v / 256 ^ j % 256 : Nat) : Int)
  | 0, _, _, h => absurd h (by omega)
  | k + 1, v, 0, _ => by simp [numB]
  | k + 1, v, j + 1, h => by
    rw [numB, List.getD_cons_succ, numB_getD k (v / 256) j (by omega), Nat.div_div_eq_div_mul, Nat.pow_succ, Nat.mul_comm (256 ^ j) 256]
/-- Bits as bytes. -/
def packB (l : List Bool) : List Int := numB ((l.length + 7) / 8) (bnum l)
theorem packB_length (l : List Bool) : (packB l).length = (l.length + 7) / 8 := numB_length _ _
theorem num_packB (l : List Bool) : num (packB l) = bnum l := by
  refine num_numB _ _ (Nat.lt_of_lt_of_le (bnum_lt l) ?_)
  rw [show (256 : Nat) = 2 ^ 8 from rfl, ← Nat.pow_mul]
  exact Nat.pow_le_pow_right (by decide) (by omega)
/-- The lowest w bits of a number. -/
def bitsOf (v : Nat) : Nat → List Bool
  | 0 => []
  | w + 1 => bitsOf v w ++ [v / 2 ^ w % 2 == 1]
theorem bitsOf_length (v : Nat) : ∀ w, (bitsOf v w).length = w
  | 0 => rfl
  | w + 1 => by simp [bitsOf, bitsOf_length v w]
theorem bnum_bitsOf (v : Nat) : ∀ w, bnum (bitsOf v w) = v % 2 ^ w
  | 0 => by simp [bitsOf, bnum, Nat.mod_one]
  | w + 1 => by
    rw [bitsOf, bnum_append, bnum_bitsOf v w, bitsOf_length, Nat.pow_succ, Nat.mod_mul]
    congr 1
    congr 1
    by_cases h : v / 2 ^ w % 2 = 1
    · simp [h, bnum]
    · have : v / 2 ^ w % 2 = 0 := by omega
      simp [this, bnum]
/-- m numbers of w bits each. -/
def valBits (f : Nat → Nat) (w : Nat) : Nat → List Bool
  | 0 => []
  | m + 1 => valBits f w m ++ bitsOf (f m) w
theorem valBits_length (f : Nat → Nat) (w : Nat) : ∀ m, (valBits f w m).length = m * w
  | 0 => by simp [valBits]
  | m + 1 => by simp [valBits, valBits_length f w m, bitsOf_length, Nat.add_mul]
theorem bnum_valBits (f : Nat → Nat) (w : Nat) (hf : ∀ i, f i < 2 ^ w) : ∀ m i, i < m → bnum (valBits f w m) / 2 ^ (i * w) % 2 ^ w = f i
  | 0, _, h => absurd h (by omega)
  | m + 1, i, h => by
    have hl := bnum_lt (valBits f w m)
    rw [valBits, bnum_append, valBits_length, bnum_bitsOf, Nat.mod_eq_of_lt (hf m)]
    rw [valBits_length] at hl
    by_cases e : i = m
    · subst e
      rw [Nat.add_mul_div_left _ _ (Nat.two_pow_pos _), Nat.div_eq_of_lt hl, Nat.zero_add, Nat.mod_eq_of_lt (hf i)]
    · have ih := bnum_valBits f w hf m i (by omega)
      have hle : (i + 1) * w ≤ m * w := Nat.mul_le_mul_right _ (by omega)
      rw [Nat.add_mul, Nat.one_mul] at hle
      rw [show m * w = i * w + (w + (m * w - i * w - w)) by omega, Nat.pow_add, Nat.mul_assoc, Nat.add_mul_div_left _ _ (Nat.two_pow_pos _), Nat.pow_add, Nat.mul_assoc, Nat.add_mul_mod_self_left]
      exact ih
/-- Packed numbers, read. -/
theorem bitsAt_packed (f : Nat → Nat) (w m i : Nat) (hf : ∀ i, f i < 2 ^ w) (hi : i < m) : bitsAt (packB (valBits f w m)) (i * w) w = f i := by
  unfold bitsAt
  rw [num_packB]
  exact bnum_valBits f w hf m i hi
/-- How many bits a number needs. -/
def nbits : Nat → Nat → Nat
  | 0, _ => 0
  | f + 1, v => if v = 0 then 0 else nbits f (v / 2) + 1
theorem nbits_lt : ∀ f v, v < 2 ^ f → v < 2 ^ nbits f v
  | 0, v, h => by simpa [nbits] using h
  | f + 1, v, h => by
    unfold nbits
    by_cases e : v = 0
    · simp [e]
    · rw [if_neg e, Nat.pow_succ]
      have := nbits_lt f (v / 2) (by rw [Nat.pow_succ] at h; omega)
      omega
end Go.Proofs.YtdamippibpbjhaaGreatDoor
