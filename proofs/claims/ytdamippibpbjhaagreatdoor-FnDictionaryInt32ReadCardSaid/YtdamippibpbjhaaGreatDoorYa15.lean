import Derived.Test.YtdamippibpbjhaaGreatDoorYa04
import Derived.Test.YtdamippibpbjhaaGreatDoorYa06
import Derived.Test.YtdamippibpbjhaaGreatDoorYa14
import Derived.Deep.DeepCutAuto
import Derived.Deep.CutBlock
/-! A batch of numbers off a bit reader. -/
namespace Go.Proofs.YtdamippibpbjhaaGreatDoor
open Go.RowKit

set_option maxRecDepth 100000 in
set_option maxHeartbeats 2000000 in
theorem min_any (a b : Nat) (w : World) : Calls Tryz.prog 109 #[.int .i64 a, .int .i64 b] w fun e w' => e = .returned (.int .i64 (min a b : Nat)) ∧ w' = w := by
  go_enter Tryz.func109, Tryz.ntmps109
  by_cases h : a < b
  · have hm : min a b = a := by omega
    rw [hm]
    go_wp2_with fail
    go_ret
    exact ⟨rfl, rfl⟩
  · have hm : min a b = b := by omega
    rw [hm]
    go_wp2_with fail
    go_ret
    exact ⟨rfl, rfl⟩

set_option maxRecDepth 100000 in
set_option maxHeartbeats 4000000 in
theorem unpack32_any (rb : RB) (g o sc ob oo len c i N : Nat) (D : List Int) (cs : Array Value) (t : TypeId) (w : World) (hN : 1 ≤ N ∧ N ≤ 32) (hr : Rdr w rb g o sc D i) (hrow : Row w .u8 g o D) (hb : w.heap[ob]? = some (.cells cs t (0, 0)))
    (hu : ∀ k, k < len → ∃ x : Int, 0 ≤ x ∧ x < 4294967296 ∧ cs[oo + k]? = some (.int .u32 x)) (hlc : len ≤ c) (hcap : oo + c ≤ cs.size) (hc9 : c ≤ 140737488351232)
    (hbr : ob ≠ rb) (hgb : g ≠ ob) (hgr : g ≠ rb) (hi : i + 4 * N * (len / 32) ≤ D.length) (hsc : D.length ≤ sc) (hD : D.length ≤ 140737488351232) (hB : Bytes D) :
    Calls Tryz.prog 149 #[.iface 208 (.pointer (some ⟨rb, rb.o, none⟩)), .slice (some ⟨ob, oo, none⟩) len c, .int .i64 N] w fun e w' =>
      e = .returned (.tuple #[.int .i64 (len / 32 * 32 : Nat), .nilIface]) ∧ Keep (fun k => k = rb ∨ k = ob) w w' ∧ Rdr w' rb g o sc D (i + 4 * N * (len / 32)) ∧
      ∃ cs', w'.heap[ob]? = some (.cells cs' t (0, 0)) ∧ cs'.size = cs.size ∧ (∀ j, j < oo ∨ oo + len / 32 * 32 ≤ j → cs'[j]? = cs[j]?) ∧
        ∀ k, k < len / 32 * 32 → cs'[oo + k]? = some (.int .u32 (bitsAt D (8 * i + k * N) N : Nat)) := by
  have HU := Lib.hid (unpack_any rb g o sc ob oo len c i N D cs t w hN hr hrow hb hu hlc hcap hc9 hbr hgb hgr hi hsc hD hB)
  clear hN hr hrow hb hu hlc hcap hc9 hbr hgb hgr hi hsc hD hB
  generalize len / 32 * 32 = m at *
  go_enter Tryz.func149, Tryz.ntmps149
  go_wp2_with fail
  refine HU.out.mono ?_
  rintro e w1 ⟨rfl, h⟩
  go_wp2_with fail
  go_ret2
  exact ⟨rfl, h⟩

/-- k numbers of so many bits from bit p on lie in the batch; the reader stands behind them. -/
def GbRel (E : Env) (w : World) (ob oo bits p : Nat) (cs : Array Value) (t : TypeId) (R : World → Nat → Nat → Prop) (k : Nat) (wr : World) : Prop :=
  Keep (fun k => k = E.b ∨ k = E.rb ∨ k = ob) w wr ∧ Src E wr ∧ (∃ off bo, R wr off bo ∧ 8 * off + bo = p + k * bits ∧ bo ≤ 64) ∧
    ∃ cs', wr.heap[ob]? = some (.cells cs' t (0, 0)) ∧ cs'.size = cs.size ∧ (∀ j, j < oo ∨ oo + k ≤ j → cs'[j]? = cs[j]?) ∧ ∀ j, j < k → cs'[oo + j]? = some (.int .u64 (bitsAt E.D (p + j * bits) bits : Nat))
/-- The reader's buffer is not told. -/
def BRaw (E : Env) (w : World) (off bo : Nat) : Prop := ∃ buf vb : Int, BR E w off bo buf vb
theorem BL.raw {E : Env} {w : World} {off bo : Nat} (h : BL E w off bo) : BRaw E w off bo := ⟨_, _, h⟩
theorem BR.keep {E : Env} {S : Nat → Prop} {w w' : World} {off bo buf vb : Int} (h : BR E w off bo buf vb) (hk : Keep S w w') (hs : ¬ S E.b) : BR E w' off bo buf vb := by
  obtain ⟨c, hc, hB⟩ := h
  exact ⟨c, hk.blk hc hs, hB⟩
theorem GbRel.mono {E : Env} {w : World} {ob oo bits p : Nat} {cs : Array Value} {t : TypeId} {R R' : World → Nat → Nat → Prop} {k : Nat} {wr : World} (h : GbRel E w ob oo bits p cs t R k wr) (hR : ∀ off bo, R wr off bo → R' wr off bo) :
    GbRel E w ob oo bits p cs t R' k wr := by
  obtain ⟨h1, h2, ⟨off, bo, h3, h4⟩, h5⟩ := h
  exact ⟨h1, h2, ⟨off, bo, hR _ _ h3, h4⟩, h5⟩

/-- One number more. -/
theorem GbRel.next {E : Env} {w : World} {ob oo bits p : Nat} {cs cs' : Array Value} {t : TypeId} {R : World → Nat → Nat → Prop} {k : Nat} {wr w1 : World} {off' bo' : Nat} (hW : E.Wf) (hob : ob ≠ E.b) (horb : ob ≠ E.rb) (hog : ob ≠ E.g) (ho2 : ob ≠ 2)
    (hkr : Keep (fun k => k = E.b ∨ k = E.rb ∨ k = ob) w wr) (hS : Src E wr)
    (hcs : wr.heap[ob]? = some (.cells cs' t (0, 0))) (hsz : cs'.size = cs.size) (hout : ∀ j, j < oo ∨ oo + k ≤ j → cs'[j]? = cs[j]?) (hin : ∀ j, j < k → cs'[oo + j]? = some (.int .u64 (bitsAt E.D (p + j * bits) bits : Nat)))
    (hk1 : Keep (fun k => k = E.b) wr w1) (hR : ∀ v, R (w1.setCell ⟨ob, oo + k, none⟩ v) off' bo') (hp : 8 * off' + bo' = p + k * bits + bits) (h64 : bo' ≤ 64) (hlt : oo + k < cs.size) :
    GbRel E w ob oo bits p cs t R (k + 1) (w1.setCell ⟨ob, oo + k, none⟩ (.int .u64 (bitsAt E.D (p + k * bits) bits : Nat))) := by
  have hcs1 := hk1.blk hcs hob
  refine ⟨(hkr.step hk1 (fun _ h => .inl (.inl h))).setCell (.inl (.inr (.inr rfl))) _, ?_, ⟨off', bo', hR _, ?_, h64⟩, _, blk_set hcs1 (oo + k) _, by simpa using hsz, fun j hj => ?_, fun j hj => ?_⟩
  · exact (hS.keepB hW hk1).keep ((Keep.refl (fun k => k = ob) w1).setCell (.inl rfl) _) (fun e => horb e.symm) (fun e => hog e.symm) (fun e => ho2 e.symm)
  · rw [hp, Nat.add_mul]; omega
  · rw [Array.getElem?_setIfInBounds_ne (by omega)]
    exact hout j (by omega)
  · by_cases e : j = k
    · subst e
      rw [Array.getElem?_setIfInBounds_self_of_lt (by omega)]
    · rw [Array.getElem?_setIfInBounds_ne (by omega)]
      exact hin j (by omega)
theorem BR.far {E : Env} {w : World} {off bo buf vb : Int} (h : BR E w off bo buf vb) {ob : Nat} (hob : ob ≠ E.b) (i : Nat) (v : Value) : BR E (w.setCell ⟨ob, i, none⟩ v) off bo buf vb := by
  obtain ⟨c, hc, hB⟩ := h
  exact ⟨c, blk_far hc hob _, hB⟩
/-- The byte reader has gone to another place. -/
theorem GbRel.seek {E : Env} {w : World} {ob oo bits p : Nat} {cs : Array Value} {t : TypeId} {k : Nat} {wr w1 : World} (hW : E.Wf) (horb : ob ≠ E.rb) (h : GbRel E w ob oo bits p cs t (BRaw E) k wr) (hk : Keep (fun k => k = E.rb) wr w1) {x : Nat}
    (hr : Rdr w1 E.R E.g E.o E.sc E.D x) : GbRel E w ob oo bits p cs t (BRaw E) k w1 := by
  obtain ⟨h1, h2, ⟨off, bo, ⟨buf, vb, h3⟩, h4⟩, cs', h5, h6⟩ := h
  obtain ⟨q, hq⟩ := hr
  exact ⟨h1.step hk (fun _ h => .inl (.inr (.inl h))), ⟨⟨x, q, hq⟩, h2.row.keep hk (fun e => hW.rbg e.symm), hk.cell h2.eof (fun e => hW.rb2 e.symm)⟩, ⟨off, bo, ⟨buf, vb, h3.keep hk hW.brb⟩, h4⟩, cs', hk.blk h5 horb, h6⟩

set_option maxRecDepth 100000 in
set_option maxHeartbeats 4000000 in
theorem getBatch_any (E : Env) (w : World) (hW : E.Wf) (hS : Src E w) (off bo n bits : Nat) (hn0 : 0 < n) (hn32 : n % 32 = 0) (hn1 : n ≤ 1024) (hb1 : 1 ≤ bits) (hb64 : bits ≤ 64) (hbo : bo ≤ 64) (hb : BL E w off bo)
    (hlt : 8 * off + bo + n * bits ≤ 8 * E.D.length) (ob oo c : Nat) (cs : Array Value) (t : TypeId) (hob : w.heap[ob]? = some (.cells cs t (0, 0))) (hoo : oo + n ≤ cs.size)
    (o1 : ob ≠ E.b) (o2 : ob ≠ E.rb) (o3 : ob ≠ E.g) (o4 : ob ≠ 2) :
    Calls Tryz.prog 132 #[.pointer (some ⟨E.b, 0, none⟩), .int .u64 bits, .slice (some ⟨ob, oo, none⟩) n c] w fun e w' =>
      e = .returned (.tuple #[.int .i64 n, .nilIface]) ∧ GbRel E w ob oo bits (8 * off + bo) cs t (BL E) n w' := by
  go_enter Tryz.func132, Tryz.ntmps132
  have hb64' : ¬ ((64 : Int) < (bits : Int)) := by omega
  go_upto_block 0 with fail
  go_cut [9, 10, 11] from 26 to 51 (fun i _ _ wr => (i = .int .i64 n ∧ GbRel E w ob oo bits (8 * off + bo) cs t (BRaw E) n wr) ∨ (i = .int .i64 0 ∧ wr = w ∧ bo = 0))
  case first =>
    by_cases h0 : bo = 0
    · subst h0
      have hbl := hb
      obtain ⟨cs0, hcs0, hB0⟩ := hbl
      have hc := blk_cell hcs0
      have c3 := hB0.c3
      go_wp2_with fail
      go_loopw [9, 10, 11] (fun x _ _ wr => x = .int .i64 0 ∧ wr = w) (fun _ _ _ _ => 0)
      case atStart => exact ⟨rfl, rfl⟩
      case round =>
        obtain ⟨rfl, rfl⟩ := hrel
        go_wp2_with fail
        go_meet
        exact .inr ⟨rfl, rfl, trivial⟩
    · go_wp2_with fail
      go_loopw [9, 10, 11] (fun x _ _ wr => ∃ k, k ≤ n ∧ x = .int .i64 k ∧ GbRel E w ob oo bits (8 * off + bo) cs t (fun w off bo => BL E w off bo ∧ 1 ≤ bo) k wr) (fun x _ _ _ => n - (intOf x).toNat)
      case atStart => exact ⟨0, Nat.zero_le _, rfl, Keep.refl _ w, hS, ⟨off, bo, ⟨hb, by omega⟩, by omega, hbo⟩, cs, hob, rfl, fun _ _ => rfl, fun j hj => absurd hj (by omega)⟩
      case round =>
        obtain ⟨k, hkn, rfl, hkr, hSr, ⟨off', bo', ⟨hbl, hB'⟩, hpos, hbo'⟩, cs', hcs', hsz, hout, hin⟩ := hrel
        have hbl' := hbl
        obtain ⟨cs0, hcs0, hB0⟩ := hbl'
        have hc := blk_cell hcs0
        have c3 := hB0.c3
        by_cases h : k < n
        · have HL := Lib.hid (show (k + 1) * bits ≤ n * bits from Nat.mul_le_mul_right _ h)
          have HN := Lib.hid (next_any E wr hW hSr off' bo' bits hb1 hb64 hbo' hbl (by have := HL.out; rw [Nat.add_mul] at this; omega))
          rw [hpos] at HN
          clear hS hb hob hbo
          go_wp2_with fail
          refine HN.out.mono ?_
          rintro e w1 ⟨rfl, hk1, off1, bo1, hb1', hp1, hB1, h641⟩
          have hcs1 := hk1.blk hcs' o1
          have hco : w1.cell? ⟨ob, oo + k, none⟩ = some (cs'[oo + k]'(by omega)) := by rw [blk_cell hcs1]; simp
          have hfo := blk_frozen hcs1
          have HG := Lib.hid (GbRel.next (R := fun w off bo => BL E w off bo ∧ 1 ≤ bo) hW o1 o2 o3 o4 hkr hSr hcs' hsz hout hin hk1 (fun v => ⟨BR.far hb1' o1 _ v, hB1⟩) hp1 h641 (by omega))
          clear hc c3 hB0 hcs0 hbl hcs' HN
          go_wp2_with fail
          go_roundw
          case rel =>
            exact ⟨k + 1, h, by go_num, HG.out⟩
          case measure => simp [intOf]; omega
        · obtain rfl : k = n := by omega
          go_wp2_with fail
          go_meet
          exact .inl ⟨rfl, hkr, hSr, ⟨off', bo', hbl.raw, hpos, hbo'⟩, cs', hcs', hsz, hout, hin⟩
  case rest =>
    go_upto_if 53 with fail
    go_cut [9] (fun i wr => ∃ k : Nat, i = .int .i64 k ∧ k ≤ n ∧ GbRel E w ob oo bits (8 * off + bo) cs t (BRaw E) k wr)
    case first =>
      rcases hcut with ⟨rfl, hG⟩ | ⟨rfl, rfl, rfl⟩
      · have hG' := hG
        obtain ⟨hkr, hSr, ⟨off', bo', ⟨buf, vb, cs0, hcs0, hB0⟩, hpos, hbo'⟩, cs', hcs', hsz, hout, hin⟩ := hG'
        obtain ⟨ri, rq, hrd⟩ := hSr.rd
        have hc := blk_cell hcs0
        have c0 := hB0.c0
        have c2 := hB0.c2
        have hcap := hW.cap
        have HK := Lib.hid (fun m => seek_any E.R E.g E.o E.sc off' ri rq E.D (wc.drewN m) (blk_drewN hrd m) (by omega))
        clear hkr hSr hcs' hsz hout hin hB0 hcs0 hS hb hob
        by_cases h32 : bits ≤ 32
        · go_wp2_with fail
          refine wp_region_mid 10 (by kernel_rfl) (by kernel_rfl) rfl ?_
          simp only [List.take_succ_cons, List.take_zero, List.drop_succ_cons, List.drop_zero]
          repeat (go_big_quiet_step (fail))
          refine wpQuiet_nil ?_
          rintro _ ⟨nq, rfl⟩
          go_wp2_with fail
          refine (HK.out nq).mono ?_
          rintro e w1 ⟨rfl, hk1, hr1⟩
          have HG := Lib.hid (fun m => hG.seek (w1 := w1.drewN m) hW o2 ((((Keep.refl _ wc).drewN nq).trans hk1).drewN m) hr1)
          clear hG hc c0 c2 HK hk1 hr1
          go_wp2_with fail
          repeat (go_big_quiet_step (fail))
          refine wpQuiet_nil ?_
          rintro _ ⟨nq2, rfl⟩
          go_wp2_with fail
          go_loopw [9, 14, 15, 16, 17] (fun x _ _ _ _ wr => x = .int .i64 n ∧ wr = w1.drewN nq2) (fun _ _ _ _ _ _ => 0)
          case atStart => exact ⟨rfl, rfl⟩
          case round =>
            obtain ⟨rfl, rfl⟩ := hrel
            go_wp2_with fail
            go_meet
            exact ⟨n, rfl, Nat.le_refl _, HG.out _⟩
        · go_wp2_with fail
          go_meet
          exact ⟨n, rfl, Nat.le_refl _, hG⟩
      · by_cases h32 : bits ≤ 32
        · have hbl := hb
          obtain ⟨cs0, hcs0, hB0⟩ := hbl
          obtain ⟨ri, rq, hrd⟩ := hS.rd
          have hc := blk_cell hcs0
          have c0 := hB0.c0
          have c2 := hB0.c2
          have hcap := hW.cap
          have HK := Lib.hid (fun m => seek_any E.R E.g E.o E.sc off ri rq E.D (wc.drewN m) (blk_drewN hrd m) (by omega))
          go_wp2_with fail
          refine wp_region_mid 10 (by kernel_rfl) (by kernel_rfl) rfl ?_
          simp only [List.take_succ_cons, List.take_zero, List.drop_succ_cons, List.drop_zero]
          repeat (go_big_quiet_step (fail))
          refine wpQuiet_nil ?_
          rintro _ ⟨nq, rfl⟩
          go_wp2_with fail
          refine (HK.out nq).mono ?_
          rintro e w1 ⟨rfl, hk1, hr1⟩
          have hk2 : Keep (fun k => k = E.rb) wc w1 := ((Keep.refl _ wc).drewN nq).trans hk1
          have hcs1 := hk2.blk hcs0 hW.brb
          have hob1 := hk2.blk hob o2
          have hrow1 := hS.row.keep hk2 (fun e => hW.rbg e.symm)
          have heof1 := hk2.cell hS.eof (fun e => hW.rb2 e.symm)
          clear hc HK hk1 hrd hcs0
          go_wp2_with fail
          repeat (go_big_quiet_step (fail))
          refine wpQuiet_nil ?_
          rintro _ ⟨nq2, rfl⟩
          go_wp2_with fail
          have hk3 : Keep (fun k => k = E.rb) wc (w1.drewN nq2) := hk2.drewN nq2
          have hcs2 := blk_drewN hcs1 nq2
          have hob2 := blk_drewN hob1 nq2
          have hrow2 : Row (w1.drewN nq2) .u8 E.g E.o E.D := hrow1
          have heof2 : (w1.drewN nq2).cell? ⟨2, 0, none⟩ = _ := heof1
          have hr2 : Rdr (w1.drewN nq2) E.R E.g E.o E.sc E.D off := hr1
          clear hk2 hcs1 hob1 hrow1 heof1 hr1
          generalize w1.drewN nq2 = w2 at *
          go_loopw [9, 14, 15, 16, 17] (fun x _ _ _ _ wr => (x = .int .i64 0 ∧ wr = w2) ∨ (x = .int .i64 n ∧ GbRel E wc ob oo bits (8 * off + 0) cs t (BRaw E) n wr)) (fun x _ _ _ _ _ => n - (intOf x).toNat)
          case atStart => exact .inl ⟨rfl, rfl⟩
          case round =>
            rcases hrel with ⟨rfl, rfl⟩ | ⟨rfl, hG⟩
            · have HM := Lib.hid (show Calls Tryz.prog 109 #[.int .i64 1024, .int .i64 n] wr fun e w' => e = .returned (.int .i64 (min 1024 n : Nat)) ∧ w' = wr from min_any 1024 n wr)
              rw [show min 1024 n = n by omega] at HM
              have hc := blk_cell hcs2
              go_wp2_with fail
              refine HM.out.mono ?_
              rintro e w1' ⟨rfl, hw1⟩
              have hw1' := hw1.symm
              clear hw1
              subst hw1'
              obtain ⟨q32, hq32⟩ : ∃ q, n = q * 32 := ⟨n / 32, by omega⟩
              have hn32' : n / 32 * 32 = n := by omega
              have hbq : 8 * (4 * bits * (n / 32)) = n * bits := by
                rw [hq32, Nat.mul_div_cancel _ (by omega), Nat.mul_assoc 4, Nat.mul_comm q32 32, Nat.mul_assoc 32, Nat.mul_comm bits q32]
                omega
              have HU := Lib.hid (fun m => unpack32_any E.R E.g E.o E.sc E.b 13 n 1024 off bits E.D cs0 245 (wr.drewN m) ⟨hb1, h32⟩ hr2 hrow2 (blk_drewN hcs2 m) (fun k hk => hB0.ub k (by omega)) hn1 (by have := hB0.size; omega) (by omega)
                hW.brb (fun e => hW.bg e.symm) (fun e => hW.rbg e.symm) (by omega) hW.len hcap hW.byte)
              rw [hn32'] at HU
              have Hbq := Lib.hid hbq
              clear hn32' hbq hq32
              generalize 4 * bits * (n / 32) = bq at *
              have hn1' : (n : Int) ≤ 1024 := by omega
              go_wp2_with fail
              refine wp_region_mid 11 (by kernel_rfl) (by kernel_rfl) rfl ?_
              simp only [List.take_succ_cons, List.take_zero, List.drop_succ_cons, List.drop_zero]
              repeat (go_big_quiet_step (fail))
              refine wpQuiet_nil ?_
              rintro _ ⟨nq3, rfl⟩
              go_wp2_with fail
              refine (HU.out nq3).mono ?_
              rintro e w3 ⟨rfl, hk4, hr3, cs1, hcs3, hsz3, hout3, hin3⟩
              have hk5 : Keep (fun k => k = E.rb ∨ k = E.b) wc w3 := (hk3.mono (fun _ h => .inl h)).trans (((Keep.refl _ wr).drewN nq3).trans hk4)
              have hob3 := hk4.blk (blk_drewN hob2 nq3) (by rintro (h | h); exact o2 h; exact o1 h)
              have hrow3 := hrow2.keep (((Keep.refl _ wr).drewN nq3).trans hk4) (by rintro (h | h); exact hW.rbg h.symm; exact hW.bg h.symm)
              have heof3 := (((Keep.refl _ wr).drewN nq3).trans hk4).cell heof2 (by rintro (h | h); exact hW.rb2 h.symm; exact hW.b2 h.symm)
              clear HU hk4 hk3 hcs2 hob2 hr2 hrow2 heof2 hc
              go_wp2_with fail
              repeat (go_big_quiet_step (fail))
              refine wpQuiet_nil ?_
              rintro _ ⟨nq4, rfl⟩
              go_wp2_with fail
              have hk6 : Keep (fun k => k = E.rb ∨ k = E.b) wc (w3.drewN nq4) := hk5.drewN nq4
              have hcs4 := blk_drewN hcs3 nq4
              have hob4 := blk_drewN hob3 nq4
              have hrow4 : Row (w3.drewN nq4) .u8 E.g E.o E.D := hrow3
              have heof4 : (w3.drewN nq4).cell? ⟨2, 0, none⟩ = _ := heof3
              have hr4 : Rdr (w3.drewN nq4) E.R E.g E.o E.sc E.D (off + bq) := hr3
              clear hk5 hcs3 hob3 hrow3 heof3 hr3
              generalize w3.drewN nq4 = w4 at *
              have Hin3 := Lib.hid hin3
              have Hout3 := Lib.hid hout3
              clear hin3 hout3
              go_loopw [17] (fun x wr => ∃ k : Nat, k ≤ n ∧ x = .int .i64 k ∧ Keep (fun k => k = ob) w4 wr ∧ ∃ cs2, wr.heap[ob]? = some (.cells cs2 t (0, 0)) ∧ cs2.size = cs.size ∧ (∀ j, j < oo ∨ oo + k ≤ j → cs2[j]? = cs[j]?) ∧
                ∀ j, j < k → cs2[oo + j]? = some (.int .u64 (bitsAt E.D (8 * off + j * bits) bits : Nat))) (fun x _ => n - (intOf x).toNat)
              case atStart => exact ⟨0, Nat.zero_le _, rfl, Keep.refl _ _, cs, hob4, rfl, fun _ _ => rfl, fun j hj => absurd hj (by omega)⟩
              case round =>
                obtain ⟨k, hkn, rfl, hkr, cs2, hcs2, hsz2, hout2, hin2⟩ := hrel
                have hcE := hkr.blk hcs4 (fun h => o1 h.symm)
                by_cases h : k < n
                · have hcx : wr.cell? ⟨E.b, 13 + k, none⟩ = some (.int .u32 (bitsAt E.D (8 * off + k * bits) bits : Nat)) := by rw [blk_cell hcE]; exact Hin3.out k h
                  have hx1 := bitsAt_lt E.D (8 * off + k * bits) bits
                  have hx2 : 2 ^ bits ≤ 2 ^ 32 := Nat.pow_le_pow_right (by decide) h32
                  have hx3 : bitsAt E.D (8 * off + k * bits) bits < 4294967296 := by omega
                  clear hx1 hx2
                  have hcs5 := fun v => blk_set hcs2 (oo + k) v
                  have hco : wr.cell? ⟨ob, oo + k, none⟩ = some (cs2[oo + k]'(by omega)) := by rw [blk_cell hcs2]; simp
                  have hfo := blk_frozen hcs2
                  generalize hx : bitsAt E.D (8 * off + k * bits) bits = x at *
                  have Hx := Lib.hid hx
                  clear hx hcs2 hcs4 hcE
                  go_wp2_with fail
                  go_roundw
                  case rel =>
                    refine ⟨k + 1, h, by go_num, hkr.setCell (p := ⟨ob, oo + k, none⟩) (.inl rfl) _, _, hcs5 _, by simpa using hsz2, fun j hj => ?_, fun j hj => ?_⟩
                    · rw [Array.getElem?_setIfInBounds_ne (by omega)]
                      exact hout2 j (by omega)
                    · by_cases e : j = k
                      · subst e
                        rw [Array.getElem?_setIfInBounds_self_of_lt (by omega), Hx.out]
                      · rw [Array.getElem?_setIfInBounds_ne (by omega)]
                        exact hin2 j (by omega)
                  case measure => simp [intOf]; omega
                · obtain rfl : k = n := by omega
                  have hcc := blk_cell hcE
                  have hff := blk_frozen hcE
                  have c2' : cs1[2]? = some (.int .i64 off) := by rw [Hout3.out 2 (by omega)]; exact c2
                  have hbq := Hbq.out
                  have hmul : IntKind.i64.wrap ((k : Int) * (bits : Int)) = ((8 * bq : Nat) : Int) := by
                    rw [hbq, IntKind.wrap_i64, ← Int.natCast_mul]; omega
                  go_wp2_with fail
                  refine ⟨.inr ⟨rfl, ?_⟩, by simp [intOf]; omega⟩
                  have e1 : (off : Int) + (k : Int) * (bits : Int) / 8 = ((off + bq : Nat) : Int) := by
                    rw [← Int.natCast_mul, ← hbq]; omega
                  rw [e1]
                  have hBC : BC cs1 E.R off 0 (bitsAt E.D (8 * off) 64 : Nat) ((min 8 (E.D.length - off) : Nat) * 8) := by
                    refine ⟨hsz3.trans hB0.size, ?_, ?_, c2', ?_, ?_, fun j hj => ?_, fun j hj => ?_⟩
                    · rw [Hout3.out 0 (by omega)]; exact hB0.c0
                    · rw [Hout3.out 1 (by omega)]; exact hB0.c1
                    · rw [Hout3.out 3 (by omega)]; exact hB0.c3
                    · rw [Hout3.out 4 (by omega)]; exact hB0.c4
                    · rw [Hout3.out (5 + j) (by omega)]; exact hB0.raw j hj
                    · by_cases hjk : j < k
                      · have hx1 := bitsAt_lt E.D (8 * off + j * bits) bits
                        have hx2 : 2 ^ bits ≤ 2 ^ 32 := Nat.pow_le_pow_right (by decide) h32
                        exact ⟨_, by omega, by omega, Hin3.out j hjk⟩
                      · rw [Hout3.out (13 + j) (by omega)]; exact hB0.ub j hj
                  have hks : Keep (fun k => k = E.b) wr (wr.setCell ⟨E.b, 2, none⟩ (.int .i64 (off + bq : Nat))) := (Keep.refl (fun k => k = E.b) wr).setCell (p := ⟨E.b, 2, none⟩) (.inl rfl) _
                  obtain ⟨q4, hq4⟩ := hr4
                  refine ⟨((hk6.mono (fun i h => h.elim (fun h => .inr (.inl h)) .inl)).step hkr (fun i h => .inl (.inr (.inr h)))).step hks (fun i h => .inl (.inl h)), ⟨⟨_, q4, hks.blk (hkr.blk hq4 (fun h => o2 h.symm)) (fun h => hW.brb h.symm)⟩, (hrow4.keep hkr (fun h => o3 h.symm)).keep hks (fun h => hW.bg h.symm), hks.cell (hkr.cell heof4 (fun h => o4 h.symm)) (fun h => hW.b2 h.symm)⟩,
                    ⟨off + bq, 0, ⟨_, _, _, blk_set hcE 2 _, hBC.set2 _⟩, by rw [← hbq]; omega, by omega⟩, cs2, hks.blk hcs2 o1, hsz2, hout2, hin2⟩
            · go_wp2_with fail
              go_meet
              exact ⟨n, rfl, Nat.le_refl _, hG⟩
        · go_wp2_with fail
          go_meet
          exact ⟨0, rfl, Nat.zero_le _, Keep.refl _ _, hS, ⟨off, 0, hb.raw, by omega, by omega⟩, cs, hob, rfl, fun _ _ => rfl, fun j hj => absurd hj (by omega)⟩
    case rest =>
      obtain ⟨k0, rfl, hk0, hkr, hSr, ⟨off', bo', ⟨buf, vb, hbr⟩, hpos, hbo'⟩, cs', hcs', hsz, hout, hin⟩ := hcut
      have HF := Lib.hid (fill_any E wc hW hSr off' bo' buf vb hbr)
      clear hb hob hS hbo hbr
      go_wp2_with fail
      refine HF.out.mono ?_
      rintro e w1 ⟨rfl, hk1, hb1'⟩
      have HG : Hid (GbRel E w ob oo bits (8 * off + bo) cs t (BL E) k0 w1) := Lib.hid ⟨hkr.step hk1 (fun _ h => .inl (.inl h)), hSr.keepB hW hk1, ⟨off', bo', BL.of hW hb1', hpos, hbo'⟩, cs', hk1.blk hcs' o1, hsz, hout, hin⟩
      clear HF hkr hSr hpos hbo' hcs' hsz hout hin hk1 hb1'
      go_wp2_with fail
      go_loopw [9, 19, 20] (fun x _ _ wr => ∃ k : Nat, k ≤ n ∧ x = .int .i64 k ∧ GbRel E w ob oo bits (8 * off + bo) cs t (BL E) k wr) (fun x _ _ _ => n - (intOf x).toNat)
      case atStart => exact ⟨k0, hk0, rfl, HG.out⟩
      case round =>
        clear HG
        obtain ⟨k, hkn, rfl, hkr, hSr, ⟨off', bo', hbl, hpos, hbo'⟩, cs', hcs', hsz, hout, hin⟩ := hrel
        by_cases h : k < n
        · have HL := Lib.hid (show (k + 1) * bits ≤ n * bits from Nat.mul_le_mul_right _ h)
          have HN := Lib.hid (next_any E wr hW hSr off' bo' bits hb1 hb64 hbo' hbl (by have := HL.out; rw [Nat.add_mul] at this; omega))
          rw [hpos] at HN
          go_wp2_with fail
          refine HN.out.mono ?_
          rintro e w1 ⟨rfl, hk1, off1, bo1, hb1', hp1, hB1, h641⟩
          have hcs1 := hk1.blk hcs' o1
          have hco : w1.cell? ⟨ob, oo + k, none⟩ = some (cs'[oo + k]'(by omega)) := by rw [blk_cell hcs1]; simp
          have hfo := blk_frozen hcs1
          have HG := Lib.hid (GbRel.next (R := BL E) hW o1 o2 o3 o4 hkr hSr hcs' hsz hout hin hk1 (fun v => BR.far hb1' o1 _ v) hp1 h641 (by omega))
          clear hbl hcs' HN
          go_wp2_with fail
          go_roundw
          case rel =>
            exact ⟨k + 1, h, by go_num, HG.out⟩
          case measure => simp [intOf]; omega
        · obtain rfl : k = n := by omega
          go_wp2_with fail
          go_ret2
          exact ⟨rfl, hkr, hSr, ⟨off', bo', hbl, hpos, hbo'⟩, cs', hcs', hsz, hout, hin⟩
end Go.Proofs.YtdamippibpbjhaaGreatDoor
