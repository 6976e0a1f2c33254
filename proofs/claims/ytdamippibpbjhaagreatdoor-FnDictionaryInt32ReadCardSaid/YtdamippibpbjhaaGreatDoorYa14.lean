import Derived.Test.YtdamippibpbjhaaGreatDoorYa08
import Derived.Test.YtdamippibpbjhaaGreatDoorYa05
import Derived.Test.YtdamippibpbjhaaGreatDoorYa13
import Derived.Test.YtdamippibpbjhaaGreatDoorYa01
import Derived.Deep.DeepCutAuto
import Derived.Deep.LoopGhost
import Derived.Deep.CutBlock
/-! Unpacking groups of 32 numbers. -/
namespace Go.Proofs.YtdamippibpbjhaaGreatDoor
open Go.RowKit

@[go_sem] theorem alen345 : Tryz.prog.arrayLen 345 = 128 := by kernel_rfl
@[go_sem] theorem alen243 : Tryz.prog.arrayLen 243 = 1024 := by kernel_rfl

set_option maxRecDepth 100000 in
set_option maxHeartbeats 2000000 in
theorem newReader_any (p : Option Addr) (n c : Nat) (w : World) : Calls Tryz.prog 104 #[.slice p n c] w fun e w' =>
    e = .returned (.pointer (some ⟨w.heap.size, 0, none⟩)) ∧ w' = w.alloc (.cells #[.slice p n c, .int .i64 0, .int .i64 (-1)] 101) := by
  go_enter Tryz.func104, Tryz.ntmps104
  go_wp2_with fail
  go_ret
  exact ⟨rfl, rfl⟩

/-- State of the loop: k groups are unpacked. -/
def UdRel (rb : RB) (g o sc ob oo i N n4 nl : Nat) (D : List Int) (cs : Array Value) (t : TypeId) (w : World) (x : Value) (wr : World) : Prop :=
  ∃ k : Nat, k ≤ nl ∧ x = .int .i64 k ∧ Keep (fun k => k = rb ∨ k = ob) w wr ∧ Rdr wr rb g o sc D (i + n4 * k) ∧ (∃ pcs, wr.heap[w.heap.size]? = some (.cells pcs 345 (0, 0)) ∧ pcs.size = 128) ∧
    ∃ cs', wr.heap[ob]? = some (.cells cs' t (0, 0)) ∧ cs'.size = cs.size ∧ (∀ j, j < oo ∨ oo + k * 32 ≤ j → cs'[j]? = cs[j]?) ∧ ∀ m, m < k * 32 → cs'[oo + m]? = some (.int .u32 (bitsAt D (8 * i + m * N) N : Nat))

set_option maxRecDepth 100000 in
set_option maxHeartbeats 4000000 in
theorem unpack_any (rb : RB) (g o sc ob oo len c i N : Nat) (D : List Int) (cs : Array Value) (t : TypeId) (w : World) (hN : 1 ≤ N ∧ N ≤ 32) (hr : Rdr w rb g o sc D i) (hrow : Row w .u8 g o D) (hb : w.heap[ob]? = some (.cells cs t (0, 0)))
    (hu : ∀ k, k < len → ∃ x : Int, 0 ≤ x ∧ x < 4294967296 ∧ cs[oo + k]? = some (.int .u32 x)) (hlc : len ≤ c) (hcap : oo + c ≤ cs.size) (hc9 : c ≤ 140737488351232)
    (hbr : ob ≠ rb) (hgb : g ≠ ob) (hgr : g ≠ rb) (hi : i + 4 * N * (len / 32) ≤ D.length) (hsc : D.length ≤ sc) (hD : D.length ≤ 140737488351232) (hB : Bytes D) :
    Calls Tryz.prog 171 #[.iface 208 (.pointer (some ⟨rb, rb.o, none⟩)), .slice (some ⟨ob, oo, none⟩) len c, .int .i64 N] w fun e w' =>
      e = .returned (.tuple #[.int .i64 (len / 32 * 32 : Nat), .nilIface]) ∧ Keep (fun k => k = rb ∨ k = ob) w w' ∧ Rdr w' rb g o sc D (i + 4 * N * (len / 32)) ∧
      ∃ cs', w'.heap[ob]? = some (.cells cs' t (0, 0)) ∧ cs'.size = cs.size ∧ (∀ j, j < oo ∨ oo + len / 32 * 32 ≤ j → cs'[j]? = cs[j]?) ∧
        ∀ k, k < len / 32 * 32 → cs'[oo + k]? = some (.int .u32 (bitsAt D (8 * i + k * N) N : Nat)) := by
  go_enter Tryz.func171, Tryz.ntmps171
  go_upto_block 0 with fail
  go_cut [10] from 23 to 88 (fun f w' => f = .func (.func (183 + N)) #[] #[] ∧ w' = w)
  case first =>
    have hN' : N = 1 ∨ N = 2 ∨ N = 3 ∨ N = 4 ∨ N = 5 ∨ N = 6 ∨ N = 7 ∨ N = 8 ∨ N = 9 ∨ N = 10 ∨ N = 11 ∨ N = 12 ∨ N = 13 ∨ N = 14 ∨ N = 15 ∨ N = 16 ∨ N = 17 ∨ N = 18 ∨ N = 19 ∨ N = 20 ∨ N = 21 ∨ N = 22 ∨ N = 23 ∨ N = 24 ∨ N = 25 ∨ N = 26 ∨ N = 27 ∨ N = 28 ∨ N = 29 ∨ N = 30 ∨ N = 31 ∨ N = 32 := by omega
    clear hr hrow hb hu hlc hcap hc9 hbr hgb hgr hi hsc hD hB
    rcases hN' with rfl | rfl | rfl | rfl | rfl | rfl | rfl | rfl | rfl | rfl | rfl | rfl | rfl | rfl | rfl | rfl | rfl | rfl | rfl | rfl | rfl | rfl | rfl | rfl | rfl | rfl | rfl | rfl | rfl | rfl | rfl | rfl
    all_goals
      go_wp2_with fail
      go_meet
      exact ⟨rfl, rfl⟩
  case rest =>
    obtain ⟨rfl, hw⟩ := hcut
    have hw' := hw.symm
    clear hw
    subst hw'
    go_wp2_with fail
    have Hu := Lib.hid hu
    clear hu
    have hpl : ob < w.heap.size := blk_lt hb
    have hrl : rb < w.heap.size := by obtain ⟨q, hq⟩ := hr; exact blk_lt hq
    have hnw : ob ≠ w.heap.size := by omega
    have hgl : len / 32 = 0 ∨ g < w.heap.size := by
      rcases Nat.eq_zero_or_pos (len / 32) with h | h
      · exact .inl h
      · have : 1 * 1 ≤ N * (len / 32) := Nat.mul_le_mul hN.1 h
        exact .inr (World.block_lt_of_cell? w _ (hrow 0 (by rw [Nat.mul_assoc] at hi; omega)))
    have hquo : (len : Int) / 32 = ((len / 32 : Nat) : Int) := by omega
    have hmul : (len : Int) / 32 * 32 = ((len / 32 * 32 : Nat) : Int) := by omega
    have hn4 : (N : Int) * 4 = ((4 * N : Nat) : Int) := by omega
    rw [hmul, hquo, hn4]
    have hL := Nat.div_mul_le_self len 32
    generalize hnl : len / 32 = nl at *
    have Hnl := Lib.hid hnl
    have hN2 : 1 ≤ 4 * N ∧ 4 * N ≤ 128 := by omega
    clear hquo hmul hnl hn4
    have HI := Lib.hid (show ∀ k, k < nl → i + 4 * N * k + 4 * N ≤ D.length from fun k hk => by
      have := Nat.mul_le_mul_left (4 * N) (show k + 1 ≤ nl from hk)
      rw [Nat.mul_add, Nat.mul_one] at this
      omega)
    generalize hn4 : 4 * N = n4 at *
    have Hn4 := Lib.hid hn4
    clear hn4
    obtain ⟨hn41, hn42⟩ := hN2
    have hn43 : (n4 : Int) ≤ 128 := by omega
    go_loopw [13, 14, 15] (fun x _ _ wr => UdRel rb g o sc ob oo i N n4 nl D cs t w x wr) (fun x _ _ _ => nl - (intOf x).toNat)
    case atStart =>
      refine ⟨0, Nat.zero_le _, rfl, (Keep.refl _ w).alloc _, ?_, ⟨_, blk_new _ _, by rfl⟩, cs, blk_alloc hb _, rfl, fun _ _ => rfl, fun m hm => absurd hm (by omega)⟩
      obtain ⟨q, hq⟩ := hr
      exact ⟨q, by rw [Nat.mul_zero, Nat.add_zero]; exact blk_alloc hq _⟩
    case round =>
      obtain ⟨k, hk, rfl, hkr, hrr, ⟨pcs, hpcs, hpsz⟩, cs', hcs', hsz, hout, hin⟩ := hrel
      by_cases h : k < nl
      · have hg := hgl.resolve_left (by omega)
        have HF := Lib.hid (full_any rb g o sc w.heap.size 0 n4 128 (i + n4 * k) D pcs 345 wr hrr (hrow.keep hkr (by rintro (h | h); exact hgr h; exact hgb h)) hpcs (by omega) hn42 (by omega) (by omega) hgr (HI.out k h) hn41 hsc hD)
        clear hrow
        go_wp2_with fail
        refine HF.out.mono ?_
        rintro e w1 ⟨rfl, hk1, hr1, hp1⟩
        have hk2 := hkr.step hk1 (by rintro j (h | h); exact .inl (.inl h); exact .inr (by omega))
        have hb1 := hk1.blk hcs' (by rintro (h | h); exact hbr h; exact hnw h)
        clear HF hk1 hkr hpcs hrr hcs' hr hb
        go_wp2_with fail
        have hwr : IntKind.i64.wrap ((k : Int) * 32) = (k : Int) * 32 := by rw [IntKind.wrap_i64]; omega
        have htn : ((k : Int) * 32).toNat = k * 32 := by omega
        have hin0 : 0 ≤ (k : Int) * 32 ∧ (k : Int) * 32 ≤ (len : Int) := by omega
        have hck : ¬ c = k * 32 := by omega
        refine wp_region_takes (by kernel_rfl) ?_
        refine wpAny_pure 0 (by kernel_rfl) rfl rfl (fun _ _ _ h => h) (fun w' => BigFrame.run_move _ rfl w') ?_
        go_simp
        refine wpAny_pure 1 (by kernel_rfl) rfl rfl (fun _ _ _ h => h) (fun w' => BigFrame.run_move _ rfl w') ?_
        go_simp
        refine wpAny_pure 2 (v := .slice (some ⟨w.heap.size, 0, none⟩) n4 128) (by kernel_rfl) rfl rfl (fun _ _ _ h => h) (fun w' => by go_simp) ?_
        go_simp
        refine wpAny_pure 5 (by kernel_rfl) rfl rfl (fun _ _ _ h => h) (fun w' => BigFrame.run_move _ rfl w') ?_
        go_simp
        refine wpAny_pure 6 (by kernel_rfl) rfl rfl (fun _ _ _ h => h) (fun w' => BigFrame.run_move _ rfl w') ?_
        go_simp
        refine wpAny_pure 7 (v := .int .i64 (k * 32 : Nat)) (by kernel_rfl) rfl rfl (fun _ _ _ h => h) (fun w' => by go_simp) ?_
        go_simp
        refine wpAny_pure 8 (v := .slice (some ⟨ob, oo + k * 32, none⟩) (len - k * 32) (c - k * 32)) (by kernel_rfl) rfl rfl (fun _ _ _ h => h) (fun w' => by go_simp) ?_
        go_simp
        refine wpAny_only 3 (by kernel_rfl) rfl ?_
        go_wp2_with fail
        refine (newReader_any _ _ _ _).mono ?_
        rintro e w2 ⟨rfl, hw2⟩
        have hA : Keep (fun _ => False) w1.drew w2 := by rw [hw2]; exact (Keep.refl _ _).alloc _
        have hrn : w2.heap[w1.heap.size]? = some (.cells #[.slice (some ⟨w.heap.size, 0, none⟩) n4 128, .int .i64 0, .int .i64 (-1)] 101 (0, 0)) := by rw [hw2]; exact blk_new w1.drew _
        have hb2 := hA.blk (blk_drew hb1) (fun h => h)
        have hp2 := hA.blk (blk_drew hp1) (fun h => h)
        have hq2 : Rdr w2 rb g o sc D (i + n4 * k + n4) := by obtain ⟨q, hq⟩ := hr1; exact ⟨q, hA.blk (blk_drew hq) (fun h => h)⟩
        have hk3 := hk2.drew.step hA (fun _ h => h.elim)
        have hs0 := blk_lt hp1
        have hs1 := hk2.size
        have hs2 := hk3.size
        have hs3 := blk_lt hrn
        change Keep _ w w2 at hk3
        have hDl : ((D.drop (i + n4 * k)).take n4).length = n4 := by have := HI.out k h; simp; omega
        obtain ⟨fn, hfn, hres, hrun⟩ := unpack_run N hN.1 hN.2
        have HU := Lib.hid (unpack_of word_said (p := ⟨N, w1.heap.size, w.heap.size, 128, (D.drop (i + n4 * k)).take n4, ob, oo + k * 32, len - k * 32, c - k * 32, t, cs', w2⟩)
          ⟨by show ob ≠ w1.heap.size; omega, by show w.heap.size ≠ ob; omega, by show w.heap.size ≠ w1.heap.size; omega, blk_lt hb2, hs3, blk_lt hp2, (hB.drop _).take _, by rw [hDl, Hn4.out], by rw [hDl]; exact hn42, by rw [hDl]; exact hn42,
            by show 32 ≤ len - k * 32; omega, by show len - k * 32 ≤ c - k * 32; omega, by show c - k * 32 ≤ 9223372036854775807; omega, by show oo + k * 32 + 32 ≤ cs'.size; omega⟩
          (183 + N) fn hfn hres 400 hrun hb2
          (fun m hm => by show ∃ x : Int, 0 ≤ x ∧ x < 4294967296 ∧ cs'[oo + k * 32 + m]? = some (.int .u32 x); rw [hout _ (.inr (by omega))]; have := Hu.out (k * 32 + m) (by omega); rwa [Nat.add_assoc])
          ⟨-1, by rw [hDl]; exact hrn⟩
          (fun j hj => by
            have hj' : j < n4 := by rw [← hDl]; exact hj
            rw [blk_cell hp2, putA_in _ 0 _ j (by rw [nums_length]; exact hj) (by rw [nums_length, hDl]; omega), nums_get hj]))
        have hent := unpack_enters N hN.1 hN.2
        clear hA hw2 hk2 hr1 hp1 hb1 hfn hres hrun
        go_wp2_with fail
        refine wpAny_only 4 (by kernel_rfl) rfl ?_
        go_wp2_with fail
        refine wpAny_only 9 (by kernel_rfl) rfl ?_
        go_wp2_with fail
        refine HU.out.mono ?_
        rintro e w3 ⟨rfl, hk4, cs'', hcs'', hsz', hout', hin'⟩
        go_wp2_with fail
        refine wpAny_stop (by kernel_rfl) ?_
        go_wp2_with fail
        go_roundw
        case measure => simp [intOf]; omega
        case rel =>
          (repeat apply Exists.intro)
          refine ⟨?_, rfl⟩
          refine ⟨k + 1, by omega, by go_num, hk3.step hk4 ?_, ?_, ?_, cs'', hcs'', hsz'.trans hsz, fun j hj => ?_, fun m hm => ?_⟩
          · rintro j (h | h)
            · exact .inl (.inr h)
            · exact .inr (by have h' : j = w1.heap.size := h; omega)
          · obtain ⟨q, hq⟩ := hq2
            rw [Nat.mul_add, Nat.mul_one, ← Nat.add_assoc]
            exact ⟨q, hk4.blk hq (by rintro (h | h); exact hbr h.symm; exact absurd (show rb.b = w1.heap.size from h) (by omega))⟩
          · exact ⟨_, hk4.blk hp2 (by rintro (h | h); exact hnw h.symm; exact absurd (show w.heap.size = w1.heap.size from h) (by omega)), by rw [putA_size]; exact hpsz⟩
          · rw [hout' j (by show j < oo + k * 32 ∨ oo + k * 32 + 32 ≤ j; omega)]
            exact hout j (by omega)
          · by_cases hmk : m < k * 32
            · rw [hout' _ (.inl (by show oo + m < oo + k * 32; omega))]
              exact hin m hmk
            · have h1 := hin' (m - k * 32) (by omega)
              change cs''[oo + k * 32 + (m - k * 32)]? = some (.int .u32 (bitsAt ((D.drop (i + n4 * k)).take n4) ((m - k * 32) * N) N : Nat)) at h1
              have h2 : (m - k * 32) * N + N ≤ 8 * n4 := by
                have := Nat.mul_le_mul_right N (show m - k * 32 + 1 ≤ 32 by omega)
                rw [Nat.add_mul, Nat.one_mul] at this
                have := Hn4.out
                omega
              rw [show oo + k * 32 + (m - k * 32) = oo + m by omega, bitsAt_sub D hB _ _ _ _ h2] at h1
              rw [h1]
              have h3 : 8 * (i + n4 * k) + (m - k * 32) * N = 8 * i + m * N := by
                obtain ⟨r, rfl⟩ : ∃ r, m = k * 32 + r := ⟨m - k * 32, by omega⟩
                rw [Nat.add_sub_cancel_left, Nat.add_mul, ← Hn4.out, Nat.mul_add, Nat.mul_assoc 4 N k, Nat.mul_comm k 32, Nat.mul_assoc 32 k N, Nat.mul_comm k N]
                omega
              rw [h3]
      · obtain rfl : k = nl := by omega
        go_wp2_with fail
        go_ret2
        rw [Hnl.out, Hn4.out]
        exact ⟨rfl, hkr, hrr, cs', hcs', hsz, hout, hin⟩
end Go.Proofs.YtdamippibpbjhaaGreatDoor
