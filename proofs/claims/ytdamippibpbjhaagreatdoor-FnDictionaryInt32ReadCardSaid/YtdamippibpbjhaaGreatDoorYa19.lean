import Derived.Test.YtdamippibpbjhaaGreatDoorYa18
import Derived.Test.YtdamippibpbjhaaGreatDoorYa15
import Derived.Deep.RegionHeld3
import Derived.Deep.DrawnRows
/-! The next part of a block is unpacked: numbers of 64 bits. -/
namespace Go.Proofs.YtdamippibpbjhaaGreatDoor
open Go.RowKit

theorem info2 : (Tryz.prog.info? 2).map (fun i => (i.zero, i.size, i.bytes)) = some (some (.int .i64 0), 1, 8) := by kernel_rfl
theorem info45 : (Tryz.prog.info? 45).map (fun i => (i.zero, i.size, i.bytes)) = some (some (.int .u64 0), 1, 8) := by kernel_rfl

@[go_sem] theorem eql_nil_22 (a : Option Addr) (n c : Nat) (w : World) : (binOp .eql 22 (.slice a n c) (.slice none 0 0)).run Tryz.prog w = .ok (.bool a.isNone) w := Lib.run_eql_slice_nil w 22 2 a n c 0 0 (by kernel_rfl)

theorem SD.fresh {E : Env} {T : TypeId} {db mb m dd p k : Nat} {d : DV} {mc : Array Value} {pos : Nat} {w : World} (h : SD E T db mb d mc true pos w) (hD0 : 0 < E.D.length) (hB : WBs E db mb m mc dd p k w) : FarOf E db mb dd w.heap.size := by
  have hrd : E.rb < w.heap.size := by obtain ⟨i, p, hr⟩ := h.src.rd; exact blk_lt hr
  have hb : E.b < w.heap.size := by obtain ⟨_, _, _, _, ⟨c, hc, _⟩, _⟩ := h.pos; exact blk_lt hc
  have h2 : 2 < w.heap.size := World.block_lt_of_cell? w _ h.src.eof
  have hdb := blk_lt h.dec
  have hmb := blk_lt h.buf
  have hg : E.g < w.heap.size := World.block_lt_of_cell? w _ (h.src.row 0 hD0)
  obtain ⟨_, ⟨cs, hcs, _⟩, _⟩ := hB
  have hdd := blk_lt hcs
  exact ⟨by omega, by omega, by omega, by omega, by omega, by omega, by omega⟩
theorem make_cap {t e : TypeId} {z : Value} {b : Nat} (ht : Tryz.prog.underlying t = some (.slice e)) (hinfo : (Tryz.prog.info? e).map (fun i => (i.zero, i.size, i.bytes)) = some (some z, 1, b)) (hz1 : z.cells = #[z]) (hb : b ≤ 8) (n : Nat) (hn : n ≤ 1024) (w : World) :
    (Instr.makeSlice t (.int .i64 0) (.int .i64 n)).run Tryz.prog w = .ok (.slice (some ⟨w.heap.size, 0, none⟩) 0 n) (w.alloc (.cells (madeCells #[z] n) e)) := by
  obtain ⟨i, hi, hzz⟩ := Option.map_eq_some_iff.1 hinfo
  simp only [Prod.mk.injEq] at hzz
  obtain ⟨hz, hs, hb'⟩ := hzz
  have h1 : (i.bytes : Int) * (n : Int) ≤ 281474976710656 := by
    have h2 : i.bytes * n ≤ 8 * 1024 := Nat.mul_le_mul (by omega) hn
    have h3 : ((i.bytes * n : Nat) : Int) ≤ ((8 * 1024 : Nat) : Int) := Int.ofNat_le.2 h2
    rw [Int.natCast_mul] at h3
    omega
  have h := run_make (P := Tryz.prog) w t e i z ht hi hz .i64 .i64 0 n (by omega) (by omega) h1 (by omega)
  simpa [hs, hz1] using h

theorem make_full {t e : TypeId} {z : Value} {b : Nat} (ht : Tryz.prog.underlying t = some (.slice e)) (hinfo : (Tryz.prog.info? e).map (fun i => (i.zero, i.size, i.bytes)) = some (some z, 1, b)) (hz1 : z.cells = #[z]) (hb : b ≤ 8) (n : Nat) (hn : n ≤ 1024) (w : World) :
    (Instr.makeSlice t (.int .i64 n) (.int .i64 n)).run Tryz.prog w = .ok (.slice (some ⟨w.heap.size, 0, none⟩) n n) (w.alloc (.cells (madeCells #[z] n) e)) := by
  obtain ⟨i, hi, hzz⟩ := Option.map_eq_some_iff.1 hinfo
  simp only [Prod.mk.injEq] at hzz
  obtain ⟨hz, hs, hb'⟩ := hzz
  have h1 : (i.bytes : Int) * (n : Int) ≤ 281474976710656 := by
    have h2 : i.bytes * n ≤ 8 * 1024 := Nat.mul_le_mul (by omega) hn
    have h3 : ((i.bytes * n : Nat) : Int) ≤ ((8 * 1024 : Nat) : Int) := Int.ofNat_le.2 h2
    rw [Int.natCast_mul] at h3
    omega
  have h := run_make (P := Tryz.prog) w t e i z ht hi hz .i64 .i64 n n (by omega) (by omega) h1 (by omega)
  simpa [hs, hz1] using h

set_option maxRecDepth 100000 in
set_option maxHeartbeats 8000000 in
theorem mini64 (E : Env) (db mb m dd p pos k vpm bwv : Nat) (d : DV) (mc : Array Value) (w : World) (hW : E.Wf) (hA : Apart E db mb) (hS : SD E 206 db mb d mc true pos w) (hB : WBs E db mb m mc dd p m w)
    (hM : MvIn E 2 db mb dd vpm d.mv w) (hN : DbIn E db mb dd vpm d.db w) (hbd : d.bd = .pointer (some ⟨E.b, 0, none⟩)) (hmb : d.mb = .pointer (some ⟨mb, 0, none⟩)) (hv : d.vpm = vpm) (hv1 : 32 ≤ vpm ∧ vpm ≤ 1024 ∧ vpm % 32 = 0) (hmi : d.mi = k) (hk : k < m) (hm : m ≤ 32) (hD0 : 0 < E.D.length)
    (hbwv : E.D.getD (p + k) 0 = bwv) (hw64 : bwv ≤ 64) (hmd : -9223372036854775808 ≤ d.md ∧ d.md < 9223372036854775808) (hlv : -9223372036854775808 ≤ d.lv ∧ d.lv < 9223372036854775808) (hlen : pos + vpm * bwv / 8 ≤ E.D.length) :
    Calls Tryz.prog 111 #[.pointer (some ⟨db, 0, none⟩)] w fun e w' => e = .returned .nilIface ∧ ∃ x dbv', Keep (fun b => b = E.b ∨ b = E.rb ∨ b = db ∨ MOwn d.mv b ∨ MOwn d.db b) w w' ∧
      SD E 206 db mb { d with bw := bwv, cmv := vpm, mi := (k + 1 : Nat), lv := accR d.lv d.md (fun j => bitsAt E.D (8 * pos + j * bwv) bwv) vpm, mv := .slice (some ⟨x, 0, none⟩) vpm vpm, db := dbv' } mc true (pos + vpm * bwv / 8) w' ∧ WBs E db mb m mc dd p m w' ∧
      (∃ cs, w'.heap[x]? = some (.cells cs 2 (0, 0)) ∧ cs.size = vpm ∧ ∀ c, c < vpm → cs[c]? = some (.int .i64 (accR d.lv d.md (fun j => bitsAt E.D (8 * pos + j * bwv) bwv) (c + 1)))) ∧ FarOf E db mb dd x ∧ DbIn E db mb dd vpm dbv' w' ∧
      (w.heap.size ≤ x ∨ MOwn d.mv x) ∧ ∀ b, MOwn dbv' b → w.heap.size ≤ b ∨ MOwn d.db b := by
  obtain ⟨nv, data, tl, used, bd, bs, cb, mpb, vpm', cmv, md, mi, mbv, bw, tv, lv, mv, dbv⟩ := d
  simp only at hM hN hbd hmb hv hmi hmd hlv
  subst hbd hmb hv hmi
  have hmk := make_cap (t := 22) (by kernel_rfl) info2 rfl (by omega) vpm hv1.2.1
  have hvp : (vpm : Int) ≤ 1024 := by omega
  have hc := blk_cell hS.dec
  have hf := blk_frozen hS.dec
  simp only [DV.cells] at hc
  have hdA := blk_alloc hS.dec (.cells (madeCells #[.int .i64 0] vpm) 2)
  have hcA := blk_cell hdA
  have hfA := blk_frozen hdA
  simp only [DV.cells] at hcA
  obtain ⟨ma, ml, mcap, rfl⟩ : ∃ a l c, mv = .slice a l c := by rcases hM with rfl | ⟨x, cs, rfl, _⟩ <;> exact ⟨_, _, _, rfl⟩
  go_enter Tryz.func111, Tryz.ntmps111
  go_upto_if 19 with fail
  go_cut [3] from 20 to 36 (fun _ wr => ∃ x cs, Keep (fun k => k = db) w wr ∧ SD E 206 db mb ⟨nv, data, tl, used, .pointer (some ⟨E.b, 0, none⟩), bs, cb, mpb, vpm, cmv, md, k, .pointer (some ⟨mb, 0, none⟩), bw, tv, lv, .slice (some ⟨x, 0, none⟩) 0 vpm, dbv⟩ mc true pos wr ∧
    WBs E db mb m mc dd p m wr ∧ wr.heap[x]? = some (.cells cs 2 (0, 0)) ∧ cs.size = vpm ∧ FarOf E db mb dd x ∧ (w.heap.size ≤ x ∨ Value.slice ma ml mcap = .slice (some ⟨x, 0, none⟩) vpm vpm))
  case first =>
    rcases hM with h | ⟨x, cs, h, hx, hxs, hfar⟩ <;> cases h
    · go_wp2_with fail
      go_meet
      have hkA : Keep (fun _ => False) w (w.alloc (.cells (madeCells #[.int .i64 0] vpm) 2)) := (Keep.refl _ w).alloc _
      have hks : Keep (fun k => k = db) (w.alloc (.cells (madeCells #[.int .i64 0] vpm) 2)) ((w.alloc (.cells (madeCells #[.int .i64 0] vpm) 2)).setCell ⟨db, 17, none⟩ (.slice (some ⟨w.heap.size, 0, none⟩) 0 vpm)) :=
        (Keep.refl (fun k => k = db) _).setCell (p := ⟨db, 17, none⟩) (.inl rfl) _
      have hfar := hS.fresh hD0 hB
      have h1 := hS.far (x := w.heap.size) ⟨hfar.1, hfar.2.1, hfar.2.2.1, hfar.2.2.2.1, hfar.2.2.2.2.1, hfar.2.2.2.2.2.1⟩ (hkA.mono (fun _ h => h.elim))
      exact ⟨w.heap.size, _, (hkA.mono (fun _ h => h.elim)).trans hks, h1.set hA 17 _ rfl, (hB.keep hkA (fun h => h)).keep hks hB.2.2.2.2.2.2.1, hks.blk (blk_new w _) (fun e => hfar.2.2.2.2.1 e), size_madeCells _ _, hfar, .inl (Nat.le_refl _)⟩
    · go_wp2_with fail
      go_meet
      have hks : Keep (fun k => k = db) w (w.setCell ⟨db, 17, none⟩ (.slice (some ⟨x, 0, none⟩) 0 vpm)) := (Keep.refl (fun k => k = db) _).setCell (p := ⟨db, 17, none⟩) (.inl rfl) _
      exact ⟨x, cs, hks, SD.set hA hS 17 _ rfl, hB.keep hks hB.2.2.2.2.2.2.1, hks.blk hx (fun e => hfar.2.2.2.2.1 e), hxs, hfar, .inr rfl⟩
  case rest =>
    obtain ⟨x, xs, hK1, hS1, hB1, hx1, hxs, hfar, hown⟩ := hcut
    clear hc hf hdA hcA hfA hmk hS hB hM
    have hc := blk_cell hS1.dec
    have hf := blk_frozen hS1.dec
    simp only [DV.cells] at hc
    have hB1' := hB1
    obtain ⟨hmc, ⟨wcs, hwcs, hwz, hwin⟩, hne⟩ := hB1'
    have HBy := Lib.hid (fun n => bytes_any mb dd m (wc.drewN n) (by omega) (by have := (hS1.drewN n).buf; rwa [hmc] at this))
    have hwk : wc.cell? ⟨dd, k, none⟩ = some (.int .u8 (E.D.getD (p + k) 0)) := by rw [blk_cell hwcs]; exact hwin k hk
    rw [hbwv] at hwk
    have hkm' : (k : Int) < (m : Int) := by omega
    go_wp2_with fail
    refine wp_region_mid 15 (by kernel_rfl) (by kernel_rfl) rfl ?_
    simp only [List.take_succ_cons, List.take_zero, List.drop_succ_cons, List.drop_zero]
    repeat (go_big_quiet_step ((go_at_call 131; exact Calls.quiet_of (HBy.out _))))
    refine wpQuiet_nil ?_
    rintro _ ⟨nq, rfl⟩
    go_wp2_with fail
    refine wpQuiet_nil ?_
    rintro _ ⟨nq2, rfl⟩
    go_wp2_with fail
    have hS2 := ((hS1.drewN nq).set hA 14 (.int .u8 bwv) (d' := ⟨nv, data, tl, used, .pointer (some ⟨E.b, 0, none⟩), bs, cb, mpb, vpm, cmv, md, k, .pointer (some ⟨mb, 0, none⟩), bwv, tv, lv, .slice (some ⟨x, 0, none⟩) 0 vpm, dbv⟩) rfl).drewN nq2
    have hk2 : Keep (fun k => k = db) wc (((wc.drewN nq).setCell ⟨db, 14, none⟩ (.int .u8 bwv)).drewN nq2) := (((Keep.refl (fun k => k = db) wc).drewN nq).setCell (p := ⟨db, 14, none⟩) (.inl rfl) _).drewN nq2
    have hK2 := hK1.trans hk2
    have hB2 := hB1.keep hk2 hne.2.2.2.2.1
    have hx2 := hk2.blk hx1 hfar.2.2.2.2.1
    clear hc hf HBy hwk hS1 hK1 hB1 hx1 hk2 hwcs hwin
    generalize ((wc.drewN nq).setCell ⟨db, 14, none⟩ (.int .u8 bwv)).drewN nq2 = w2 at *
    refine (isI32_64 w2).mono ?_
    rintro e w2' ⟨rfl, hw⟩
    have hw' := hw.symm
    clear hw
    subst hw'
    have hc := blk_cell hS2.dec
    have hf := blk_frozen hS2.dec
    simp only [DV.cells] at hc
    have hb64 : ¬ ((64 : Int) < (bwv : Int)) := by omega
    go_upto_if 78 with fail
    have hS3 : SD E 206 db mb ⟨nv, data, tl, used, .pointer (some ⟨E.b, 0, none⟩), bs, cb, mpb, vpm, vpm, md, k, .pointer (some ⟨mb, 0, none⟩), bwv, tv, lv, .slice (some ⟨x, 0, none⟩) 0 vpm, dbv⟩ mc true pos _ := hS2.set hA 10 (.int .u32 vpm) rfl
    have hk3 : Keep (fun b => b = db) w2 (w2.setCell ⟨db, 10, none⟩ (.int .u32 vpm)) := (Keep.refl (fun b => b = db) w2).setCell (p := ⟨db, 10, none⟩) (.inl rfl) _
    have hB3 := hB2.keep hk3 hne.2.2.2.2.1
    have hx3 := hk3.blk hx2 hfar.2.2.2.2.1
    have hK3 := hK2.trans hk3
    clear hc hf hS2 hB2 hx2 hK2 hk3
    generalize w2.setCell ⟨db, 10, none⟩ (.int .u32 vpm) = w3 at *
    have hN3 : DbIn E db mb dd vpm dbv w3 := hN.keep hK3 (fun b hb e => by
      rcases hN with h | ⟨ob, cs, h, _, _, hf⟩
      · obtain ⟨n, c, hb⟩ := hb; rw [h] at hb; cases hb
      · obtain ⟨n, c, hb⟩ := hb
        rw [h] at hb
        cases hb
        exact hf.2.2.2.2.1 e)
    have Hr0 : ∃ f : Nat → Int, f = accR lv md (fun j => bitsAt E.D (8 * pos + j * bwv) bwv) := ⟨_, rfl⟩
    obtain ⟨f, hf0⟩ := Hr0
    have hfb : ∀ j, -9223372036854775808 ≤ f j ∧ f j < 9223372036854775808 := fun j => by rw [hf0]; exact accR_bounds hlv j
    have hfs : ∀ j, f (j + 1) = IntKind.i64.wrap (f j + IntKind.i64.wrap (IntKind.i64.wrap (bitsAt E.D (8 * pos + j * bwv) bwv : Nat) + md)) := fun j => by rw [hf0, accR]
    have hfz : f 0 = lv := by rw [hf0]; rfl
    have Hfb := Lib.hid hfb
    have Hfs := Lib.hid hfs
    have hM0 : Mini E 206 2 (fun v => .int .i64 v) db mb m dd p x vpm ⟨nv, data, tl, used, .pointer (some ⟨E.b, 0, none⟩), bs, cb, mpb, vpm, vpm, md, k, .pointer (some ⟨mb, 0, none⟩), bwv, tv, lv, .slice (some ⟨x, 0, none⟩) 0 vpm, dbv⟩ mc pos f w3 0 0 0 w3 :=
      ⟨by rw [hfz]; exact hS3, hB3, ⟨xs, hx3, hxs, fun c hc => absurd hc (by omega)⟩, Keep.refl _ _⟩
    have Hf0 := Lib.hid hf0
    have hN3x := hN3.apart hx3 (by decide)
    clear hfb hfs hf0 hS3 hB3 hx3 hN
    go_cut [6, 7, 8, 9, 10, 11, 12, 13, 14] from 78 to 218 (fun _ _ _ _ _ _ _ _ _ wr => ∃ dbv' w0, Keep (fun b => b = E.b ∨ b = E.rb ∨ b = db ∨ b = x ∨ MOwn dbv b) w3 w0 ∧ (∀ b, MOwn dbv' b → w3.heap.size ≤ b ∨ MOwn dbv b) ∧ DbIn E db mb dd vpm dbv' wr ∧
      Mini E 206 2 (fun v => .int .i64 v) db mb m dd p x vpm ⟨nv, data, tl, used, .pointer (some ⟨E.b, 0, none⟩), bs, cb, mpb, vpm, vpm, md, k, .pointer (some ⟨mb, 0, none⟩), bwv, tv, lv, .slice (some ⟨x, 0, none⟩) 0 vpm, dbv'⟩ mc (pos + vpm * bwv / 8) f w0 vpm vpm vpm wr)
    case first =>
      by_cases h0 : bwv = 0
      · subst h0
        obtain ⟨i2, hi2, hi2z⟩ := Option.map_eq_some_iff.1 info2
        have hi2s : i2.size = 1 := by simp only [Prod.mk.injEq] at hi2z; exact hi2z.2.1
        have hzb : (((((0 : Nat) : Int)) == 0) = true) := rfl
        go_wp2_with fail
        go_loopw [6] (fun i wr => ∃ j : Nat, j ≤ vpm ∧ i = .int .i64 j ∧ Mini E 206 2 (fun v => .int .i64 v) db mb m dd p x vpm ⟨nv, data, tl, used, .pointer (some ⟨E.b, 0, none⟩), bs, cb, mpb, vpm, vpm, md, k, .pointer (some ⟨mb, 0, none⟩), (0 : Nat), tv, lv, .slice (some ⟨x, 0, none⟩) 0 vpm, dbv⟩ mc pos f w3 j j j wr) (fun i _ => vpm - (intOf i).toNat)
        case atStart => exact ⟨0, Nat.zero_le _, rfl, hM0⟩
        case round =>
          obtain ⟨j, hj, rfl, hMr⟩ := hrel
          clear hM0
          have hc := blk_cell hMr.sd.dec
          have hf := blk_frozen hMr.sd.dec
          simp only [DV.cells] at hc
          by_cases h : j < vpm
          · have hlv1 : IntKind.i64.wrap (f j + md) = f (j + 1) := by
              rw [Hfs.out j]
              simp only [Nat.mul_zero, Nat.add_zero]
              rw [show bitsAt E.D (8 * pos) 0 = 0 by unfold bitsAt; simp [Nat.mod_one]]
              simp only [IntKind.wrap_i64]
              omega
            go_wp2_with fail
            refine wp_region_mid 11 (by kernel_rfl) (by kernel_rfl) rfl ?_
            simp only [List.take_succ_cons, List.take_zero, List.drop_succ_cons, List.drop_zero]
            repeat (go_big_quiet_step (fail))
            refine wpQuiet_nil ?_
            rintro _ ⟨nq, rfl⟩
            go_wp2_with fail
            refine wpQuiet_nil ?_
            rintro _ ⟨nq2, rfl⟩
            have hM1 := ((hMr.drewN nq).lv hA hfar (j + 1) _ rfl).drewN nq2
            clear hc hf hMr hlv1
            generalize ((wr.drewN nq).setCell ⟨db, 16, none⟩ (.int .i64 (f (j + 1)))).drewN nq2 = w4 at *
            have hc := blk_cell hM1.sd.dec
            have hf := blk_frozen hM1.sd.dec
            simp only [DV.cells] at hc
            have hc16 : w4.cell? ⟨db, 16, none⟩ = some (.int .i64 (f (j + 1))) := hc 16
            have hc17 : w4.cell? ⟨db, 17, none⟩ = some (.slice (some ⟨x, 0, none⟩) j vpm) := hc 17
            clear hc hf
            go_wp2_with fail
            refine wp_region_takes (by kernel_rfl) ?_
            have hc16 : w4.drew.cell? ⟨db, 16, none⟩ = some (.int .i64 (f (j + 1))) := hc16
            have hc17 : w4.drew.cell? ⟨db, 17, none⟩ = some (.slice (some ⟨x, 0, none⟩) j vpm) := hc17
            have hM4 := hM1.drew
            clear hM1
            generalize w4.drew = w5 at *
            refine wpAny_pure 0 (by kernel_rfl) rfl rfl (fun _ _ _ h => h) (fun w' => BigFrame.run_move _ rfl w') ?_
            go_simp
            refine wpAny_pure 1 (by kernel_rfl) rfl rfl (fun _ _ _ h => h) (fun w' => BigFrame.run_move _ rfl w') ?_
            go_simp
            refine wpAny_pure 2 (v := .pointer (some ⟨db, 0, none⟩)) (by kernel_rfl) rfl rfl (fun _ _ _ h => h) (fun w' => by go_simp) ?_
            go_simp
            refine wpAny_pure 3 (v := .pointer (some ⟨db, 17, none⟩)) (by kernel_rfl) rfl rfl (fun _ _ _ h => h) (fun w' => by go_simp) ?_
            go_simp
            refine wpAny_pure 5 (by kernel_rfl) rfl rfl (fun _ _ _ h => h) (fun w' => BigFrame.run_move _ rfl w') ?_
            go_simp
            refine wpAny_pure 6 (v := .pointer (some ⟨db, 0, none⟩)) (by kernel_rfl) rfl rfl (fun _ _ _ h => h) (fun w' => by go_simp) ?_
            go_simp
            refine wpAny_pure 7 (v := .pointer (some ⟨db, 16, none⟩)) (by kernel_rfl) rfl rfl (fun _ _ _ h => h) (fun w' => by go_simp) ?_
            go_simp
            have hM5 := hM4.alloc (.cells #[.int .i64 (f (j + 1))] 2)
            obtain ⟨xcs, hxb, hxz, hxv⟩ := hM5.row
            have hc17a : (w5.alloc (.cells #[.int .i64 (f (j + 1))] 2)).cell? ⟨db, 17, none⟩ = some (.slice (some ⟨x, 0, none⟩) j vpm) := by rw [blk_cell hM5.sd.dec]; rfl
            have hxn : (w5.alloc (.cells #[.int .i64 (f (j + 1))] 2)).cell? ⟨w5.heap.size, 0, none⟩ = some (.int .i64 (f (j + 1))) := by rw [blk_cell (blk_new w5 _)]; rfl
            have hxs6 : ((w5.alloc (.cells #[.int .i64 (f (j + 1))] 2)).cell? ⟨x, j, none⟩).isSome = true := by rw [blk_cell hxb]; simp; omega
            have hxf6 := blk_frozen hxb j
            have hM6 := hM5.put hfar h _ rfl
            have hc6 := blk_cell hM6.sd.dec
            have hf6 := blk_frozen hM6.sd.dec
            simp only [DV.cells] at hc6
            have HM7 := Lib.hid (hM6.mv hA hfar (j + 1))
            clear hM4 hM5 hM6 hxb hxz hxv
            refine wpAny_two 4 8 (by kernel_rfl) rfl rfl ?_ ?_
            · go_wp2_with fail
              refine wpAny_only 8 (by kernel_rfl) rfl ?_
              go_wp2_with fail
              refine wpAny_only 9 (by kernel_rfl) rfl ?_
              go_wp2_with fail
              refine wpAny_only 10 (by kernel_rfl) rfl ?_
              refine wpList_append_room (by rfl) _ _ _ (by rfl) 2 (by kernel_rfl) (by kernel_rfl) x j vpm (by rfl) w5.heap.size 1 _ (by rfl) hxn rfl h hxs6 hxf6 ?_
              go_wp2_with fail
              refine wpAny_only 11 (by kernel_rfl) rfl ?_
              go_wp2_with fail
              refine wpAny_only 12 (by kernel_rfl) rfl ?_
              go_wp2_with fail
              refine wpAny_only 13 (by kernel_rfl) rfl ?_
              go_wp2_with fail
              refine wpAny_stop (by kernel_rfl) ?_
              go_wp2_with fail
              go_roundw
              case rel => ((repeat apply Exists.intro); exact ⟨⟨j + 1, h, by go_num, HM7.out⟩, rfl⟩)
              case measure => simp [intOf]; omega
            · go_wp2_with fail
              refine wpAny_two 4 9 (by kernel_rfl) rfl rfl ?_ ?_
              · go_wp2_with fail
                refine wpAny_only 9 (by kernel_rfl) rfl ?_
                go_wp2_with fail
                refine wpAny_only 10 (by kernel_rfl) rfl ?_
                refine wpList_append_room (by rfl) _ _ _ (by rfl) 2 (by kernel_rfl) (by kernel_rfl) x j vpm (by rfl) w5.heap.size 1 _ (by rfl) hxn rfl h hxs6 hxf6 ?_
                go_wp2_with fail
                refine wpAny_only 11 (by kernel_rfl) rfl ?_
                go_wp2_with fail
                refine wpAny_only 12 (by kernel_rfl) rfl ?_
                go_wp2_with fail
                refine wpAny_only 13 (by kernel_rfl) rfl ?_
                go_wp2_with fail
                refine wpAny_stop (by kernel_rfl) ?_
                go_wp2_with fail
                go_roundw
                case rel => ((repeat apply Exists.intro); exact ⟨⟨j + 1, h, by go_num, HM7.out⟩, rfl⟩)
                case measure => simp [intOf]; omega
              · go_wp2_with fail
                refine wpAny_only 4 (by kernel_rfl) rfl ?_
                go_wp2_with fail
                refine wpAny_only 10 (by kernel_rfl) rfl ?_
                refine wpList_append_room (by rfl) _ _ _ (by rfl) 2 (by kernel_rfl) (by kernel_rfl) x j vpm (by rfl) w5.heap.size 1 _ (by rfl) hxn rfl h hxs6 hxf6 ?_
                go_wp2_with fail
                refine wpAny_only 11 (by kernel_rfl) rfl ?_
                go_wp2_with fail
                refine wpAny_only 12 (by kernel_rfl) rfl ?_
                go_wp2_with fail
                refine wpAny_only 13 (by kernel_rfl) rfl ?_
                go_wp2_with fail
                refine wpAny_stop (by kernel_rfl) ?_
                go_wp2_with fail
                go_roundw
                case rel => ((repeat apply Exists.intro); exact ⟨⟨j + 1, h, by go_num, HM7.out⟩, rfl⟩)
                case measure => simp [intOf]; omega
          · obtain rfl : j = vpm := by omega
            go_wp2_with fail
            go_meet
            exact ⟨dbv, w3, Keep.refl _ _, fun b hb => .inr hb, hN3.keep hMr.keep hN3x, by simpa using hMr⟩
      · have hzb : (((bwv : Nat) : Int) == 0) = false := by simp; omega
        obtain ⟨da, dl, dc, rfl⟩ : ∃ a l c, dbv = .slice a l c := by rcases hN3 with rfl | ⟨x, cs, rfl, _⟩ <;> exact ⟨_, _, _, rfl⟩
        have hvp0 : (0 : Int) < (vpm : Int) := by omega
        have hmin : min (vpm : Int) 1024 = (vpm : Int) := by omega
        have hc := blk_cell hM0.sd.dec
        have hf := blk_frozen hM0.sd.dec
        simp only [DV.cells] at hc
        have hmk := make_full (t := 49) (by kernel_rfl) info45 rfl (by omega) vpm hv1.2.1
        have hMA := (hM0.alloc (.cells (madeCells #[.int .u64 0] vpm) 45))
        have hcA := blk_cell hMA.sd.dec
        have hfA := blk_frozen hMA.sd.dec
        simp only [DV.cells] at hcA
        go_upto_if 116 with fail
        go_cut [14] from 117 to 121 (fun _ wr => ∃ ob ocs dl2, Mini E 206 2 (fun v => .int .i64 v) db mb m dd p x vpm ⟨nv, data, tl, used, .pointer (some ⟨E.b, 0, none⟩), bs, cb, mpb, vpm, vpm, md, k, .pointer (some ⟨mb, 0, none⟩), bwv, tv, lv, .slice (some ⟨x, 0, none⟩) 0 vpm, .slice (some ⟨ob, 0, none⟩) dl2 vpm⟩ mc pos f w3 0 0 0 wr ∧
          wr.heap[ob]? = some (.cells ocs 45 (0, 0)) ∧ ocs.size = vpm ∧ FarOf E db mb dd ob ∧ ob ≠ x ∧ (w3.heap.size ≤ ob ∨ MOwn (.slice da dl dc) ob))
        case first =>
          rcases hN3 with h | ⟨ob, ocs, h, hob, hos, hfo⟩ <;> cases h
          · go_wp2_with fail
            go_meet
            have hfr := hM0.sd.fresh hD0 hM0.wb
            obtain ⟨_, hxb, _, _⟩ := hM0.row
            have hxl := blk_lt hxb
            have hks : Keep (fun b => b = db) (w3.alloc (.cells (madeCells #[.int .u64 0] vpm) 45)) ((w3.alloc (.cells (madeCells #[.int .u64 0] vpm) 45)).setCell ⟨db, 18, none⟩ (.slice (some ⟨w3.heap.size, 0, none⟩) vpm vpm)) := (Keep.refl (fun b => b = db) _).setCell (p := ⟨db, 18, none⟩) (.inl rfl) _
            exact ⟨w3.heap.size, _, vpm, hMA.dbv hA hfar _, hks.blk (blk_new w3 _) (fun e => hfr.2.2.2.2.1 e), size_madeCells _ _, hfr, by omega, .inl (Nat.le_refl _)⟩
          · go_wp2_with fail
            go_meet
            exact ⟨ob, ocs, vpm, hM0, hob, hos, hfo, fun e => hN3x ob ⟨_, _, rfl⟩ (.inr e), .inr ⟨_, _, rfl⟩⟩
        case rest =>
          obtain ⟨ob, ocs, dl', hM1, hob, hos, hfo, hox, hown2⟩ := hcut
          clear hc hf hcA hfA hM0 hMA hmk
          have hc := blk_cell hM1.sd.dec
          have hf := blk_frozen hM1.sd.dec
          simp only [DV.cells] at hc
          have hvpn : (0 : Int) ≤ (vpm : Int) := by omega
          have hM2 := hM1.dbv hA hfar (.slice (some ⟨ob, 0, none⟩) vpm vpm)
          have hks : Keep (fun b => b = db) wc (wc.setCell ⟨db, 18, none⟩ (.slice (some ⟨ob, 0, none⟩) vpm vpm)) := (Keep.refl (fun b => b = db) _).setCell (p := ⟨db, 18, none⟩) (.inl rfl) _
          have hob2 := hks.blk hob hfo.2.2.2.2.1
          have hc2 := blk_cell hM2.sd.dec
          have hf2 := blk_frozen hM2.sd.dec
          simp only [DV.cells] at hc2
          clear hks hob
          go_wp2_with fail
          have hK6 := hM2.keep
          clear hM2 hc hf hc2 hf2
          have hM2 : Mini E 206 2 (fun v => .int .i64 v) db mb m dd p x vpm ⟨nv, data, tl, used, .pointer (some ⟨E.b, 0, none⟩), bs, cb, mpb, vpm, vpm, md, k, .pointer (some ⟨mb, 0, none⟩), bwv, tv, lv, .slice (some ⟨x, 0, none⟩) 0 vpm, .slice (some ⟨ob, 0, none⟩) vpm vpm⟩ mc pos f w3 0 0 0 _ := hM1.dbv hA hfar (.slice (some ⟨ob, 0, none⟩) vpm vpm)
          clear hM1
          generalize wc.setCell ⟨db, 18, none⟩ (.slice (some ⟨ob, 0, none⟩) vpm vpm) = w6 at *
          go_loopw [9, 10, 11, 12, 14] (fun v9 _ _ _ _ wr => (v9 = .int .i64 vpm ∧ wr = w6) ∨ (v9 = .int .i64 0 ∧ ∃ w0, Keep (fun b => b = E.b ∨ b = E.rb ∨ b = db ∨ b = x ∨ MOwn (.slice da dl dc) b) w3 w0 ∧ DbIn E db mb dd vpm (.slice (some ⟨ob, 0, none⟩) vpm vpm) wr ∧
            Mini E 206 2 (fun v => .int .i64 v) db mb m dd p x vpm ⟨nv, data, tl, used, .pointer (some ⟨E.b, 0, none⟩), bs, cb, mpb, vpm, vpm, md, k, .pointer (some ⟨mb, 0, none⟩), bwv, tv, lv, .slice (some ⟨x, 0, none⟩) 0 vpm, .slice (some ⟨ob, 0, none⟩) vpm vpm⟩ mc (pos + vpm * bwv / 8) f w0 vpm vpm vpm wr)) (fun v9 _ _ _ _ _ => (intOf v9).toNat)
          case atStart => exact .inl ⟨rfl, rfl⟩
          case round =>
            rcases hrel with ⟨rfl, rfl⟩ | ⟨rfl, w0, hK0, hN5, hM5⟩
            · have hc := blk_cell hM2.sd.dec
              have hf := blk_frozen hM2.sd.dec
              simp only [DV.cells] at hc
              have hmin2 : min (vpm : Int) (vpm : Int) = (vpm : Int) := by omega
              have HBt := Lib.hid (fun m => (hM2.drewN m).sd.batch hW hA vpm bwv ob vpm ocs ⟨by omega, hv1.2.2, hv1.2.1⟩ ⟨by omega, hw64⟩ (blk_drewN hob2 m) (by omega) hfo.1 hfo.2.1 hfo.2.2.1 hfo.2.2.2.1 hfo.2.2.2.2.1 hfo.2.2.2.2.2.1 hlen)
              go_wp2_with fail
              refine wp_region_mid 11 (by kernel_rfl) (by kernel_rfl) rfl ?_
              simp only [List.take_succ_cons, List.take_zero, List.drop_succ_cons, List.drop_zero]
              repeat (go_big_quiet_step (fail))
              refine wpQuiet_nil ?_
              rintro _ ⟨nq, rfl⟩
              go_wp2_with fail
              refine (HBt.out nq).mono ?_
              rintro e w7 ⟨rfl, hk7, hS7, dcs, hd7, hdz, hdv⟩
              clear hc hf HBt
              go_wp2_with fail
              repeat (go_big_quiet_step (fail))
              refine wpQuiet_nil ?_
              rintro _ ⟨nq2, rfl⟩
              have hd8 := blk_drewN hd7 nq2
              have hK8 : Keep (fun b => b = E.b ∨ b = E.rb ∨ b = ob) wr (w7.drewN nq2) := (((Keep.refl _ wr).drewN nq).trans hk7).drewN nq2
              obtain ⟨cs6, r61, r62, r63⟩ := hM2.row
              have hB8 := hM2.wb.keep hK8 (by
                have := hM2.wb.2.2
                rintro (e | e | e)
                · exact hne.1 e
                · exact hne.2.1 e
                · exact hfo.2.2.2.2.2.2 e.symm)
              have hM8 : Mini E 206 2 (fun v => .int .i64 v) db mb m dd p x vpm ⟨nv, data, tl, used, .pointer (some ⟨E.b, 0, none⟩), bs, cb, mpb, vpm, vpm, md, k, .pointer (some ⟨mb, 0, none⟩), bwv, tv, lv, .slice (some ⟨x, 0, none⟩) 0 vpm, .slice (some ⟨ob, 0, none⟩) vpm vpm⟩ mc (pos + vpm * bwv / 8) f (w7.drewN nq2) 0 0 0 (w7.drewN nq2) :=
                ⟨hS7.drewN nq2, hB8, ⟨cs6, hK8.blk r61 (by
                  rintro (e | e | e)
                  · exact hfar.1 e
                  · exact hfar.2.1 e
                  · exact hox e.symm), r62, fun c hc => absurd hc (by omega)⟩, Keep.refl _ _⟩
              have hKw : Keep (fun b => b = E.b ∨ b = E.rb ∨ b = db ∨ b = x ∨ MOwn (.slice da dl dc) b) w3 (w7.drewN nq2) := (hK6.mono (fun b hb => by rcases hb with h | h; exact .inr (.inr (.inl h)); exact .inr (.inr (.inr (.inl h))))).step hK8 (fun b hb => by
                rcases hb with h | h | h
                · exact .inl (.inl h)
                · exact .inl (.inr (.inl h))
                · rw [h]
                  rcases hown2 with h2 | h2
                  · exact .inr h2
                  · exact .inl (.inr (.inr (.inr (.inr h2)))))
              clear hM2 hob2 hd7 hS7 hk7 hK8 hB8 r61 r63 hK6
              generalize w7.drewN nq2 = w8 at *
              have hc := blk_cell hM8.sd.dec
              have hf := blk_frozen hM8.sd.dec
              simp only [DV.cells] at hc
              go_wp2_with fail
              go_loopw [14, 187] (fun _ v187 wr => ∃ j : Nat, j ≤ vpm ∧ v187 = .int .i64 j ∧ Mini E 206 2 (fun v => .int .i64 v) db mb m dd p x vpm ⟨nv, data, tl, used, .pointer (some ⟨E.b, 0, none⟩), bs, cb, mpb, vpm, vpm, md, k, .pointer (some ⟨mb, 0, none⟩), bwv, tv, lv, .slice (some ⟨x, 0, none⟩) 0 vpm, .slice (some ⟨ob, 0, none⟩) vpm vpm⟩ mc (pos + vpm * bwv / 8) f w8 j j j wr) (fun _ v187 _ => vpm - (intOf v187).toNat)
              case atStart => exact ⟨0, Nat.zero_le _, rfl, hM8⟩
              case round =>
                obtain ⟨j, hj, rfl, hMr⟩ := hrel
                clear hM8 hc hf
                have hc := blk_cell hMr.sd.dec
                have hf := blk_frozen hMr.sd.dec
                simp only [DV.cells] at hc
                by_cases h : j < vpm
                · have hob4 := hMr.keep.blk hd8 (by rintro (e | e); exact hfo.2.2.2.2.1 e; exact hox e)
                  have hbj : wr.cell? ⟨ob, j, none⟩ = some (.int .u64 (bitsAt E.D (8 * pos + j * bwv) bwv : Nat)) := by rw [blk_cell hob4]; exact hdv j h
                  have Hq := Lib.hid (show wrap64 (f j + wrap64 (wrap64 (bitsAt E.D (8 * pos + j * bwv) bwv : Nat) + md)) = f (j + 1) from by rw [Hfs.out j]; simp only [IntKind.wrap_i64, wrap64])
                  have hj0 : (0 : Int) ≤ (j : Int) := by omega
                  have hj1 : (j : Int) < (vpm : Int) := by omega
                  generalize hbb : ((bitsAt E.D (8 * pos + j * bwv) bwv : Nat) : Int) = bb at *
                  clear hbb hob4
                  go_upto_region 38 with fail
                  generalize hq : wrap64 (f j + wrap64 (wrap64 bb + md)) = q at *
                  have hqf : q = f (j + 1) := Hq.out
                  subst hqf
                  clear Hq hq
                  have hM1 := hMr.lv hA hfar (j + 1) _ rfl
                  clear hc hf hMr hbj
                  generalize wr.setCell ⟨db, 16, none⟩ (.int .i64 (f (j + 1))) = w4 at *
                  have hc := blk_cell hM1.sd.dec
                  have hf := blk_frozen hM1.sd.dec
                  simp only [DV.cells] at hc
                  have hc16 : w4.cell? ⟨db, 16, none⟩ = some (.int .i64 (f (j + 1))) := hc 16
                  have hc17 : w4.cell? ⟨db, 17, none⟩ = some (.slice (some ⟨x, 0, none⟩) j vpm) := hc 17
                  clear hc hf
                  go_wp2_with fail
                  refine wp_region_takes (by kernel_rfl) ?_
                  have hc16 : w4.drew.cell? ⟨db, 16, none⟩ = some (.int .i64 (f (j + 1))) := hc16
                  have hc17 : w4.drew.cell? ⟨db, 17, none⟩ = some (.slice (some ⟨x, 0, none⟩) j vpm) := hc17
                  have hM4 := hM1.drew
                  clear hM1
                  generalize w4.drew = w5 at *
                  refine wpAny_pure 0 (by kernel_rfl) rfl rfl (fun _ _ _ h => h) (fun w' => BigFrame.run_move _ rfl w') ?_
                  go_simp
                  refine wpAny_pure 1 (by kernel_rfl) rfl rfl (fun _ _ _ h => h) (fun w' => BigFrame.run_move _ rfl w') ?_
                  go_simp
                  refine wpAny_pure 2 (v := .pointer (some ⟨db, 0, none⟩)) (by kernel_rfl) rfl rfl (fun _ _ _ h => h) (fun w' => by go_simp) ?_
                  go_simp
                  refine wpAny_pure 3 (v := .pointer (some ⟨db, 17, none⟩)) (by kernel_rfl) rfl rfl (fun _ _ _ h => h) (fun w' => by go_simp) ?_
                  go_simp
                  refine wpAny_pure 5 (by kernel_rfl) rfl rfl (fun _ _ _ h => h) (fun w' => BigFrame.run_move _ rfl w') ?_
                  go_simp
                  refine wpAny_pure 6 (v := .pointer (some ⟨db, 0, none⟩)) (by kernel_rfl) rfl rfl (fun _ _ _ h => h) (fun w' => by go_simp) ?_
                  go_simp
                  refine wpAny_pure 7 (v := .pointer (some ⟨db, 16, none⟩)) (by kernel_rfl) rfl rfl (fun _ _ _ h => h) (fun w' => by go_simp) ?_
                  go_simp
                  have hM5 := hM4.alloc (.cells #[.int .i64 (f (j + 1))] 2)
                  obtain ⟨xcs, hxb, hxz, hxv⟩ := hM5.row
                  have hc17a : (w5.alloc (.cells #[.int .i64 (f (j + 1))] 2)).cell? ⟨db, 17, none⟩ = some (.slice (some ⟨x, 0, none⟩) j vpm) := by rw [blk_cell hM5.sd.dec]; rfl
                  have hxn : (w5.alloc (.cells #[.int .i64 (f (j + 1))] 2)).cell? ⟨w5.heap.size, 0, none⟩ = some (.int .i64 (f (j + 1))) := by rw [blk_cell (blk_new w5 _)]; rfl
                  have hxs6 : ((w5.alloc (.cells #[.int .i64 (f (j + 1))] 2)).cell? ⟨x, j, none⟩).isSome = true := by rw [blk_cell hxb]; simp; omega
                  have hxf6 := blk_frozen hxb j
                  have hM6 := hM5.put hfar h _ rfl
                  have hc6 := blk_cell hM6.sd.dec
                  have hf6 := blk_frozen hM6.sd.dec
                  simp only [DV.cells] at hc6
                  have HM7 := Lib.hid (hM6.mv hA hfar (j + 1))
                  clear hM4 hM5 hM6 hxb hxz hxv
                  refine wpAny_two 4 8 (by kernel_rfl) rfl rfl ?_ ?_
                  · go_wp2_with fail
                    refine wpAny_only 8 (by kernel_rfl) rfl ?_
                    go_wp2_with fail
                    refine wpAny_only 9 (by kernel_rfl) rfl ?_
                    go_wp2_with fail
                    refine wpAny_only 10 (by kernel_rfl) rfl ?_
                    refine wpList_append_room (by rfl) _ _ _ (by rfl) 2 (by kernel_rfl) (by kernel_rfl) x j vpm (by rfl) w5.heap.size 1 _ (by rfl) hxn rfl h hxs6 hxf6 ?_
                    go_wp2_with fail
                    refine wpAny_only 11 (by kernel_rfl) rfl ?_
                    go_wp2_with fail
                    refine wpAny_only 12 (by kernel_rfl) rfl ?_
                    go_wp2_with fail
                    refine wpAny_only 13 (by kernel_rfl) rfl ?_
                    go_wp2_with fail
                    refine wpAny_stop (by kernel_rfl) ?_
                    go_wp2_with fail
                    go_roundw
                    case rel => exact ⟨j + 1, h, by go_num, HM7.out⟩
                    case measure => simp [intOf]; omega
                  · go_wp2_with fail
                    refine wpAny_two 4 9 (by kernel_rfl) rfl rfl ?_ ?_
                    · go_wp2_with fail
                      refine wpAny_only 9 (by kernel_rfl) rfl ?_
                      go_wp2_with fail
                      refine wpAny_only 10 (by kernel_rfl) rfl ?_
                      refine wpList_append_room (by rfl) _ _ _ (by rfl) 2 (by kernel_rfl) (by kernel_rfl) x j vpm (by rfl) w5.heap.size 1 _ (by rfl) hxn rfl h hxs6 hxf6 ?_
                      go_wp2_with fail
                      refine wpAny_only 11 (by kernel_rfl) rfl ?_
                      go_wp2_with fail
                      refine wpAny_only 12 (by kernel_rfl) rfl ?_
                      go_wp2_with fail
                      refine wpAny_only 13 (by kernel_rfl) rfl ?_
                      go_wp2_with fail
                      refine wpAny_stop (by kernel_rfl) ?_
                      go_wp2_with fail
                      go_roundw
                      case rel => exact ⟨j + 1, h, by go_num, HM7.out⟩
                      case measure => simp [intOf]; omega
                    · go_wp2_with fail
                      refine wpAny_only 4 (by kernel_rfl) rfl ?_
                      go_wp2_with fail
                      refine wpAny_only 10 (by kernel_rfl) rfl ?_
                      refine wpList_append_room (by rfl) _ _ _ (by rfl) 2 (by kernel_rfl) (by kernel_rfl) x j vpm (by rfl) w5.heap.size 1 _ (by rfl) hxn rfl h hxs6 hxf6 ?_
                      go_wp2_with fail
                      refine wpAny_only 11 (by kernel_rfl) rfl ?_
                      go_wp2_with fail
                      refine wpAny_only 12 (by kernel_rfl) rfl ?_
                      go_wp2_with fail
                      refine wpAny_only 13 (by kernel_rfl) rfl ?_
                      go_wp2_with fail
                      refine wpAny_stop (by kernel_rfl) ?_
                      go_wp2_with fail
                      go_roundw
                      case rel => exact ⟨j + 1, h, by go_num, HM7.out⟩
                      case measure => simp [intOf]; omega
                · obtain rfl : j = vpm := by omega
                  go_wp2_with fail
                  go_roundw
                  case rel =>
                    exact .inr ⟨rfl, _, hKw, .inr ⟨ob, dcs, rfl, hMr.keep.blk hd8 (by rintro (e | e); exact hfo.2.2.2.2.1 e; exact hox e), hdz.trans hos, hfo⟩, hMr⟩
                  case measure => simp [intOf]; omega
            · go_wp2_with fail
              go_meet
              exact ⟨_, w0, hK0, fun b ⟨n, c, hb⟩ => (by cases hb; exact hown2), hN5, hM5⟩
    case rest =>
      obtain ⟨dbv', w0, hK0, hdo, hN4, hM4⟩ := hcut
      have hc := blk_cell hM4.sd.dec
      have hf := blk_frozen hM4.sd.dec
      simp only [DV.cells] at hc
      go_wp2_with fail
      go_ret
      have hks : Keep (fun b => b = db) wc (wc.setCell ⟨db, 12, none⟩ (.int .u64 (k + 1 : Nat))) := (Keep.refl (fun b => b = db) wc).setCell (p := ⟨db, 12, none⟩) (.inl rfl) _
      have hf0 := Hf0.out
      subst hf0
      obtain ⟨rcs, r1, r2, r3⟩ := hM4.row
      have hxo : w.heap.size ≤ x ∨ MOwn (.slice ma ml mcap) x := hown.imp (fun h => h) (fun h => ⟨_, _, h⟩)
      have hs3 := hK3.size
      refine ⟨rfl, x, dbv', ((((hK3.mono (fun b hb => .inr (.inr (.inl hb)))).step hK0 ?_).step hM4.keep ?_).step hks (fun b hb => .inl (.inr (.inr (.inl hb))))), hM4.sd.set hA 12 _ rfl, hM4.wb.keep hks hM4.wb.2.2.2.2.2.2.1, ⟨rcs, hks.blk r1 hfar.2.2.2.2.1, r2, r3⟩, hfar, hN4.keep hks ?_, hxo, fun b hb => (hdo b hb).imp (fun h => Nat.le_trans hs3 h) (fun h => h)⟩
      · rintro b (h | h | h | h | h)
        · exact .inl (.inl h)
        · exact .inl (.inr (.inl h))
        · exact .inl (.inr (.inr (.inl h)))
        · rw [h]
          rcases hxo with h' | h'
          · exact .inr h'
          · exact .inl (.inr (.inr (.inr (.inl h'))))
        · exact .inl (.inr (.inr (.inr (.inr h))))
      · rintro b (h | h)
        · exact .inl (.inr (.inr (.inl h)))
        · rw [h]
          rcases hxo with h' | h'
          · exact .inr h'
          · exact .inl (.inr (.inr (.inr (.inl h'))))
      · intro b hb e
        exact hN4.apart r1 (by decide) b hb (.inl e)
end Go.Proofs.YtdamippibpbjhaaGreatDoor
