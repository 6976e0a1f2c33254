import Derived.Test.YtdamippibpbjhaaGreatDoorYa16
/-! A block begins: numbers of 64 bits. -/
namespace Go.Proofs.YtdamippibpbjhaaGreatDoor
open Go.RowKit

/-- i widths are read. -/
def IbRel (E : Env) (T : TypeId) (db mb m dd p : Nat) (d : DV) (mc : Array Value) (w : World) (i e : Value) (wr : World) : Prop :=
  ∃ k : Nat, k ≤ m ∧ i = .int .u64 k ∧ e = .nilIface ∧ Keep (fun k => k = E.b ∨ k = dd) w wr ∧ SD E T db mb d mc true (p + k) wr ∧ WBs E db mb m mc dd p k wr

set_option maxRecDepth 100000 in
set_option maxHeartbeats 8000000 in
theorem initBlock64 (E : Env) (db mb m pos n : Nat) (v : Int) (d : DV) (mc : Array Value) (w : World) (hW : E.Wf) (hA : Apart E db mb) (hS : SD E 206 db mb d mc true pos w) (hB : WB E db mb m mc w)
    (hbd : d.bd = .pointer (some ⟨E.b, 0, none⟩)) (hmb : d.mb = .pointer (some ⟨mb, 0, none⟩)) (hm : d.mpb = m) (h0 : 1 ≤ m) (h1 : m ≤ 32) (hbs : 0 ≤ d.bs ∧ d.bs ≤ 1024) (hl : Leb E.D pos n v) (hlt : pos + n + 1 + m ≤ E.D.length) :
    Calls Tryz.prog 110 #[.pointer (some ⟨db, 0, none⟩)] w fun e w' => e = .returned .nilIface ∧ Keep (fun k => k = db ∨ k = E.b ∨ k = mb ∨ WOwn mc k) w w' ∧
      ∃ mc' dd, SD E 206 db mb { d with md := unzz v, mi := 0, bw := E.D.getD (pos + n + 1) 0, cb := d.bs } mc' true (pos + n + 1 + m) w' ∧ WBs E db mb m mc' dd (pos + n + 1) m w' ∧ (w.heap.size ≤ dd ∨ WOwn mc dd) := by
  obtain ⟨nv, data, tl, used, bd, bs, cb, mpb, vpm, cmv, md, mi, mbv, bw, tv, lv, mv, dbv⟩ := d
  simp only at hbd hmb hm hbs
  subst hbd hmb hm
  have hD0 : 0 < E.D.length := by omega
  have hc := blk_cell hS.dec
  have hf := blk_frozen hS.dec
  simp only [DV.cells] at hc
  go_enter Tryz.func110, Tryz.ntmps110
  go_wp2_with fail
  refine (SD.zzvlq hW hA hS hl).mono ?_
  rintro e w1 ⟨rfl, hk1, hS1⟩
  clear hc hf
  have hc := blk_cell hS1.dec
  have hf := blk_frozen hS1.dec
  simp only [DV.cells] at hc
  generalize hlv : unzz v = md' at *
  have Hlv := Lib.hid hlv
  clear hlv
  go_wp2_with fail
  have hS2 := SD.set hA hS1 11 (.int .i64 md') (d' := ⟨nv, data, tl, used, .pointer (some ⟨E.b, 0, none⟩), bs, cb, m, vpm, cmv, md', mi, .pointer (some ⟨mb, 0, none⟩), bw, tv, lv, mv, dbv⟩) rfl
  have hK2 : Keep (fun k => k = E.b ∨ k = db) w (w1.setCell ⟨db, 11, none⟩ (.int .i64 md')) := (hk1.mono (fun _ h => .inl h)).setCell (p := ⟨db, 11, none⟩) (.inl (.inr rfl)) _
  have hB2 := hB.keep hK2
  clear hc hf hS1 hk1 hS hB
  generalize w1.setCell ⟨db, 11, none⟩ (.int .i64 md') = w2 at *
  refine (isI32_64 w2).mono ?_
  rintro e w2' ⟨rfl, hw⟩
  have hw' := hw.symm
  clear hw
  subst hw'
  have hc := blk_cell hS2.dec
  simp only [DV.cells] at hc
  have HR := Lib.hid (fun n => SD.resize hA (hS2.drewN n) m h0 h1 hD0 (hB2.keep ((Keep.refl _ w2).drewN n)))
  have hm32 : (m : Int) ≤ 32 := by omega
  go_wp2_with fail
  refine wp_region_mid 9 (by kernel_rfl) (by kernel_rfl) rfl ?_
  simp only [List.take_succ_cons, List.take_zero, List.drop_succ_cons, List.drop_zero]
  repeat (go_big_quiet_step (fail))
  refine wpQuiet_nil ?_
  rintro _ ⟨nq, rfl⟩
  go_wp2_with fail
  refine (HR.out nq).mono ?_
  rintro e w3 ⟨rfl, hk3, mc', dd, hS3, hW3, hdd⟩
  go_wp2_with fail
  refine wpQuiet_nil ?_
  rintro _ ⟨nq2, rfl⟩
  go_wp2_with fail
  have hS4 := hS3.drewN nq2
  have hW4 := (hW3.keep ((Keep.refl (fun _ => False) w3).drewN nq2) (fun h => h)).start (pos + n + 1)
  have hK4 : Keep (fun k => k = db ∨ k = E.b ∨ k = mb ∨ WOwn mc k) w (w3.drewN nq2) := (((hK2.mono (by rintro k (h | h); exact .inr (.inl h); exact .inl h)).drewN nq).step hk3 (by rintro k h; exact .inl (.inr (.inr (.inl h))))).drewN nq2
  have hdd' : w.heap.size ≤ dd ∨ WOwn mc dd := hdd.imp (fun h => Nat.le_trans hK2.size h) (fun h => h)
  clear hc HR hS2 hB2 hK2 hk3 hS3 hW3 hdd
  generalize w3.drewN nq2 = w4 at *
  go_loopw [4, 5] (fun e i wr => IbRel E 206 db mb m dd (pos + n + 1) ⟨nv, data, tl, used, .pointer (some ⟨E.b, 0, none⟩), bs, cb, m, vpm, cmv, md', mi, .pointer (some ⟨mb, 0, none⟩), bw, tv, lv, mv, dbv⟩ mc' w4 i e wr) (fun _ i _ => m - (intOf i).toNat)
  case atStart => exact ⟨0, Nat.zero_le _, rfl, rfl, Keep.refl _ _, hS4, hW4⟩
  case round =>
    clear hS4 hW4
    obtain ⟨k, hkm, rfl, rfl, hkr, hSr, hWr⟩ := hrel
    have hc := blk_cell hSr.dec
    simp only [DV.cells] at hc
    obtain ⟨hmc, ⟨cs, hcs, hcz, hin⟩, hne⟩ := hWr
    by_cases h : k < m
    · have HBy := Lib.hid (fun n => bytes_any mb dd m (wr.drewN n) (by omega) (by have := (hSr.drewN n).buf; rwa [hmc] at this))
      have HB := Lib.hid (fun n => SD.byte hW hA (hSr.drewN n) (by omega))
      have hkm' : (k : Int) < (m : Int) := by omega
      go_wp2_with fail
      refine wp_region_takes (by kernel_rfl) ?_
      refine wpAny_pure 5 (by kernel_rfl) rfl rfl (fun _ _ _ h => h) (fun w' => BigFrame.run_move _ rfl w') ?_
      go_simp
      refine wpAny_lex (C := fun w' => ∃ m, w' = wr.drewN m) [0, 1, 2, 3, 4, 6, 7, 8, 9] 10 7 (by kernel_rfl) rfl ⟨1, rfl⟩ ?_
      simp only [List.filterMap_cons, List.filterMap_nil, List.getElem?_cons_succ, List.getElem?_cons_zero]
      change wpQuiet _ _ _ _ (List.cons _ (List.cons _ (List.cons _ (List.cons _ (List.cons _ (List.cons _ (List.cons _ (List.cons _ (List.cons _ List.nil))))))))) _
      repeat (go_big_quiet_step ((go_at_call 131; exact Calls.quiet_of (HBy.out _))))
      refine wpQuiet_nil ?_
      rintro _ ⟨nq, rfl⟩
      refine wpAny_only 10 (by kernel_rfl) rfl ?_
      go_wp2_with fail
      refine (HB.out nq).mono ?_
      rintro e w5 ⟨rfl, hk5, hS5⟩
      have hk6 : Keep (fun k => k = E.b) wr w5 := ((Keep.refl _ wr).drewN nq).trans hk5
      have hcs5 := hk6.blk hcs (by exact hne.1)
      have hcc := blk_cell hcs5
      have hco : w5.cell? ⟨dd, k, none⟩ = some (cs[k]'(by omega)) := by rw [hcc]; simp
      have hfo := blk_frozen hcs5
      clear HBy HB hk5 hc hcc
      go_wp2_with fail
      refine wpAny_pure 11 (by kernel_rfl) rfl rfl (fun _ _ _ h => h) (fun w' => BigFrame.run_move _ rfl w') ?_
      go_simp
      refine wpAny_pure 12 (v := .int .u8 (E.D.getD (pos + n + 1 + k) 0)) (by kernel_rfl) rfl rfl (fun _ _ _ h => h) (fun w' => by go_simp) ?_
      go_simp
      refine wpAny_pure 13 (v := .nilIface) (by kernel_rfl) rfl rfl (fun _ _ _ h => h) (fun w' => by go_simp) ?_
      go_simp
      refine wpAny_pure 14 (v := .pointer (some ⟨dd, k, none⟩)) (by kernel_rfl) rfl rfl (fun _ _ _ h => h) (fun w' => by go_simp) ?_
      go_simp
      refine wpAny_only 15 (by kernel_rfl) rfl ?_
      go_wp2_with fail
      refine wpAny_only 16 (by kernel_rfl) rfl ?_
      go_wp2_with fail
      refine wpAny_stop (by kernel_rfl) ?_
      go_wp2_with fail
      go_roundw
      case rel =>
        have hks : Keep (fun k => k = dd) w5 (w5.setCell ⟨dd, k, none⟩ (.int .u8 (E.D[pos + n + 1 + k]?.getD 0))) := (Keep.refl (fun k => k = dd) w5).setCell (p := ⟨dd, k, none⟩) (.inl rfl) _
        refine ⟨k + 1, h, by go_num, rfl, (hkr.trans (hk6.mono (fun _ h => .inl h))).trans (hks.mono (fun _ h => .inr h)), hS5.far hne hks, hmc, ⟨_, blk_set hcs5 k _, by simpa using hcz, fun j hj => ?_⟩, hne⟩
        by_cases e : j = k
        · subst e
          rw [Array.getElem?_setIfInBounds_self_of_lt (by omega), List.getD_eq_getElem?_getD]
        · rw [Array.getElem?_setIfInBounds_ne (by omega)]
          exact hin j (by omega)
      case measure => simp [intOf]; omega
    · obtain rfl : k = m := by omega
      have hf := blk_frozen hSr.dec
      have hS6 := SD.set hA hSr 12 (.int .u64 0) (d' := ⟨nv, data, tl, used, .pointer (some ⟨E.b, 0, none⟩), bs, cb, k, vpm, cmv, md', 0, .pointer (some ⟨mb, 0, none⟩), bw, tv, lv, mv, dbv⟩) rfl
      have hks : Keep (fun k => k = db) wr (wr.setCell ⟨db, 12, none⟩ (.int .u64 0)) := (Keep.refl (fun k => k = db) wr).setCell (p := ⟨db, 12, none⟩) (.inl rfl) _
      have hcs6 := hks.blk hcs hne.2.2.2.2.1
      go_wp2_with fail
      clear hc hf
      generalize wr.setCell ⟨db, 12, none⟩ (.int .u64 0) = w6 at *
      refine (bytes_any mb dd k w6 (by omega) (by have := hS6.buf; rwa [hmc] at this)).mono ?_
      rintro e w7 ⟨rfl, q, hw7⟩
      have hS7 := hS6.drewN q
      have hcs7 := blk_drewN hcs6 q
      have hK7 := hks.drewN q
      rw [← hw7] at hS7 hcs7 hK7
      clear hw7
      have hc := blk_cell hS7.dec
      have hf := blk_frozen hS7.dec
      simp only [DV.cells] at hc
      have hx0 : w7.cell? ⟨dd, 0, none⟩ = some (.int .u8 (E.D.getD (pos + n + 1) 0)) := by rw [blk_cell hcs7]; exact hin 0 (by omega)
      generalize hx : E.D.getD (pos + n + 1) 0 = x0 at *
      have Hx := Lib.hid hx
      clear hx
      have h0' : (0 : Int) < (k : Int) := by omega
      go_wp2_with fail
      go_ret
      rw [Hlv.out, Hx.out]
      have hks2 : Keep (fun k => k = db) w7 ((w7.setCell ⟨db, 14, none⟩ (.int .u8 x0)).setCell ⟨db, 7, none⟩ (.int .u32 bs)) := ((Keep.refl (fun k => k = db) w7).setCell (p := ⟨db, 14, none⟩) (.inl rfl) _).setCell (p := ⟨db, 7, none⟩) (.inl rfl) _
      have h1 := SD.set hA hS7 14 (.int .u8 x0) (d' := ⟨nv, data, tl, used, .pointer (some ⟨E.b, 0, none⟩), bs, cb, k, vpm, cmv, md', 0, .pointer (some ⟨mb, 0, none⟩), x0, tv, lv, mv, dbv⟩) rfl
      refine ⟨rfl, ((hK4.step hkr ?_).trans (hK7.mono (fun _ h => .inl h))).trans (hks2.mono (fun _ h => .inl h)), mc', dd, SD.set hA h1 7 (.int .u32 bs) rfl, ⟨hmc, ⟨cs, hks2.blk hcs7 hne.2.2.2.2.1, hcz, hin⟩, hne⟩, hdd'⟩
      rintro i (h | h)
      · exact .inl (.inr (.inl h))
      · subst h
        rcases hdd' with h | h
        · exact .inr h
        · exact .inl (.inr (.inr (.inr h)))
end Go.Proofs.YtdamippibpbjhaaGreatDoor
