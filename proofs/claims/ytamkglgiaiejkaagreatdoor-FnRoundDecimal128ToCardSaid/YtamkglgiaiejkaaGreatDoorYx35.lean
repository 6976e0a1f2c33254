import Derived.Test.YtamkglgiaiejkaaGreatDoorYx34
/-! The kernel: a decimal is rounded to a multiple, from its operations on. -/
namespace Go.Proofs.YtamkglgiaiejkaaGreatDoor
open Go.RowKit

@[go_sem] theorem store_fn {P : Program} {w : World} {a : Addr} {m : Mode} (f : Fn) (x y : Array Value) : (store a (.func f x y) m).run P w = stored P w a (.func f x y) m := run_store P w a _ m rfl
theorem store_row {P : Program} (w : World) (g : Nat) (t ty : TypeId) (old cells : Array Value) (hg : w.heap[g]? = some (.cells old t (0, 0))) (hi : (P.info? ty).map (·.size) = some cells.size) (ho : old.size = cells.size) (h1 : cells.all (·.oneCell') = true) :
    (Instr.storeAt ty (.pointer (some ⟨g, 0, none⟩)) (.agg cells)).run P w = .ok () (w.setRow g cells) := by
  simp only [Instr.storeAt, Instr.sureAddr, Sem.run_bind, Sem.run_pure, Result.andThen]
  exact run_storeVar_row w g t ty old cells hg hi ho h1
/-- What is answered: the number and no error, or zero and an error. -/
def RoundSaid (d : Int) (p : Nat) (w : World) (e : Ending) (w' : World) : Prop := ∃ z er, e = .returned (.tuple #[numV z, er]) ∧ Keep (fun _ => False) w w' ∧ ((d.natAbs < 10 ^ p ∧ z = d ∧ er = .nilIface) ∨ (¬ d.natAbs < 10 ^ p ∧ z = 0 ∧ ∃ a, er = .iface 140 a))
set_option maxRecDepth 100000 in
set_option maxHeartbeats 8000000 in
theorem to29 (x m mode : Int) (hm : 0 < m) (hx9 : x.natAbs < 1000000000000000000000000000000000000) (hm9 : m < 1000000000000000000000000000000000000) (h0 : 0 ≤ mode) (h9 : mode ≤ 9) (p : Nat) (hp1 : 1 ≤ p) (hp38 : p ≤ 38) (hxp : x.natAbs < 10 ^ p)
    (ib ob tb : Nat) (s : Int) (w : World) (hI : Impl w ib ob) (hT : w.heap[tb]? = some (.cells #[.int .i32 p, .int .i32 s] 49 (0, 0))) (hG : w.cell? ⟨2, 0, none⟩ = some (.int .i64 40)) (hS : Scales w) :
    Calls Tryz.prog 29 #[.pointer (some ⟨ib, 0, none⟩), .iface 47 (.pointer (some ⟨tb, 0, none⟩)), numV x, numV m, .int .i8 mode] w (RoundSaid (dueOf x m mode) p w) := by
  have H40 := Lib.hid (fun w hI => chosen40 mode h0 h9 ib ob w hI)
  have H56 := Lib.hid (fun w => opFrom56 2 (by decide) (by decide) w)
  have sm : Small m := ⟨by omega, by omega⟩
  have H78 := Lib.hid (fun w hG => opDiv78 m 2 sm ⟨by decide, by decide⟩ (by decide) w hG)
  rw [show m.tdiv 2 = m / 2 from by rw [Int.tdiv_eq_ediv_of_nonneg (by omega)]] at H78
  have H81 := Lib.hid (fun w => opNeg81 (m / 2) ⟨by omega, by omega⟩ w)
  have H55 := Lib.hid (fun w => opLow55 m w)
  have H41 := Lib.hid (fun rb eb fv w hR hI hT hE hG hS => call41 x m mode hm hx9 hm9 h0 h9 p hp1 hp38 hxp rb ib ob tb eb fv s w hR hI hT hE hG hS)
  obtain ⟨d, hd⟩ : ∃ z, z = dueOf x m mode := ⟨_, rfl⟩
  rw [← hd] at H41 ⊢
  have e2 : numV 2 = .agg #[.int .u64 2, .int .i64 0] := rfl
  obtain ⟨lox, hlox⟩ : ∃ z, z = ((x) % 18446744073709551616).toNat := ⟨_, rfl⟩
  obtain ⟨upx, hupx⟩ : ∃ z, z = (x) / 18446744073709551616 := ⟨_, rfl⟩
  have ex : numV (x) = .agg #[.int .u64 lox, .int .i64 upx] := by rw [hlox, hupx]; rfl
  obtain ⟨lom, hlom⟩ : ∃ z, z = ((m) % 18446744073709551616).toNat := ⟨_, rfl⟩
  obtain ⟨upm, hupm⟩ : ∃ z, z = (m) / 18446744073709551616 := ⟨_, rfl⟩
  have em : numV (m) = .agg #[.int .u64 lom, .int .i64 upm] := by rw [hlom, hupm]; rfl
  obtain ⟨lof, hlof⟩ : ∃ z, z = ((m / 2) % 18446744073709551616).toNat := ⟨_, rfl⟩
  obtain ⟨upf, hupf⟩ : ∃ z, z = (m / 2) / 18446744073709551616 := ⟨_, rfl⟩
  have ef : numV (m / 2) = .agg #[.int .u64 lof, .int .i64 upf] := by rw [hlof, hupf]; rfl
  obtain ⟨lon, hlon⟩ : ∃ z, z = ((-(m / 2)) % 18446744073709551616).toNat := ⟨_, rfl⟩
  obtain ⟨upn, hupn⟩ : ∃ z, z = (-(m / 2)) / 18446744073709551616 := ⟨_, rfl⟩
  have en : numV (-(m / 2)) = .agg #[.int .u64 lon, .int .i64 upn] := by rw [hlon, hupn]; rfl
  obtain ⟨lod, hlod⟩ : ∃ z, z = ((d) % 18446744073709551616).toNat := ⟨_, rfl⟩
  obtain ⟨upd, hupd⟩ : ∃ z, z = (d) / 18446744073709551616 := ⟨_, rfl⟩
  have ed : numV (d) = .agg #[.int .u64 lod, .int .i64 upd] := by rw [hlod, hupd]; rfl
  rw [e2] at H56
  rw [em, e2, ef] at H78
  rw [ef, en] at H81
  rw [em, ← hlom] at H55
  unfold rndCells at H41
  rw [← hlom, ← hupm, ← hlof, ← hupf, ← hlon, ← hupn, ex] at H41
  rw [ex, em]
  have HPAR : Hid (((lom : Int) % 2 = 0) ↔ (m % 2 = 0)) := Lib.hid (by rw [hlom]; omega)
  have HED := Lib.hid ed
  obtain ⟨b10, hk0⟩ := box3 w (.cells #[.int .u64 lox, .int .i64 upx] 42) (.cells #[.int .u64 lom, .int .i64 upm] 42) (.cells #[.int .u64 0, .int .i64 0] 42)
  have b8 : (((w.alloc (.cells #[.int .u64 lox, .int .i64 upx] 42)).alloc (.cells #[.int .u64 lom, .int .i64 upm] 42)).alloc (.cells #[.int .u64 0, .int .i64 0] 42)).heap[w.heap.size + 1]? = some (.cells #[.int .u64 lom, .int .i64 upm] 42) := blk_alloc (box2 w (.cells #[.int .u64 lox, .int .i64 upx] 42) (.cells #[.int .u64 lom, .int .i64 upm] 42)).1 _
  have b7 : (((w.alloc (.cells #[.int .u64 lox, .int .i64 upx] 42)).alloc (.cells #[.int .u64 lom, .int .i64 upm] 42)).alloc (.cells #[.int .u64 0, .int .i64 0] 42)).heap[w.heap.size]? = some (.cells #[.int .u64 lox, .int .i64 upx] 42) := blk_alloc (blk_alloc (blk_new w _) _) _
  have hI0 := hI.keep hk0 (fun h => h) (fun h => h)
  have ib0 := blk_cell hI0.1 0
  have ib8 := blk_cell hI0.1 8
  have ib9 := blk_cell hI0.1 9
  have ob2 := blk_cell hI0.2 2
  have ob5 := blk_cell hI0.2 5
  have mb0 := blk_cell b8 0
  have mb1 := blk_cell b8 1
  have xb0 := blk_cell b7 0
  have xb1 := blk_cell b7 1
  unfold implCells at ib0 ib8 ib9
  unfold opsCells at ob2 ob5
  simp only [List.getElem?_toArray, List.getElem?_cons_zero, List.getElem?_cons_succ] at ib0 ib8 ib9 ob2 ob5 mb0 mb1 xb0 xb1
  have HENV := Lib.hid (And.intro (hk0.cell hG (fun h => h)) (And.intro (hS.keep hk0 (fun h => h)) (And.intro (hk0.blk hT (fun h => h)) (And.intro hI0 b10))))
  have hlw := blk_lt b10
  have hil := blk_lt hI.1
  have hol := blk_lt hI.2
  have htl := blk_lt hT
  clear hI hI0 hT hG hS b10 b8 b7 sm hm hx9 hm9 h0 h9 hp1 hp38 hxp hd e2 ex hlox hupx em hlom hupm ef hlof hupf en hlon hupn ed hlod hupd
  go_enter Tryz.func29, Tryz.ntmps29
  go_upto_region 1 with fail
  generalize ((w.alloc (.cells #[.int .u64 lox, .int .i64 upx] 42)).alloc (.cells #[.int .u64 lom, .int .i64 upm] 42)).alloc (.cells #[.int .u64 0, .int .i64 0] 42) = w0 at *
  go_cut [12] from 12 to 22 (fun t12 wx => ∃ (rb : Nat) (fv : Value), t12 = .pointer (some ⟨rb, 0, none⟩) ∧ w.heap.size + 1 + 1 < rb ∧ wx.heap[rb]? = some (.cells #[.iface 47 (.pointer (some ⟨tb, 0, none⟩)), .int .i8 mode, .int .u64 lom, .int .i64 upm, .int .u64 0, .int .i64 0, .int .u64 0, .int .i64 0, .bool false, .pointer (some ⟨ib, 0, none⟩), fv] 87 (0, 0)) ∧ Keep (fun _ => False) w0 wx)
  case first =>
    have hkd : Keep (fun _ => False) w0 w0.drew := (Keep.refl _ w0).drew
    refine wp_region_takesC (fun w' => Keep (fun _ => False) w0 w') (by kernel_rfl) ?_
    generalize w0.drew = wd at *
    have hsd := hkd.size
    go_simp
    refine wpC_take 0 (v := .iface 47 (.pointer (some ⟨tb, 0, none⟩))) (by kernel_rfl) rfl rfl (fun _ _ _ h => h) (fun w' hC => by go_simp) ?_
    go_simp
    refine wpC_take 1 (v := .int .i8 mode) (by kernel_rfl) rfl rfl (fun _ _ _ h => h) (fun w' hC => by go_simp) ?_
    go_simp
    refine wpC_take 2 (v := .pointer (some ⟨ib, 0, none⟩)) (by kernel_rfl) rfl rfl (fun _ _ _ h => h) (fun w' hC => by go_simp) ?_
    go_simp
    refine wpC_take 3 (v := .int .i8 mode) (by kernel_rfl) rfl rfl (fun _ _ _ h => h) (fun w' hC => by go_simp) ?_
    go_simp
    refine wpC_take 4 (v := .pointer (some ⟨ib, 0, none⟩)) (by kernel_rfl) rfl rfl (fun _ _ _ h => h) (fun w' hC => by go_simp) ?_
    go_simp
    refine wpC_take 6 (v := .agg #[.int .u64 lom, .int .i64 upm]) (by kernel_rfl) rfl rfl (fun _ _ _ h => h) (fun w' hC => by have c0 := (hC).cell mb0 (fun h => h); have c1 := (hC).cell mb1 (fun h => h); go_simp) ?_
    go_simp
    refine wpC_two 5 8 (by kernel_rfl) hkd rfl rfl ?_ ?_
    · go_wp2_with fail
      refine (H40.out wd (HENV.out.2.2.2.1.keep hkd (fun h => h) (fun h => h))).mono ?_
      rintro e w1 ⟨⟨f, a, c, rfl⟩, hk1⟩
      have hk01 := hkd.trans hk1
      have hs1 := hk1.size
      go_wp2_with fail
      refine wpC_take 7 (v := .agg #[.iface 47 (.pointer (some ⟨tb, 0, none⟩)), .int .i8 mode, .int .u64 lom, .int .i64 upm, .int .u64 0, .int .i64 0, .int .u64 0, .int .i64 0, .bool false, .pointer (some ⟨ib, 0, none⟩), .func f a c]) (by kernel_rfl) rfl rfl (fun _ _ _ h => h) (fun w' hC => by go_simp) ?_
      go_simp
      refine wpC_only 8 (by kernel_rfl) hk01 rfl ?_
      go_wp2_with fail
      have hka := hk01.alloc (.cells #[.nilIface, .int .i8 0, .int .u64 0, .int .i64 0, .int .u64 0, .int .i64 0, .int .u64 0, .int .i64 0, .bool false, .pointer none, .nilFunc] 87)
      have hz := blk_new w1 (.cells #[.nilIface, .int .i8 0, .int .u64 0, .int .i64 0, .int .u64 0, .int .i64 0, .int .u64 0, .int .i64 0, .bool false, .pointer none, .nilFunc] 87)
      refine wpC_only 9 (by kernel_rfl) (hka) rfl ?_
      go_wp2_with fail
      have hkE : Keep (fun _ => False) w0 (w1.alloc (.cells #[.iface 47 (.pointer (some ⟨tb, 0, none⟩)), .int .i8 mode, .int .u64 lom, .int .i64 upm, .int .u64 0, .int .i64 0, .int .u64 0, .int .i64 0, .bool false, .pointer (some ⟨ib, 0, none⟩), .func f a c] 87)) := (hk01).alloc _
      refine wpC_stop (by kernel_rfl) hkE ?_
      go_wp2_with fail
      go_meet
      exact ⟨_, _, rfl, by omega, blk_new _ _, hkE⟩
    · go_wp2_with fail
      have hka := hkd.alloc (.cells #[.nilIface, .int .i8 0, .int .u64 0, .int .i64 0, .int .u64 0, .int .i64 0, .int .u64 0, .int .i64 0, .bool false, .pointer none, .nilFunc] 87)
      have hz := blk_new wd (.cells #[.nilIface, .int .i8 0, .int .u64 0, .int .i64 0, .int .u64 0, .int .i64 0, .int .u64 0, .int .i64 0, .bool false, .pointer none, .nilFunc] 87)
      have hlz := blk_lt hz
      generalize wd.alloc (.cells #[.nilIface, .int .i8 0, .int .u64 0, .int .i64 0, .int .u64 0, .int .i64 0, .int .u64 0, .int .i64 0, .bool false, .pointer none, .nilFunc] 87) = wz at *
      refine wpC_only 5 (by kernel_rfl) hka rfl ?_
      go_wp2_with fail
      refine (H40.out wz (HENV.out.2.2.2.1.keep hka (fun h => h) (fun h => h))).mono ?_
      rintro e w1 ⟨⟨f, a, c, rfl⟩, hk1⟩
      have hz1 := hk1.blk hz (fun h => h)
      have hk01 := hka.trans hk1
      clear hz
      go_wp2_with fail
      refine wpC_take 7 (v := .agg #[.iface 47 (.pointer (some ⟨tb, 0, none⟩)), .int .i8 mode, .int .u64 lom, .int .i64 upm, .int .u64 0, .int .i64 0, .int .u64 0, .int .i64 0, .bool false, .pointer (some ⟨ib, 0, none⟩), .func f a c]) (by kernel_rfl) rfl rfl (fun _ _ _ h => h) (fun w' hC => by go_simp) ?_
      go_simp
      refine wpC_only 9 (by kernel_rfl) hk01 rfl ?_
      refine wpList_storeR rfl rfl (w' := w1.setRow wd.heap.size #[.iface 47 (.pointer (some ⟨tb, 0, none⟩)), .int .i8 mode, .int .u64 lom, .int .i64 upm, .int .u64 0, .int .i64 0, .int .u64 0, .int .i64 0, .bool false, .pointer (some ⟨ib, 0, none⟩), .func f a c]) (fun ρ hρ => ?_) (wpList_then ?_)
      · have e0 : ρ (.tmp 12) = .pointer (some ⟨wd.heap.size, 0, none⟩) := by rw [hρ]; rfl
        have e1 : ρ (.tmp 22) = .agg #[.iface 47 (.pointer (some ⟨tb, 0, none⟩)), .int .i8 mode, .int .u64 lom, .int .i64 upm, .int .u64 0, .int .i64 0, .int .u64 0, .int .i64 0, .bool false, .pointer (some ⟨ib, 0, none⟩), .func f a c] := by rw [hρ]; rfl
        have hs := store_row (P := Tryz.prog) w1 wd.heap.size 87 87 _ #[.iface 47 (.pointer (some ⟨tb, 0, none⟩)), .int .i8 mode, .int .u64 lom, .int .i64 upm, .int .u64 0, .int .i64 0, .int .u64 0, .int .i64 0, .bool false, .pointer (some ⟨ib, 0, none⟩), .func f a c] hz1 (by kernel_rfl) rfl (by simp [Value.oneCell'])
        clear hρ
        unfold execOp
        simp only [e0, e1, Sem.run_bind, hs, Result.andThen, Sem.run_pure]
      have hkE : Keep (fun _ => False) w0 (w1.setRow wd.heap.size #[.iface 47 (.pointer (some ⟨tb, 0, none⟩)), .int .i8 mode, .int .u64 lom, .int .i64 upm, .int .u64 0, .int .i64 0, .int .u64 0, .int .i64 0, .bool false, .pointer (some ⟨ib, 0, none⟩), .func f a c]) := hk01.setRow (.inr hsd) _
      refine wpC_stop (by kernel_rfl) hkE ?_
      go_wp2_with fail
      go_meet
      exact ⟨_, _, rfl, by omega, setRow_blk hz1, hkE⟩
  case rest =>
    obtain ⟨rb, fv, rfl, hrb, hz, hkc⟩ := hcut
    have hsc := hkc.size
    have hsw := hk0.size
    have hlz := blk_lt hz
    have HE0 := Lib.hid (And.intro hil (And.intro hol htl))
    replace ib0 := hkc.cell ib0 (fun h => h)
    replace ib8 := hkc.cell ib8 (fun h => h)
    replace ib9 := hkc.cell ib9 (fun h => h)
    replace ob2 := hkc.cell ob2 (fun h => h)
    replace ob5 := hkc.cell ob5 (fun h => h)
    replace xb0 := hkc.cell xb0 (fun h => h)
    replace xb1 := hkc.cell xb1 (fun h => h)
    clear mb0 mb1
    have rc2 := blk_cell hz 2
    have rc3 := blk_cell hz 3
    simp only [List.getElem?_toArray, List.getElem?_cons_zero, List.getElem?_cons_succ] at rc2 rc3
    have HGc := Lib.hid (hkc.cell HENV.out.1 (fun h => h))
    go_upto_region 2 with fail
    have hkd : Keep (fun _ => False) wc wc.drew := (Keep.refl _ wc).drew
    refine wp_region_takesD (fun w' => Keep (fun _ => False) wc w') 16 (by kernel_rfl) ?_
    generalize wc.drew = wd at *
    go_simp
    refine wpD_pure 0 (v := .pointer (some ⟨ib, 0, none⟩)) (by kernel_rfl) rfl rfl (fun _ _ _ h => h) (fun w' => by go_simp) ?_
    go_simp
    refine wpD_pure 1 (v := .pointer (some ⟨ib, 0, none⟩)) (by kernel_rfl) rfl rfl (fun _ _ _ h => h) (fun w' => by go_simp) ?_
    go_simp
    refine wpD_pure 2 (v := .pointer (some ⟨ib, 0, none⟩)) (by kernel_rfl) rfl rfl (fun _ _ _ h => h) (fun w' => by go_simp) ?_
    go_simp
    refine wpD_take 3 (v := .pointer (some ⟨ob, 0, none⟩)) (by kernel_rfl) rfl rfl (fun _ _ _ h => h) (fun w' hC => by have c0 := (hC).cell ib0 (fun h => h); go_simp) ?_
    go_simp
    refine wpD_pure 4 (v := .pointer (some ⟨ob, 0, none⟩)) (by kernel_rfl) rfl rfl (fun _ _ _ h => h) (fun w' => by go_simp) ?_
    go_simp
    refine wpD_pure 5 (v := .pointer (some ⟨ob, 2, none⟩)) (by kernel_rfl) rfl rfl (fun _ _ _ h => h) (fun w' => by go_simp) ?_
    go_simp
    refine wpD_take 6 (v := .func (.func 78) #[] #[]) (by kernel_rfl) rfl rfl (fun _ _ _ h => h) (fun w' hC => by have c0 := (hC).cell ob2 (fun h => h); go_simp) ?_
    go_simp
    refine wpD_pure 7 (v := .pointer (some ⟨rb, 2, none⟩)) (by kernel_rfl) rfl rfl (fun _ _ _ h => h) (fun w' => by go_simp) ?_
    go_simp
    refine wpD_take 8 (v := .agg #[.int .u64 lom, .int .i64 upm]) (by kernel_rfl) rfl rfl (fun _ _ _ h => h) (fun w' hC => by have c0 := (hC).cell rc2 (fun h => h); have c1 := (hC).cell rc3 (fun h => h); go_simp) ?_
    go_simp
    refine wpD_pure 9 (v := .pointer (some ⟨ib, 0, none⟩)) (by kernel_rfl) rfl rfl (fun _ _ _ h => h) (fun w' => by go_simp) ?_
    go_simp
    refine wpD_pure 10 (v := .pointer (some ⟨ib, 0, none⟩)) (by kernel_rfl) rfl rfl (fun _ _ _ h => h) (fun w' => by go_simp) ?_
    go_simp
    refine wpD_pure 11 (v := .pointer (some ⟨ib, 9, none⟩)) (by kernel_rfl) rfl rfl (fun _ _ _ h => h) (fun w' => by go_simp) ?_
    go_simp
    refine wpD_take 12 (v := .func (.func 56) #[] #[]) (by kernel_rfl) rfl rfl (fun _ _ _ h => h) (fun w' hC => by have c0 := (hC).cell ib9 (fun h => h); go_simp) ?_
    go_simp
    refine wpD_only 13 (by kernel_rfl) (fun _ => hkd) rfl ?_
    go_wp2_with fail
    refine (H56.out _).mono ?_
    rintro e w1 ⟨rfl, hk1⟩
    have hkA := hkd.trans hk1
    go_wp2_with fail
    refine wpD_only 14 (by kernel_rfl) (fun _ => hkA) rfl ?_
    go_wp2_with fail
    refine (H78.out _ (hkA.cell HGc.out (fun h => h))).mono ?_
    rintro e w2 ⟨rfl, hk2⟩
    have hkB := hkA.trans hk2
    go_wp2_with fail
    refine wpD_pure 15 (v := .pointer (some ⟨rb, 4, none⟩)) (by kernel_rfl) rfl rfl (fun _ _ _ h => h) (fun w' => by go_simp) ?_
    go_simp
    have hzz := (hkB).blk hz (fun h => h)
    have zf := blk_frozen hzz
    have za := blk_cell hzz 4
    have zb := blk_cell hzz 5
    simp only [List.getElem?_toArray, List.getElem?_cons_zero, List.getElem?_cons_succ] at za zb
    refine wpD_only 16 (by kernel_rfl) (fun _ => hkB) rfl ?_
    go_wp2_with fail
    refine wpD_stop (by kernel_rfl) (by kernel_rfl) ?_
    have hzF : ((w2.setCell ⟨rb, 4, none⟩ (.int .u64 lof)).setCell ⟨rb, 5, none⟩ (.int .i64 upf)).heap[rb]? = some (.cells #[.iface 47 (.pointer (some ⟨tb, 0, none⟩)), .int .i8 mode, .int .u64 lom, .int .i64 upm, .int .u64 lof, .int .i64 upf, .int .u64 0, .int .i64 0, .bool false, .pointer (some ⟨ib, 0, none⟩), fv] 87 (0, 0)) := blk_set (blk_set hzz 4 (.int .u64 lof)) 5 (.int .i64 upf)
    have hkF : Keep (fun b => b = rb) wc ((w2.setCell ⟨rb, 4, none⟩ (.int .u64 lof)).setCell ⟨rb, 5, none⟩ (.int .i64 upf)) := (((hkB).mono (S' := fun b => b = rb) (fun _ h => h.elim)).setCell (p := ⟨rb, 4, none⟩) (.inl rfl) _).setCell (p := ⟨rb, 5, none⟩) (.inl rfl) _
    clear hzz zf za zb
    generalize (w2.setCell ⟨rb, 4, none⟩ (.int .u64 lof)).setCell ⟨rb, 5, none⟩ (.int .i64 upf) = wF at *
    have nib : ¬ ib = rb := nlt HE0.out.1 hrb
    have nob : ¬ ob = rb := nlt HE0.out.2.1 hrb
    have nxb : ¬ w.heap.size = rb := by omega
    replace ib0 := hkF.cell ib0 nib
    replace ib8 := hkF.cell ib8 nib
    replace ib9 := hkF.cell ib9 nib
    replace ob2 := hkF.cell ob2 nob
    replace ob5 := hkF.cell ob5 nob
    replace xb0 := hkF.cell xb0 nxb
    replace xb1 := hkF.cell xb1 nxb
    clear hkd hkA hkB hk1 hk2 rc2 rc3
    go_upto_region 3 with fail
    have rc4 := blk_cell hzF 4
    have rc5 := blk_cell hzF 5
    simp only [List.getElem?_toArray, List.getElem?_cons_zero, List.getElem?_cons_succ] at rc4 rc5
    have hkd : Keep (fun _ => False) wF wF.drew := (Keep.refl _ wF).drew
    refine wp_region_takesD (fun w' => Keep (fun _ => False) wF w') 11 (by kernel_rfl) ?_
    generalize wF.drew = wd2 at *
    go_simp
    refine wpD_pure 0 (v := .pointer (some ⟨ib, 0, none⟩)) (by kernel_rfl) rfl rfl (fun _ _ _ h => h) (fun w' => by go_simp) ?_
    go_simp
    refine wpD_pure 1 (v := .pointer (some ⟨ib, 0, none⟩)) (by kernel_rfl) rfl rfl (fun _ _ _ h => h) (fun w' => by go_simp) ?_
    go_simp
    refine wpD_pure 2 (v := .pointer (some ⟨ib, 0, none⟩)) (by kernel_rfl) rfl rfl (fun _ _ _ h => h) (fun w' => by go_simp) ?_
    go_simp
    refine wpD_take 3 (v := .pointer (some ⟨ob, 0, none⟩)) (by kernel_rfl) rfl rfl (fun _ _ _ h => h) (fun w' hC => by have c0 := (hC).cell ib0 (fun h => h); go_simp) ?_
    go_simp
    refine wpD_pure 4 (v := .pointer (some ⟨ob, 0, none⟩)) (by kernel_rfl) rfl rfl (fun _ _ _ h => h) (fun w' => by go_simp) ?_
    go_simp
    refine wpD_pure 5 (v := .pointer (some ⟨ob, 5, none⟩)) (by kernel_rfl) rfl rfl (fun _ _ _ h => h) (fun w' => by go_simp) ?_
    go_simp
    refine wpD_take 6 (v := .func (.func 81) #[] #[]) (by kernel_rfl) rfl rfl (fun _ _ _ h => h) (fun w' hC => by have c0 := (hC).cell ob5 (fun h => h); go_simp) ?_
    go_simp
    refine wpD_pure 7 (v := .pointer (some ⟨rb, 4, none⟩)) (by kernel_rfl) rfl rfl (fun _ _ _ h => h) (fun w' => by go_simp) ?_
    go_simp
    refine wpD_take 8 (v := .agg #[.int .u64 lof, .int .i64 upf]) (by kernel_rfl) rfl rfl (fun _ _ _ h => h) (fun w' hC => by have c0 := (hC).cell rc4 (fun h => h); have c1 := (hC).cell rc5 (fun h => h); go_simp) ?_
    go_simp
    refine wpD_only 9 (by kernel_rfl) (fun _ => hkd) rfl ?_
    go_wp2_with fail
    refine (H81.out _).mono ?_
    rintro e w3 ⟨rfl, hk1⟩
    have hkA := hkd.trans hk1
    go_wp2_with fail
    refine wpD_pure 10 (v := .pointer (some ⟨rb, 6, none⟩)) (by kernel_rfl) rfl rfl (fun _ _ _ h => h) (fun w' => by go_simp) ?_
    go_simp
    have hzz := (hkA).blk hzF (fun h => h)
    have zf := blk_frozen hzz
    have za := blk_cell hzz 6
    have zb := blk_cell hzz 7
    simp only [List.getElem?_toArray, List.getElem?_cons_zero, List.getElem?_cons_succ] at za zb
    refine wpD_only 11 (by kernel_rfl) (fun _ => hkA) rfl ?_
    go_wp2_with fail
    refine wpD_stop (by kernel_rfl) (by kernel_rfl) ?_
    have hzN : ((w3.setCell ⟨rb, 6, none⟩ (.int .u64 lon)).setCell ⟨rb, 7, none⟩ (.int .i64 upn)).heap[rb]? = some (.cells #[.iface 47 (.pointer (some ⟨tb, 0, none⟩)), .int .i8 mode, .int .u64 lom, .int .i64 upm, .int .u64 lof, .int .i64 upf, .int .u64 lon, .int .i64 upn, .bool false, .pointer (some ⟨ib, 0, none⟩), fv] 87 (0, 0)) := blk_set (blk_set hzz 6 (.int .u64 lon)) 7 (.int .i64 upn)
    have hkN : Keep (fun b => b = rb) wF ((w3.setCell ⟨rb, 6, none⟩ (.int .u64 lon)).setCell ⟨rb, 7, none⟩ (.int .i64 upn)) := (((hkA).mono (S' := fun b => b = rb) (fun _ h => h.elim)).setCell (p := ⟨rb, 6, none⟩) (.inl rfl) _).setCell (p := ⟨rb, 7, none⟩) (.inl rfl) _
    clear hzz zf za zb
    generalize (w3.setCell ⟨rb, 6, none⟩ (.int .u64 lon)).setCell ⟨rb, 7, none⟩ (.int .i64 upn) = wN at *
    replace ib8 := hkN.cell ib8 nib
    replace xb0 := hkN.cell xb0 nxb
    replace xb1 := hkN.cell xb1 nxb
    clear hkd hkA hk1 rc4 rc5 ib0 ib9 ob2 ob5
    go_upto_region 4 with fail
    have rc2 := blk_cell hzN 2
    have rc3 := blk_cell hzN 3
    simp only [List.getElem?_toArray, List.getElem?_cons_zero, List.getElem?_cons_succ] at rc2 rc3
    have hkd : Keep (fun _ => False) wN wN.drew := (Keep.refl _ wN).drew
    refine wp_region_takesD (fun w' => Keep (fun _ => False) wN w') 10 (by kernel_rfl) ?_
    generalize wN.drew = wd3 at *
    go_simp
    refine wpD_pure 0 (v := .pointer (some ⟨ib, 0, none⟩)) (by kernel_rfl) rfl rfl (fun _ _ _ h => h) (fun w' => by go_simp) ?_
    go_simp
    refine wpD_pure 1 (v := .pointer (some ⟨ib, 0, none⟩)) (by kernel_rfl) rfl rfl (fun _ _ _ h => h) (fun w' => by go_simp) ?_
    go_simp
    refine wpD_pure 2 (v := .pointer (some ⟨ib, 8, none⟩)) (by kernel_rfl) rfl rfl (fun _ _ _ h => h) (fun w' => by go_simp) ?_
    go_simp
    refine wpD_take 3 (v := .func (.func 55) #[] #[]) (by kernel_rfl) rfl rfl (fun _ _ _ h => h) (fun w' hC => by have c0 := (hC).cell ib8 (fun h => h); go_simp) ?_
    go_simp
    refine wpD_pure 4 (v := .pointer (some ⟨rb, 2, none⟩)) (by kernel_rfl) rfl rfl (fun _ _ _ h => h) (fun w' => by go_simp) ?_
    go_simp
    refine wpD_take 5 (v := .agg #[.int .u64 lom, .int .i64 upm]) (by kernel_rfl) rfl rfl (fun _ _ _ h => h) (fun w' hC => by have c0 := (hC).cell rc2 (fun h => h); have c1 := (hC).cell rc3 (fun h => h); go_simp) ?_
    go_simp
    refine wpD_only 6 (by kernel_rfl) (fun _ => hkd) rfl ?_
    go_wp2_with fail
    refine (H55.out _).mono ?_
    rintro e w4 ⟨rfl, hk1⟩
    have hkA := hkd.trans hk1
    obtain ⟨pr, hpr⟩ : ∃ z : Nat, z = lom % 2 := ⟨_, rfl⟩
    have hprI : (lom : Int).tmod 2 = (pr : Int) := by rw [Int.tmod_eq_emod_of_nonneg (by omega)]; omega
    have hprB : ((pr : Int) == 0) = decide (m % 2 = 0) := Bool.eq_iff_iff.2 (by have := HPAR.out; simp; omega)
    clear hpr
    go_wp2_with fail
    refine wpD_only 7 (by kernel_rfl) (fun _ => hkA) rfl ?_
    go_wp2_with fail
    refine wpD_only 8 (by kernel_rfl) (fun _ => hkA) rfl ?_
    go_wp2_with fail
    refine wpD_pure 9 (v := .pointer (some ⟨rb, 8, none⟩)) (by kernel_rfl) rfl rfl (fun _ _ _ h => h) (fun w' => by go_simp) ?_
    go_simp
    have hzz := hkA.blk hzN (fun h => h)
    have zf := blk_frozen hzz
    have za := blk_cell hzz 8
    simp only [List.getElem?_toArray, List.getElem?_cons_zero, List.getElem?_cons_succ] at za
    refine wpD_only 10 (by kernel_rfl) (fun _ => hkA) rfl ?_
    go_wp2_with fail
    refine wpD_stop (by kernel_rfl) (by kernel_rfl) ?_
    have hzE : (w4.setCell ⟨rb, 8, none⟩ (.bool (decide (m % 2 = 0)))).heap[rb]? = some (.cells #[.iface 47 (.pointer (some ⟨tb, 0, none⟩)), .int .i8 mode, .int .u64 lom, .int .i64 upm, .int .u64 lof, .int .i64 upf, .int .u64 lon, .int .i64 upn, .bool (decide (m % 2 = 0)), .pointer (some ⟨ib, 0, none⟩), fv] 87 (0, 0)) := blk_set hzz 8 (.bool (decide (m % 2 = 0)))
    have hkE : Keep (fun b => b = rb) wN (w4.setCell ⟨rb, 8, none⟩ (.bool (decide (m % 2 = 0)))) := ((hkA).mono (S' := fun b => b = rb) (fun _ h => h.elim)).setCell (p := ⟨rb, 8, none⟩) (.inl rfl) _
    clear hzz zf za
    generalize w4.setCell ⟨rb, 8, none⟩ (.bool (decide (m % 2 = 0))) = wE at *
    replace xb0 := hkE.cell xb0 nxb
    replace xb1 := hkE.cell xb1 nxb
    have hkcE : Keep (fun b => b = rb) wc wE := (hkF.trans hkN).trans hkE
    have hkw0E : Keep (fun b => b = rb) w0 wE := (hkc.mono (S' := fun b => b = rb) (fun _ h => h.elim)).trans hkcE
    have hkwE : Keep (fun _ => False) w wE := hk0.step hkw0E (fun b hb => .inr (gfr hrb hb))
    have hka : Keep (fun _ => False) wE (wE.alloc (.cells #[.nilIface] 44)) := (Keep.refl _ wE).alloc _
    have heb := blk_new wE (.cells #[.nilIface] 44)
    have n2b : ¬ 2 = rb := by have : 2 < w0.heap.size := World.block_lt_of_cell? w0 _ HENV.out.1; have := (HENV.out.2.1 0 (by decide)).1; omega
    have H := H41.out rb wE.heap.size fv (wE.alloc (.cells #[.nilIface] 44)) (hka.blk hzE (fun h => h)) ((HENV.out.2.2.2.1.keep hkw0E nib nob).keep hka (fun h => h) (fun h => h)) (hka.blk (hkw0E.blk HENV.out.2.2.1 (nlt HE0.out.2.2 hrb)) (fun h => h)) heb (hka.cell (hkw0E.cell HENV.out.1 n2b) (fun h => h)) ((HENV.out.2.1.keep hkw0E (nz hrb)).keep hka (fun h => h))
    have hlb : wE.heap.size < (wE.alloc (.cells #[.nilIface] 44)).heap.size := blk_lt heb
    have hb10 := hka.blk (hkw0E.blk HENV.out.2.2.2.2 (nl2 hrb)) (fun h => h)
    have hszE := hkwE.size
    have hlz10 := blk_lt (hkw0E.blk HENV.out.2.2.2.2 (nl2 hrb))
    have HK := Lib.hid (hkwE.trans hka)
    have HC : Hid (Calls Tryz.prog 41 #[.pointer (some ⟨rb, 0, none⟩), .agg #[.int .u64 lox, .int .i64 upx], .pointer (some ⟨wE.heap.size, 0, none⟩)] (wE.alloc (.cells #[.nilIface] 44)) fun e w' => ∃ (lz : Nat) (uz : Int) (er : Value), e = .returned (.agg #[.int .u64 lz, .int .i64 uz]) ∧ Keep (fun b => b = wE.heap.size) (wE.alloc (.cells #[.nilIface] 44)) w' ∧ w'.heap[wE.heap.size]? = some (.cells #[er] 44 (0, 0)) ∧ (er = .nilIface ∨ ∃ a, er = .iface 140 a) ∧ (∃ z : Int, numV z = .agg #[.int .u64 lz, .int .i64 uz] ∧ ((d.natAbs < 10 ^ p ∧ z = d ∧ er = .nilIface) ∨ (¬ d.natAbs < 10 ^ p ∧ z = 0 ∧ ∃ a, er = .iface 140 a)))) := Lib.hid (by
      refine H.mono ?_
      rintro e w' (⟨h1, rfl, h2⟩ | ⟨h1, rfl, h2, a, h3⟩)
      · exact ⟨lod, upd, .nilIface, by rw [HED.out], h2.mono (fun _ h => h.elim), h2.blk heb (fun h => h), .inl rfl, d, HED.out, .inl ⟨h1, rfl, rfl⟩⟩
      · exact ⟨0, 0, _, rfl, h2, h3, .inr ⟨a, rfl⟩, 0, rfl, .inr ⟨h1, rfl, a, rfl⟩⟩)
    replace xb0 := hka.cell xb0 (fun h => h)
    replace xb1 := hka.cell xb1 (fun h => h)
    clear H H41 H40 H56 H78 H81 H55 hz hzF hzN hzE hkc hkF hkN hkE hkcE hkw0E hkwE hka heb hkd hkA hk1 rc2 rc3 ib8 hprI hprB
    go_wp2_with fail
    refine HC.out.mono ?_
    rintro e w5 ⟨lz, uz, er, rfl, hk5, heb5, her, hz5⟩
    have HZ5 := Lib.hid hz5
    clear hz5 HC
    have hb105 := hk5.blk hb10 (by show ¬ _ = _; omega)
    have hs5 := hk5.size
    have hza := blk_new w5 (.cells #[.int .u64 lz, .int .i64 uz] 42)
    have hea := blk_alloc heb5 (.cells #[.int .u64 lz, .int .i64 uz] 42)
    have hba := blk_alloc hb105 (.cells #[.int .u64 lz, .int .i64 uz] 42)
    have hkW := (HK.out.step hk5 (fun b hb => .inr (by have hb : b = wE.heap.size := hb; omega))).alloc (.cells #[.int .u64 lz, .int .i64 uz] 42)
    have hkW' := hkW.drew
    have hzd := blk_drew hza
    have hed := blk_drew hea
    have hbd := blk_drew hba
    clear hza hea hba hkW xb0 xb1 heb5 hb105 hb10
    go_upto_region 7 with fail
    refine wp_region_takesC (fun w' => w'.heap[w5.heap.size]? = some (.cells #[.int .u64 lz, .int .i64 uz] 42 (0, 0)) ∧ w'.heap[wE.heap.size]? = some (.cells #[er] 44 (0, 0))) (by kernel_rfl) ?_
    generalize (w5.alloc (.cells #[.int .u64 lz, .int .i64 uz] 42)).drew = w8 at *
    go_simp
    refine wpC_take 0 (v := .agg #[.int .u64 lz, .int .i64 uz]) (by kernel_rfl) rfl rfl (fun _ _ _ h => h) (fun w' hC => by have c0 := blk_cell hC.1 0; have c1 := blk_cell hC.1 1; simp only [List.getElem?_toArray, List.getElem?_cons_zero, List.getElem?_cons_succ] at c0 c1; go_simp) ?_
    go_simp
    refine wpC_take 1 (v := er) (by kernel_rfl) rfl rfl (fun _ _ _ h => h) (fun w' hC => by have c0 := blk_cell hC.2 0; simp only [List.getElem?_toArray, List.getElem?_cons_zero] at c0; rcases her with rfl | ⟨a, rfl⟩ <;> go_simp) ?_
    go_simp
    have t0 := blk_cell hbd 0
    have t1 := blk_cell hbd 1
    have tf := blk_frozen hbd
    simp only [List.getElem?_toArray, List.getElem?_cons_zero, List.getElem?_cons_succ] at t0 t1
    have hl10 := blk_lt hbd
    have hkE : Keep (fun _ => False) w ((w8.setCell ⟨w.heap.size + 1 + 1, 0, none⟩ (.int .u64 lz)).setCell ⟨w.heap.size + 1 + 1, 1, none⟩ (.int .i64 uz)) := (hkW'.setCell (.inr (by dsimp only; omega)) _).setCell (.inr (by dsimp only; omega)) _
    have hbE := blk_set (blk_set hbd 0 (.int .u64 lz)) 1 (.int .i64 uz)
    have hzE := blk_far (blk_far hzd (p := ⟨w.heap.size + 1 + 1, 0, none⟩) (by dsimp only; omega) (.int .u64 lz)) (p := ⟨w.heap.size + 1 + 1, 1, none⟩) (by dsimp only; omega) (.int .i64 uz)
    have heE := blk_far (blk_far hed (p := ⟨w.heap.size + 1 + 1, 0, none⟩) (by dsimp only; omega) (.int .u64 lz)) (p := ⟨w.heap.size + 1 + 1, 1, none⟩) (by dsimp only; omega) (.int .i64 uz)
    refine wpC_only 2 (by kernel_rfl) ⟨hzd, hed⟩ rfl ?_
    go_wp2_with fail
    refine wpC_only 3 (by kernel_rfl) ⟨hzE, heE⟩ rfl ?_
    go_wp2_with fail
    refine wpC_stop (by kernel_rfl) ⟨hzE, heE⟩ ?_
    have r0 := blk_cell hbE 0
    have r1 := blk_cell hbE 1
    simp at r0 r1
    have HF := Lib.hid hkE
    clear hkE hbE hzE heE hkW'
    go_wp2_with fail
    obtain ⟨z, hz1, hz2⟩ := HZ5.out
    exact bodyPost_ret (v := .tuple #[.agg #[.int .u64 lz, .int .i64 uz], er]) (by simp [results, Tryz.results29, go_sem, r0, r1]) rfl ⟨z, er, by rw [hz1], HF.out, hz2⟩
end Go.Proofs.YtamkglgiaiejkaaGreatDoor

/-! The kernels' rounding of a decimal of 128 bits. -/
namespace Go.Proofs.YtamkglgiaiejkaaGreatDoor
open Go.RowKit

set_option maxRecDepth 100000 in
set_option maxHeartbeats 8000000 in
theorem to13 (x m mode : Int) (hm : 0 < m) (hx9 : x.natAbs < 1000000000000000000000000000000000000) (hm9 : m < 1000000000000000000000000000000000000) (h0 : 0 ≤ mode) (h9 : mode ≤ 9) (p : Nat) (hp1 : 1 ≤ p) (hp38 : p ≤ 38) (hxp : x.natAbs < 10 ^ p)
    (tb : Nat) (s : Int) (w : World) (hT : w.heap[tb]? = some (.cells #[.int .i32 p, .int .i32 s] 49 (0, 0))) (hG : w.cell? ⟨2, 0, none⟩ = some (.int .i64 40)) (hS : Scales w) :
    Calls Tryz.prog 13 #[.pointer (some ⟨tb, 0, none⟩), numV x, numV m, .int .i8 mode] w (RoundSaid (dueOf x m mode) p w) := by
  have H30 := Lib.hid (fun w => impl30 w)
  have H29 := Lib.hid (fun ib ob w hI hT hG hS => to29 x m mode hm hx9 hm9 h0 h9 p hp1 hp38 hxp ib ob tb s w hI hT hG hS)
  generalize dueOf x m mode = d at *
  obtain ⟨lox, hlox⟩ : ∃ z, z = ((x) % 18446744073709551616).toNat := ⟨_, rfl⟩
  obtain ⟨upx, hupx⟩ : ∃ z, z = (x) / 18446744073709551616 := ⟨_, rfl⟩
  have ex : numV (x) = .agg #[.int .u64 lox, .int .i64 upx] := by rw [hlox, hupx]; rfl
  obtain ⟨lom, hlom⟩ : ∃ z, z = ((m) % 18446744073709551616).toNat := ⟨_, rfl⟩
  obtain ⟨upm, hupm⟩ : ∃ z, z = (m) / 18446744073709551616 := ⟨_, rfl⟩
  have em : numV (m) = .agg #[.int .u64 lom, .int .i64 upm] := by rw [hlom, hupm]; rfl
  rw [ex, em] at H29 ⊢
  clear hm hx9 hm9 h0 h9 hp1 hp38 hxp ex hlox hupx em hlom hupm
  obtain ⟨b8, hk0⟩ := box3 w (.cells #[.int .u64 lox, .int .i64 upx] 42) (.cells #[.int .u64 lom, .int .i64 upm] 42) (.cells #[.int .u64 0, .int .i64 0] 42)
  have b6 : (((w.alloc (.cells #[.int .u64 lox, .int .i64 upx] 42)).alloc (.cells #[.int .u64 lom, .int .i64 upm] 42)).alloc (.cells #[.int .u64 0, .int .i64 0] 42)).heap[w.heap.size + 1]? = some (.cells #[.int .u64 lom, .int .i64 upm] 42) := blk_alloc (box2 w (.cells #[.int .u64 lox, .int .i64 upx] 42) (.cells #[.int .u64 lom, .int .i64 upm] 42)).1 _
  have b5 : (((w.alloc (.cells #[.int .u64 lox, .int .i64 upx] 42)).alloc (.cells #[.int .u64 lom, .int .i64 upm] 42)).alloc (.cells #[.int .u64 0, .int .i64 0] 42)).heap[w.heap.size]? = some (.cells #[.int .u64 lox, .int .i64 upx] 42) := blk_alloc (blk_alloc (blk_new w _) _) _
  have xb0 := blk_cell b5 0
  have xb1 := blk_cell b5 1
  have mb0 := blk_cell b6 0
  have mb1 := blk_cell b6 1
  simp only [List.getElem?_toArray, List.getElem?_cons_zero, List.getElem?_cons_succ] at xb0 xb1 mb0 mb1
  have HENV := Lib.hid (And.intro (hk0.cell hG (fun h => h)) (And.intro (hS.keep hk0 (fun h => h)) (And.intro (hk0.blk hT (fun h => h)) b8)))
  have hlw := blk_lt b8
  clear hT hG hS b5 b6 b8
  go_enter Tryz.func13, Tryz.ntmps13
  go_upto_region 1 with fail
  generalize ((w.alloc (.cells #[.int .u64 lox, .int .i64 upx] 42)).alloc (.cells #[.int .u64 lom, .int .i64 upm] 42)).alloc (.cells #[.int .u64 0, .int .i64 0] 42) = w0 at *
  have hkd : Keep (fun _ => False) w0 w0.drew := (Keep.refl _ w0).drew
  refine wp_region_takesD (fun w' => Keep (fun _ => False) w0 w') 9 (by kernel_rfl) ?_
  generalize w0.drew = wd at *
  go_simp
  refine wpD_pure 1 (v := .pointer (some ⟨tb, 0, none⟩)) (by kernel_rfl) rfl rfl (fun _ _ _ h => h) (fun w' => by go_simp) ?_
  go_simp
  refine wpD_pure 2 (v := .iface 47 (.pointer (some ⟨tb, 0, none⟩))) (by kernel_rfl) rfl rfl (fun _ _ _ h => h) (fun w' => by go_simp) ?_
  go_simp
  refine wpD_take 3 (v := .agg #[.int .u64 lox, .int .i64 upx]) (by kernel_rfl) rfl rfl (fun _ _ _ h => h) (fun w' hC => by have c0 := (hC).cell xb0 (fun h => h); have c1 := (hC).cell xb1 (fun h => h); go_simp) ?_
  go_simp
  refine wpD_take 4 (v := .agg #[.int .u64 lom, .int .i64 upm]) (by kernel_rfl) rfl rfl (fun _ _ _ h => h) (fun w' hC => by have c0 := (hC).cell mb0 (fun h => h); have c1 := (hC).cell mb1 (fun h => h); go_simp) ?_
  go_simp
  refine wpD_pure 5 (v := .int .i8 mode) (by kernel_rfl) rfl rfl (fun _ _ _ h => h) (fun w' => by go_simp) ?_
  go_simp
  refine wpD_only 0 (by kernel_rfl) (fun _ => hkd) rfl ?_
  go_wp2_with fail
  refine (H30.out _).mono ?_
  rintro e w1 ⟨rfl, hI1, hk1⟩
  have hkA := hkd.trans hk1
  go_wp2_with fail
  have H := H29.out _ _ w1 hI1 (hkA.blk HENV.out.2.2.1 (fun h => h)) (hkA.cell HENV.out.1 (fun h => h)) (HENV.out.2.1.keep hkA (fun h => h))
  have HH := Lib.hid H
  clear H hI1 H29 H30
  refine wpD_only 6 (by kernel_rfl) (fun _ => hkA) rfl ?_
  go_wp2_with fail
  refine HH.out.mono ?_
  rintro e w2 ⟨z, er, rfl, hk2, hz⟩
  have her : er = .nilIface ∨ ∃ a, er = .iface 140 a := hz.elim (fun h => .inl h.2.2) (fun h => .inr h.2.2)
  have HZ := Lib.hid hz
  clear hz HH
  obtain ⟨loz, hloz⟩ : ∃ y, y = (z % 18446744073709551616).toNat := ⟨_, rfl⟩
  obtain ⟨upz, hupz⟩ : ∃ y, y = z / 18446744073709551616 := ⟨_, rfl⟩
  have ez : numV z = .agg #[.int .u64 loz, .int .i64 upz] := by rw [hloz, hupz]; rfl
  have HEZ := Lib.hid ez
  rw [ez]
  clear ez hloz hupz
  have hkB := hkA.trans hk2
  have hb2 := hkB.blk HENV.out.2.2.2 (fun h => h)
  go_wp2_with fail
  refine wpD_pure 7 (v := .agg #[.int .u64 loz, .int .i64 upz]) (by kernel_rfl) rfl rfl (fun _ _ _ h => h) (fun w' => by go_simp) ?_
  go_simp
  rcases her with rfl | ⟨ea, rfl⟩
  · refine wpD_pure 8 (v := .nilIface) (by kernel_rfl) rfl rfl (fun _ _ _ h => h) (fun w' => by go_simp) ?_
    go_simp
    have r0 := blk_cell hb2 0
    have r1 := blk_cell hb2 1
    have rf := blk_frozen hb2
    simp only [List.getElem?_toArray, List.getElem?_cons_zero, List.getElem?_cons_succ] at r0 r1
    refine wpD_only 9 (by kernel_rfl) (fun _ => hkB) rfl ?_
    go_wp2_with fail
    refine wpD_only 10 (by kernel_rfl) (fun h => by cases h) rfl ?_
    go_wp2_with fail
    refine wpD_stop (by kernel_rfl) (by kernel_rfl) ?_
    have hkE : Keep (fun _ => False) w ((w2.setCell ⟨w.heap.size + 1 + 1, 0, none⟩ (.int .u64 loz)).setCell ⟨w.heap.size + 1 + 1, 1, none⟩ (.int .i64 upz)) := ((hk0.trans hkB).setCell (.inr (by dsimp only; omega)) _).setCell (.inr (by dsimp only; omega)) _
    have hbE := blk_set (blk_set hb2 0 (.int .u64 loz)) 1 (.int .i64 upz)
    have t0 := blk_cell hbE 0
    have t1 := blk_cell hbE 1
    simp at t0 t1
    have HF := Lib.hid hkE
    clear hkE hbE
    go_wp2_with fail
    exact bodyPost_ret (v := .tuple #[.agg #[.int .u64 loz, .int .i64 upz], .nilIface]) (by simp [results, Tryz.results13, go_sem, t0, t1]) rfl ⟨z, .nilIface, by rw [HEZ.out], HF.out, by simpa using HZ.out⟩
  · refine wpD_pure 8 (v := .iface 140 ea) (by kernel_rfl) rfl rfl (fun _ _ _ h => h) (fun w' => by go_simp) ?_
    go_simp
    have r0 := blk_cell hb2 0
    have r1 := blk_cell hb2 1
    have rf := blk_frozen hb2
    simp only [List.getElem?_toArray, List.getElem?_cons_zero, List.getElem?_cons_succ] at r0 r1
    refine wpD_only 9 (by kernel_rfl) (fun _ => hkB) rfl ?_
    go_wp2_with fail
    refine wpD_only 10 (by kernel_rfl) (fun h => by cases h) rfl ?_
    go_wp2_with fail
    refine wpD_stop (by kernel_rfl) (by kernel_rfl) ?_
    have hkE : Keep (fun _ => False) w ((w2.setCell ⟨w.heap.size + 1 + 1, 0, none⟩ (.int .u64 loz)).setCell ⟨w.heap.size + 1 + 1, 1, none⟩ (.int .i64 upz)) := ((hk0.trans hkB).setCell (.inr (by dsimp only; omega)) _).setCell (.inr (by dsimp only; omega)) _
    have hbE := blk_set (blk_set hb2 0 (.int .u64 loz)) 1 (.int .i64 upz)
    have t0 := blk_cell hbE 0
    have t1 := blk_cell hbE 1
    simp at t0 t1
    have HF := Lib.hid hkE
    clear hkE hbE
    go_wp2_with fail
    exact bodyPost_ret (v := .tuple #[.agg #[.int .u64 loz, .int .i64 upz], .iface 140 ea]) (by simp [results, Tryz.results13, go_sem, t0, t1]) rfl ⟨z, .iface 140 ea, by rw [HEZ.out], HF.out, by simpa using HZ.out⟩
end Go.Proofs.YtamkglgiaiejkaaGreatDoor
