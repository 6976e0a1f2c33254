import Derived.Test.YtamkglgiaiejkaaGreatDoorYx35
import Derived.Test.YtamkglgiaiejkaaGreatDoorYx41
/-! The thin package's rounding of a decimal of 128 bits to a multiple. -/
namespace Go.Proofs.YtamkglgiaiejkaaGreatDoor
open Go.RowKit

set_option maxRecDepth 100000 in
theorem catch12 (p q : Addr) (w : World) : CallsD Tryz.prog 12 #[.pointer (some p), .pointer (some q)] .returning w fun e u' w' => e = .returned (.tuple #[]) ∧ u' = .returning ∧ w' = w := by
  refine callsD_of_wpS Tryz.func12 rfl fun c₀ cs hu => ?_
  apply wpS_seq
  apply wpS_region
  simp [wpOpsS, go_sem, recoverD, hu, Tryz.ntmps12, Exit.thenS]
  refine wpS_cond (t := false) (by simp [Act.eval, Array.replicate]) ?_
  refine wpS_of_wp (wp_skip ?_)
  cases c₀
  simp_all [bodyPostS, results, Tryz.results12]
theorem num_words {lo hi : Nat} (h1 : lo < 18446744073709551616) (h2 : hi < 18446744073709551616) : numV (toI lo hi) = .agg #[.int .u64 lo, .int .i64 (IntKind.i64.wrap hi)] := by
  have e1 : (toI lo hi % 18446744073709551616).toNat = lo := by unfold toI; split <;> omega
  have e2 : toI lo hi / 18446744073709551616 = IntKind.i64.wrap hi := by rw [IntKind.wrap_i64]; unfold toI; split <;> omega
  unfold numV
  rw [e1, e2]
set_option maxRecDepth 100000 in
set_option maxHeartbeats 8000000 in
theorem round4 (lo hi lo2 hi2 : Nat) (hlo : lo < 18446744073709551616) (hhi : hi < 18446744073709551616) (hlo2 : lo2 < 18446744073709551616) (hhi2 : hi2 < 18446744073709551616) (x m mode : Int) (hx : x = toI lo hi) (hmm : m = toI lo2 hi2)
    (hm : 0 < m) (hx9 : x.natAbs < 1000000000000000000000000000000000000) (hm9 : m < 1000000000000000000000000000000000000) (h0 : 0 ≤ mode) (h9 : mode ≤ 9) (p : Nat) (hp1 : 1 ≤ p) (hp38 : p ≤ 38) (hxp : x.natAbs < 10 ^ p)
    (s : Int) (u v : Value) (w : World) (hu : Words2 w u lo hi) (hv : Words2 w v lo2 hi2) (hG : w.cell? ⟨2, 0, none⟩ = some (.int .i64 40)) (hS : Scales w) :
    Calls Tryz.prog 4 #[u, v, .int .i64 p, .int .i64 s, .int .i64 mode] w fun e w' => Keep (fun _ => False) w w' ∧
      (((dueOf x m mode).natAbs < 10 ^ p ∧ ∃ out, e = .returned (.tuple #[out, .bool true]) ∧ Words2 w' out (dueOf x m mode % 18446744073709551616).toNat (dueOf x m mode / 18446744073709551616 % 18446744073709551616).toNat) ∨
       (¬ (dueOf x m mode).natAbs < 10 ^ p ∧ e = .returned (.tuple #[.slice none 0 0, .bool false]))) := by
  have hwp : IntKind.i32.wrap (p : Int) = (p : Int) := by rw [IntKind.wrap_i32]; omega
  have hwm : IntKind.i8.wrap mode = mode := by
    obtain rfl | rfl | rfl | rfl | rfl | rfl | rfl | rfl | rfl | rfl : mode = 0 ∨ mode = 1 ∨ mode = 2 ∨ mode = 3 ∨ mode = 4 ∨ mode = 5 ∨ mode = 6 ∨ mode = 7 ∨ mode = 8 ∨ mode = 9 := by omega
    all_goals rfl
  obtain ⟨s', hws⟩ : ∃ z, IntKind.i32.wrap s = z := ⟨_, rfl⟩
  have H13 := Lib.hid (fun tb w hT hG hS => to13 x m mode hm hx9 hm9 h0 h9 p hp1 hp38 hxp tb s' w hT hG hS)
  rw [hx, hmm, num_words hlo hhi, num_words hlo2 hhi2, ← hx, ← hmm] at H13
  obtain ⟨h', hh'⟩ : ∃ z, IntKind.i64.wrap (hi : Int) = z := ⟨_, rfl⟩
  obtain ⟨h2', hh2'⟩ : ∃ z, IntKind.i64.wrap (hi2 : Int) = z := ⟨_, rfl⟩
  rw [hh', hh2'] at H13
  have H14 := Lib.hid (fun w => new14 h' lo w)
  have H14b := Lib.hid (fun w => new14 h2' lo2 w)
  generalize dueOf x m mode = d at *
  obtain ⟨g, o, c, rfl, u0, u1⟩ := hu
  obtain ⟨g2, o2, c2, rfl, v0, v1⟩ := hv
  have hk0 : Keep (fun _ => False) w ((w.alloc (.cells #[.slice none 0 0] 22)).alloc (.cells #[.bool false] 4)) := ((Keep.refl _ w).alloc _).alloc _
  have b10 : ((w.alloc (.cells #[.slice none 0 0] 22)).alloc (.cells #[.bool false] 4)).heap[w.heap.size]? = some (.cells #[.slice none 0 0] 22 (0, 0)) := blk_alloc (blk_new w _) _
  have b11 := (box2 w (.cells #[.slice none 0 0] 22) (.cells #[.bool false] 4)).1
  replace u0 := hk0.cell u0 (fun h => h)
  replace u1 := hk0.cell u1 (fun h => h)
  replace v0 := hk0.cell v0 (fun h => h)
  replace v1 := hk0.cell v1 (fun h => h)
  have HENV := Lib.hid (And.intro (hk0.cell hG (fun h => h)) (And.intro (hS.keep hk0 (fun h => h)) (And.intro b10 b11)))
  have hlw := blk_lt b11
  clear hlo hhi hlo2 hhi2 hx hmm hm hx9 hm9 h0 h9 hp1 hp38 hxp hG hS b10 b11
  go_enter_defers Tryz.func4, Tryz.ntmps4
  go_upto_region 2 with fail
  generalize (w.alloc (.cells #[.slice none 0 0] 22)).alloc (.cells #[.bool false] 4) = w0 at *
  go_cut [12, 13] from 12 to 41 (fun t12 t13 wx => ∃ (zb : Nat) (lz : Nat) (uz z : Int), t12 = .pointer (some ⟨zb, 0, none⟩) ∧ w.heap.size + 1 < zb ∧ wx.heap[zb]? = some (.cells #[.int .u64 lz, .int .i64 uz] 42 (0, 0)) ∧ numV z = .agg #[.int .u64 lz, .int .i64 uz] ∧ ((d.natAbs < 10 ^ p ∧ z = d ∧ t13 = .nilIface) ∨ (¬ d.natAbs < 10 ^ p ∧ ∃ a, t13 = .iface 140 a)) ∧ Keep (fun _ => False) w0 wx)
  case first =>
    have hkd : Keep (fun _ => False) w0 w0.drew := (Keep.refl _ w0).drew
    refine wp_region_takesC (fun w' => Keep (fun _ => False) w0 w') (by kernel_rfl) ?_
    generalize w0.drew = wd at *
    have hsd := hkd.size
    go_simp
    refine wpC_take 0 (v := .int .i64 p) (by kernel_rfl) rfl rfl (fun _ _ _ h => post_put2 (fn := Tryz.f4) Tryz.results4 _ _ (by decide) (by decide) _ _ _ h) (fun w' hC => by go_simp) ?_
    go_simp
    refine wpC_take 1 (v := .int .i32 p) (by kernel_rfl) rfl rfl (fun _ _ _ h => post_put2 (fn := Tryz.f4) Tryz.results4 _ _ (by decide) (by decide) _ _ _ h) (fun w' hC => by go_simp) ?_
    go_simp
    refine wpC_take 2 (v := .int .i64 s) (by kernel_rfl) rfl rfl (fun _ _ _ h => post_put2 (fn := Tryz.f4) Tryz.results4 _ _ (by decide) (by decide) _ _ _ h) (fun w' hC => by go_simp) ?_
    go_simp
    refine wpC_take 3 (v := .int .i32 s') (by kernel_rfl) rfl rfl (fun _ _ _ h => post_put2 (fn := Tryz.f4) Tryz.results4 _ _ (by decide) (by decide) _ _ _ h) (fun w' hC => by go_simp) ?_
    go_simp
    refine wpC_take 4 (v := .agg #[.int .i32 p, .int .i32 s']) (by kernel_rfl) rfl rfl (fun _ _ _ h => post_put2 (fn := Tryz.f4) Tryz.results4 _ _ (by decide) (by decide) _ _ _ h) (fun w' hC => by go_simp) ?_
    go_simp
    refine wpC_take 6 (v := (.slice (some ⟨g, o, none⟩) 2 c)) (by kernel_rfl) rfl rfl (fun _ _ _ h => post_put2 (fn := Tryz.f4) Tryz.results4 _ _ (by decide) (by decide) _ _ _ h) (fun w' hC => by go_simp) ?_
    go_simp
    refine wpC_take 7 (v := .pointer (some ⟨g, o + 1, none⟩)) (by kernel_rfl) rfl rfl (fun _ _ _ h => post_put2 (fn := Tryz.f4) Tryz.results4 _ _ (by decide) (by decide) _ _ _ h) (fun w' hC => by go_simp) ?_
    go_simp
    refine wpC_take 8 (v := .int .u64 hi) (by kernel_rfl) rfl rfl (fun _ _ _ h => post_put2 (fn := Tryz.f4) Tryz.results4 _ _ (by decide) (by decide) _ _ _ h) (fun w' hC => by have c0 := (hC).cell u1 (fun h => h); go_simp) ?_
    go_simp
    refine wpC_take 9 (v := .int .i64 h') (by kernel_rfl) rfl rfl (fun _ _ _ h => post_put2 (fn := Tryz.f4) Tryz.results4 _ _ (by decide) (by decide) _ _ _ h) (fun w' hC => by go_simp) ?_
    go_simp
    refine wpC_take 10 (v := (.slice (some ⟨g, o, none⟩) 2 c)) (by kernel_rfl) rfl rfl (fun _ _ _ h => post_put2 (fn := Tryz.f4) Tryz.results4 _ _ (by decide) (by decide) _ _ _ h) (fun w' hC => by go_simp) ?_
    go_simp
    refine wpC_take 11 (v := .pointer (some ⟨g, o, none⟩)) (by kernel_rfl) rfl rfl (fun _ _ _ h => post_put2 (fn := Tryz.f4) Tryz.results4 _ _ (by decide) (by decide) _ _ _ h) (fun w' hC => by go_simp) ?_
    go_simp
    refine wpC_take 12 (v := .int .u64 lo) (by kernel_rfl) rfl rfl (fun _ _ _ h => post_put2 (fn := Tryz.f4) Tryz.results4 _ _ (by decide) (by decide) _ _ _ h) (fun w' hC => by have c0 := (hC).cell u0 (fun h => h); go_simp) ?_
    go_simp
    refine wpC_take 14 (v := (.slice (some ⟨g2, o2, none⟩) 2 c2)) (by kernel_rfl) rfl rfl (fun _ _ _ h => post_put2 (fn := Tryz.f4) Tryz.results4 _ _ (by decide) (by decide) _ _ _ h) (fun w' hC => by go_simp) ?_
    go_simp
    refine wpC_take 15 (v := .pointer (some ⟨g2, o2 + 1, none⟩)) (by kernel_rfl) rfl rfl (fun _ _ _ h => post_put2 (fn := Tryz.f4) Tryz.results4 _ _ (by decide) (by decide) _ _ _ h) (fun w' hC => by go_simp) ?_
    go_simp
    refine wpC_take 16 (v := .int .u64 hi2) (by kernel_rfl) rfl rfl (fun _ _ _ h => post_put2 (fn := Tryz.f4) Tryz.results4 _ _ (by decide) (by decide) _ _ _ h) (fun w' hC => by have c0 := (hC).cell v1 (fun h => h); go_simp) ?_
    go_simp
    refine wpC_take 17 (v := .int .i64 h2') (by kernel_rfl) rfl rfl (fun _ _ _ h => post_put2 (fn := Tryz.f4) Tryz.results4 _ _ (by decide) (by decide) _ _ _ h) (fun w' hC => by go_simp) ?_
    go_simp
    refine wpC_take 18 (v := (.slice (some ⟨g2, o2, none⟩) 2 c2)) (by kernel_rfl) rfl rfl (fun _ _ _ h => post_put2 (fn := Tryz.f4) Tryz.results4 _ _ (by decide) (by decide) _ _ _ h) (fun w' hC => by go_simp) ?_
    go_simp
    refine wpC_take 19 (v := .pointer (some ⟨g2, o2, none⟩)) (by kernel_rfl) rfl rfl (fun _ _ _ h => post_put2 (fn := Tryz.f4) Tryz.results4 _ _ (by decide) (by decide) _ _ _ h) (fun w' hC => by go_simp) ?_
    go_simp
    refine wpC_take 20 (v := .int .u64 lo2) (by kernel_rfl) rfl rfl (fun _ _ _ h => post_put2 (fn := Tryz.f4) Tryz.results4 _ _ (by decide) (by decide) _ _ _ h) (fun w' hC => by have c0 := (hC).cell v0 (fun h => h); go_simp) ?_
    go_simp
    refine wpC_take 22 (v := .int .i64 mode) (by kernel_rfl) rfl rfl (fun _ _ _ h => post_put2 (fn := Tryz.f4) Tryz.results4 _ _ (by decide) (by decide) _ _ _ h) (fun w' hC => by go_simp) ?_
    go_simp
    refine wpC_take 23 (v := .int .i8 mode) (by kernel_rfl) rfl rfl (fun _ _ _ h => post_put2 (fn := Tryz.f4) Tryz.results4 _ _ (by decide) (by decide) _ _ _ h) (fun w' hC => by go_simp) ?_
    go_simp
    refine wpC_three 5 13 28 (by kernel_rfl) hkd rfl rfl rfl ?_ ?_ ?_
    · go_wp2_with fail
      have hk1 := (hkd).alloc (.cells #[.int .i32 p, .int .i32 s'] 49)
      have hb5_1 := blk_new wd (.cells #[.int .i32 p, .int .i32 s'] 49)
      generalize wd.alloc (.cells #[.int .i32 p, .int .i32 s'] 49) = w1 at *
      have hs1 := blk_lt hb5_1
      refine wpC_two 13 28 (by kernel_rfl) hk1 rfl rfl ?_ ?_
      · go_wp2_with fail
        refine (H14.out w1).mono ?_
        rintro e w2 ⟨rfl, hc2⟩
        have hk2 := (hk1).trans hc2
        have hs2 := hc2.size
        have hb5_2 := hc2.blk hb5_1 (fun h => h)
        go_wp2_with fail
        refine wpC_two 21 28 (by kernel_rfl) hk2 rfl rfl ?_ ?_
        · go_wp2_with fail
          refine (H14b.out w2).mono ?_
          rintro e w3 ⟨rfl, hc3⟩
          have hk3 := (hk2).trans hc3
          have hs3 := hc3.size
          have hb5_3 := hc3.blk hb5_2 (fun h => h)
          go_wp2_with fail
          refine wpC_two 24 28 (by kernel_rfl) hk3 rfl rfl ?_ ?_
          · go_wp2_with fail
            refine (H13.out (wd.heap.size) w3 hb5_3 ((hk3).cell HENV.out.1 (fun h => h)) (HENV.out.2.1.keep (hk3) (fun h => h))).mono ?_
            rintro e w4 ⟨z, er, rfl, hc4, hz⟩
            have hk4 := (hk3).trans hc4
            have hs4 := hc4.size
            have hb5_4 := hc4.blk hb5_3 (fun h => h)
            have her : er = .nilIface ∨ ∃ a, er = .iface 140 a := hz.elim (fun h => .inl h.2.2) (fun h => .inr h.2.2)
            have HZ := Lib.hid (show (d.natAbs < 10 ^ p ∧ z = d ∧ er = .nilIface) ∨ (¬ d.natAbs < 10 ^ p ∧ ∃ a, er = .iface 140 a) from hz.imp (fun h => h) (fun h => ⟨h.1, h.2.2⟩))
            clear hz
            obtain ⟨loz, hloz⟩ : ∃ y, y = (z % 18446744073709551616).toNat := ⟨_, rfl⟩
            obtain ⟨upz, hupz⟩ : ∃ y, y = z / 18446744073709551616 := ⟨_, rfl⟩
            have ez : numV z = .agg #[.int .u64 loz, .int .i64 upz] := by rw [hloz, hupz]; rfl
            have HEZ := Lib.hid ez
            rw [ez]
            clear ez hloz hupz
            go_wp2_with fail
            refine wpC_take 25 (v := .tuple #[.agg #[.int .u64 loz, .int .i64 upz], er]) (by kernel_rfl) rfl rfl (fun _ _ _ h => post_put2 (fn := Tryz.f4) Tryz.results4 _ _ (by decide) (by decide) _ _ _ h) (fun w' hC => by go_simp) ?_
            go_simp
            refine wpC_take 26 (v := .agg #[.int .u64 loz, .int .i64 upz]) (by kernel_rfl) rfl rfl (fun _ _ _ h => post_put2 (fn := Tryz.f4) Tryz.results4 _ _ (by decide) (by decide) _ _ _ h) (fun w' hC => by go_simp) ?_
            go_simp
            refine wpC_take 27 (v := er) (by kernel_rfl) rfl rfl (fun _ _ _ h => post_put2 (fn := Tryz.f4) Tryz.results4 _ _ (by decide) (by decide) _ _ _ h) (fun w' hC => by go_simp) ?_
            go_simp
            refine wpC_only 28 (by kernel_rfl) hk4 rfl ?_
            go_wp2_with fail
            have hk5 := (hk4).alloc (.cells #[.int .u64 0, .int .i64 0] 42)
            have hb28_5 := blk_new w4 (.cells #[.int .u64 0, .int .i64 0] 42)
            have hb5_5 := blk_alloc hb5_4 (.cells #[.int .u64 0, .int .i64 0] 42)
            generalize w4.alloc (.cells #[.int .u64 0, .int .i64 0] 42) = w5 at *
            have hs5 := blk_lt hb28_5
            have z0 := blk_cell hb28_5 0
            have z1 := blk_cell hb28_5 1
            have zf := blk_frozen hb28_5
            simp only [List.getElem?_toArray, List.getElem?_cons_zero, List.getElem?_cons_succ] at z0 z1
            refine wpC_only 29 (by kernel_rfl) hk5 rfl ?_
            go_wp2_with fail
            have hkE : Keep (fun _ => False) w0 ((w5.setCell ⟨w4.heap.size, 0, none⟩ (.int .u64 loz)).setCell ⟨w4.heap.size, 1, none⟩ (.int .i64 upz)) := ((hk5).setCell (.inr (by dsimp only; omega)) _).setCell (.inr (by dsimp only; omega)) _
            have hzE : ((w5.setCell ⟨w4.heap.size, 0, none⟩ (.int .u64 loz)).setCell ⟨w4.heap.size, 1, none⟩ (.int .i64 upz)).heap[w4.heap.size]? = some (.cells #[.int .u64 loz, .int .i64 upz] 42 (0, 0)) := blk_set (blk_set hb28_5 0 (.int .u64 loz)) 1 (.int .i64 upz)
            refine wpC_only 30 (by kernel_rfl) hkE rfl ?_
            go_wp2_with fail
            refine wpC_stop (by kernel_rfl) hkE ?_
            go_wp2_with fail
            go_meet
            exact ⟨_, _, _, z, rfl, by omega, hzE, HEZ.out, HZ.out, hkE⟩
          · go_wp2_with fail
            have hk6 := (hk3).alloc (.cells #[.int .u64 0, .int .i64 0] 42)
            have hb28_6 := blk_new w3 (.cells #[.int .u64 0, .int .i64 0] 42)
            have hb5_6 := blk_alloc hb5_3 (.cells #[.int .u64 0, .int .i64 0] 42)
            generalize w3.alloc (.cells #[.int .u64 0, .int .i64 0] 42) = w6 at *
            have hs6 := blk_lt hb28_6
            refine wpC_only 24 (by kernel_rfl) hk6 rfl ?_
            go_wp2_with fail
            refine (H13.out (wd.heap.size) w6 hb5_6 ((hk6).cell HENV.out.1 (fun h => h)) (HENV.out.2.1.keep (hk6) (fun h => h))).mono ?_
            rintro e w7 ⟨z, er, rfl, hc7, hz⟩
            have hk7 := (hk6).trans hc7
            have hs7 := hc7.size
            have hb5_7 := hc7.blk hb5_6 (fun h => h)
            have hb28_7 := hc7.blk hb28_6 (fun h => h)
            have her : er = .nilIface ∨ ∃ a, er = .iface 140 a := hz.elim (fun h => .inl h.2.2) (fun h => .inr h.2.2)
            have HZ := Lib.hid (show (d.natAbs < 10 ^ p ∧ z = d ∧ er = .nilIface) ∨ (¬ d.natAbs < 10 ^ p ∧ ∃ a, er = .iface 140 a) from hz.imp (fun h => h) (fun h => ⟨h.1, h.2.2⟩))
            clear hz
            obtain ⟨loz, hloz⟩ : ∃ y, y = (z % 18446744073709551616).toNat := ⟨_, rfl⟩
            obtain ⟨upz, hupz⟩ : ∃ y, y = z / 18446744073709551616 := ⟨_, rfl⟩
            have ez : numV z = .agg #[.int .u64 loz, .int .i64 upz] := by rw [hloz, hupz]; rfl
            have HEZ := Lib.hid ez
            rw [ez]
            clear ez hloz hupz
            go_wp2_with fail
            refine wpC_take 25 (v := .tuple #[.agg #[.int .u64 loz, .int .i64 upz], er]) (by kernel_rfl) rfl rfl (fun _ _ _ h => post_put2 (fn := Tryz.f4) Tryz.results4 _ _ (by decide) (by decide) _ _ _ h) (fun w' hC => by go_simp) ?_
            go_simp
            refine wpC_take 26 (v := .agg #[.int .u64 loz, .int .i64 upz]) (by kernel_rfl) rfl rfl (fun _ _ _ h => post_put2 (fn := Tryz.f4) Tryz.results4 _ _ (by decide) (by decide) _ _ _ h) (fun w' hC => by go_simp) ?_
            go_simp
            refine wpC_take 27 (v := er) (by kernel_rfl) rfl rfl (fun _ _ _ h => post_put2 (fn := Tryz.f4) Tryz.results4 _ _ (by decide) (by decide) _ _ _ h) (fun w' hC => by go_simp) ?_
            go_simp
            have z0 := blk_cell hb28_7 0
            have z1 := blk_cell hb28_7 1
            have zf := blk_frozen hb28_7
            simp only [List.getElem?_toArray, List.getElem?_cons_zero, List.getElem?_cons_succ] at z0 z1
            refine wpC_only 29 (by kernel_rfl) hk7 rfl ?_
            go_wp2_with fail
            have hkE : Keep (fun _ => False) w0 ((w7.setCell ⟨w3.heap.size, 0, none⟩ (.int .u64 loz)).setCell ⟨w3.heap.size, 1, none⟩ (.int .i64 upz)) := ((hk7).setCell (.inr (by dsimp only; omega)) _).setCell (.inr (by dsimp only; omega)) _
            have hzE : ((w7.setCell ⟨w3.heap.size, 0, none⟩ (.int .u64 loz)).setCell ⟨w3.heap.size, 1, none⟩ (.int .i64 upz)).heap[w3.heap.size]? = some (.cells #[.int .u64 loz, .int .i64 upz] 42 (0, 0)) := blk_set (blk_set hb28_7 0 (.int .u64 loz)) 1 (.int .i64 upz)
            refine wpC_only 30 (by kernel_rfl) hkE rfl ?_
            go_wp2_with fail
            refine wpC_stop (by kernel_rfl) hkE ?_
            go_wp2_with fail
            go_meet
            exact ⟨_, _, _, z, rfl, by omega, hzE, HEZ.out, HZ.out, hkE⟩
        · go_wp2_with fail
          have hk8 := (hk2).alloc (.cells #[.int .u64 0, .int .i64 0] 42)
          have hb28_8 := blk_new w2 (.cells #[.int .u64 0, .int .i64 0] 42)
          have hb5_8 := blk_alloc hb5_2 (.cells #[.int .u64 0, .int .i64 0] 42)
          generalize w2.alloc (.cells #[.int .u64 0, .int .i64 0] 42) = w8 at *
          have hs8 := blk_lt hb28_8
          refine wpC_only 21 (by kernel_rfl) hk8 rfl ?_
          go_wp2_with fail
          refine (H14b.out w8).mono ?_
          rintro e w9 ⟨rfl, hc9⟩
          have hk9 := (hk8).trans hc9
          have hs9 := hc9.size
          have hb5_9 := hc9.blk hb5_8 (fun h => h)
          have hb28_9 := hc9.blk hb28_8 (fun h => h)
          go_wp2_with fail
          refine wpC_only 24 (by kernel_rfl) hk9 rfl ?_
          go_wp2_with fail
          refine (H13.out (wd.heap.size) w9 hb5_9 ((hk9).cell HENV.out.1 (fun h => h)) (HENV.out.2.1.keep (hk9) (fun h => h))).mono ?_
          rintro e w10 ⟨z, er, rfl, hc10, hz⟩
          have hk10 := (hk9).trans hc10
          have hs10 := hc10.size
          have hb5_10 := hc10.blk hb5_9 (fun h => h)
          have hb28_10 := hc10.blk hb28_9 (fun h => h)
          have her : er = .nilIface ∨ ∃ a, er = .iface 140 a := hz.elim (fun h => .inl h.2.2) (fun h => .inr h.2.2)
          have HZ := Lib.hid (show (d.natAbs < 10 ^ p ∧ z = d ∧ er = .nilIface) ∨ (¬ d.natAbs < 10 ^ p ∧ ∃ a, er = .iface 140 a) from hz.imp (fun h => h) (fun h => ⟨h.1, h.2.2⟩))
          clear hz
          obtain ⟨loz, hloz⟩ : ∃ y, y = (z % 18446744073709551616).toNat := ⟨_, rfl⟩
          obtain ⟨upz, hupz⟩ : ∃ y, y = z / 18446744073709551616 := ⟨_, rfl⟩
          have ez : numV z = .agg #[.int .u64 loz, .int .i64 upz] := by rw [hloz, hupz]; rfl
          have HEZ := Lib.hid ez
          rw [ez]
          clear ez hloz hupz
          go_wp2_with fail
          refine wpC_take 25 (v := .tuple #[.agg #[.int .u64 loz, .int .i64 upz], er]) (by kernel_rfl) rfl rfl (fun _ _ _ h => post_put2 (fn := Tryz.f4) Tryz.results4 _ _ (by decide) (by decide) _ _ _ h) (fun w' hC => by go_simp) ?_
          go_simp
          refine wpC_take 26 (v := .agg #[.int .u64 loz, .int .i64 upz]) (by kernel_rfl) rfl rfl (fun _ _ _ h => post_put2 (fn := Tryz.f4) Tryz.results4 _ _ (by decide) (by decide) _ _ _ h) (fun w' hC => by go_simp) ?_
          go_simp
          refine wpC_take 27 (v := er) (by kernel_rfl) rfl rfl (fun _ _ _ h => post_put2 (fn := Tryz.f4) Tryz.results4 _ _ (by decide) (by decide) _ _ _ h) (fun w' hC => by go_simp) ?_
          go_simp
          have z0 := blk_cell hb28_10 0
          have z1 := blk_cell hb28_10 1
          have zf := blk_frozen hb28_10
          simp only [List.getElem?_toArray, List.getElem?_cons_zero, List.getElem?_cons_succ] at z0 z1
          refine wpC_only 29 (by kernel_rfl) hk10 rfl ?_
          go_wp2_with fail
          have hkE : Keep (fun _ => False) w0 ((w10.setCell ⟨w2.heap.size, 0, none⟩ (.int .u64 loz)).setCell ⟨w2.heap.size, 1, none⟩ (.int .i64 upz)) := ((hk10).setCell (.inr (by dsimp only; omega)) _).setCell (.inr (by dsimp only; omega)) _
          have hzE : ((w10.setCell ⟨w2.heap.size, 0, none⟩ (.int .u64 loz)).setCell ⟨w2.heap.size, 1, none⟩ (.int .i64 upz)).heap[w2.heap.size]? = some (.cells #[.int .u64 loz, .int .i64 upz] 42 (0, 0)) := blk_set (blk_set hb28_10 0 (.int .u64 loz)) 1 (.int .i64 upz)
          refine wpC_only 30 (by kernel_rfl) hkE rfl ?_
          go_wp2_with fail
          refine wpC_stop (by kernel_rfl) hkE ?_
          go_wp2_with fail
          go_meet
          exact ⟨_, _, _, z, rfl, by omega, hzE, HEZ.out, HZ.out, hkE⟩
      · go_wp2_with fail
        have hk11 := (hk1).alloc (.cells #[.int .u64 0, .int .i64 0] 42)
        have hb28_11 := blk_new w1 (.cells #[.int .u64 0, .int .i64 0] 42)
        have hb5_11 := blk_alloc hb5_1 (.cells #[.int .u64 0, .int .i64 0] 42)
        generalize w1.alloc (.cells #[.int .u64 0, .int .i64 0] 42) = w11 at *
        have hs11 := blk_lt hb28_11
        refine wpC_only 13 (by kernel_rfl) hk11 rfl ?_
        go_wp2_with fail
        refine (H14.out w11).mono ?_
        rintro e w12 ⟨rfl, hc12⟩
        have hk12 := (hk11).trans hc12
        have hs12 := hc12.size
        have hb5_12 := hc12.blk hb5_11 (fun h => h)
        have hb28_12 := hc12.blk hb28_11 (fun h => h)
        go_wp2_with fail
        refine wpC_only 21 (by kernel_rfl) hk12 rfl ?_
        go_wp2_with fail
        refine (H14b.out w12).mono ?_
        rintro e w13 ⟨rfl, hc13⟩
        have hk13 := (hk12).trans hc13
        have hs13 := hc13.size
        have hb5_13 := hc13.blk hb5_12 (fun h => h)
        have hb28_13 := hc13.blk hb28_12 (fun h => h)
        go_wp2_with fail
        refine wpC_only 24 (by kernel_rfl) hk13 rfl ?_
        go_wp2_with fail
        refine (H13.out (wd.heap.size) w13 hb5_13 ((hk13).cell HENV.out.1 (fun h => h)) (HENV.out.2.1.keep (hk13) (fun h => h))).mono ?_
        rintro e w14 ⟨z, er, rfl, hc14, hz⟩
        have hk14 := (hk13).trans hc14
        have hs14 := hc14.size
        have hb5_14 := hc14.blk hb5_13 (fun h => h)
        have hb28_14 := hc14.blk hb28_13 (fun h => h)
        have her : er = .nilIface ∨ ∃ a, er = .iface 140 a := hz.elim (fun h => .inl h.2.2) (fun h => .inr h.2.2)
        have HZ := Lib.hid (show (d.natAbs < 10 ^ p ∧ z = d ∧ er = .nilIface) ∨ (¬ d.natAbs < 10 ^ p ∧ ∃ a, er = .iface 140 a) from hz.imp (fun h => h) (fun h => ⟨h.1, h.2.2⟩))
        clear hz
        obtain ⟨loz, hloz⟩ : ∃ y, y = (z % 18446744073709551616).toNat := ⟨_, rfl⟩
        obtain ⟨upz, hupz⟩ : ∃ y, y = z / 18446744073709551616 := ⟨_, rfl⟩
        have ez : numV z = .agg #[.int .u64 loz, .int .i64 upz] := by rw [hloz, hupz]; rfl
        have HEZ := Lib.hid ez
        rw [ez]
        clear ez hloz hupz
        go_wp2_with fail
        refine wpC_take 25 (v := .tuple #[.agg #[.int .u64 loz, .int .i64 upz], er]) (by kernel_rfl) rfl rfl (fun _ _ _ h => post_put2 (fn := Tryz.f4) Tryz.results4 _ _ (by decide) (by decide) _ _ _ h) (fun w' hC => by go_simp) ?_
        go_simp
        refine wpC_take 26 (v := .agg #[.int .u64 loz, .int .i64 upz]) (by kernel_rfl) rfl rfl (fun _ _ _ h => post_put2 (fn := Tryz.f4) Tryz.results4 _ _ (by decide) (by decide) _ _ _ h) (fun w' hC => by go_simp) ?_
        go_simp
        refine wpC_take 27 (v := er) (by kernel_rfl) rfl rfl (fun _ _ _ h => post_put2 (fn := Tryz.f4) Tryz.results4 _ _ (by decide) (by decide) _ _ _ h) (fun w' hC => by go_simp) ?_
        go_simp
        have z0 := blk_cell hb28_14 0
        have z1 := blk_cell hb28_14 1
        have zf := blk_frozen hb28_14
        simp only [List.getElem?_toArray, List.getElem?_cons_zero, List.getElem?_cons_succ] at z0 z1
        refine wpC_only 29 (by kernel_rfl) hk14 rfl ?_
        go_wp2_with fail
        have hkE : Keep (fun _ => False) w0 ((w14.setCell ⟨w1.heap.size, 0, none⟩ (.int .u64 loz)).setCell ⟨w1.heap.size, 1, none⟩ (.int .i64 upz)) := ((hk14).setCell (.inr (by dsimp only; omega)) _).setCell (.inr (by dsimp only; omega)) _
        have hzE : ((w14.setCell ⟨w1.heap.size, 0, none⟩ (.int .u64 loz)).setCell ⟨w1.heap.size, 1, none⟩ (.int .i64 upz)).heap[w1.heap.size]? = some (.cells #[.int .u64 loz, .int .i64 upz] 42 (0, 0)) := blk_set (blk_set hb28_14 0 (.int .u64 loz)) 1 (.int .i64 upz)
        refine wpC_only 30 (by kernel_rfl) hkE rfl ?_
        go_wp2_with fail
        refine wpC_stop (by kernel_rfl) hkE ?_
        go_wp2_with fail
        go_meet
        exact ⟨_, _, _, z, rfl, by omega, hzE, HEZ.out, HZ.out, hkE⟩
    · go_wp2_with fail
      refine (H14.out wd).mono ?_
      rintro e w15 ⟨rfl, hc15⟩
      have hk15 := (hkd).trans hc15
      have hs15 := hc15.size
      go_wp2_with fail
      refine wpC_three 5 21 28 (by kernel_rfl) hk15 rfl rfl rfl ?_ ?_ ?_
      · go_wp2_with fail
        have hk16 := (hk15).alloc (.cells #[.int .i32 p, .int .i32 s'] 49)
        have hb5_16 := blk_new w15 (.cells #[.int .i32 p, .int .i32 s'] 49)
        generalize w15.alloc (.cells #[.int .i32 p, .int .i32 s'] 49) = w16 at *
        have hs16 := blk_lt hb5_16
        refine wpC_two 21 28 (by kernel_rfl) hk16 rfl rfl ?_ ?_
        · go_wp2_with fail
          refine (H14b.out w16).mono ?_
          rintro e w17 ⟨rfl, hc17⟩
          have hk17 := (hk16).trans hc17
          have hs17 := hc17.size
          have hb5_17 := hc17.blk hb5_16 (fun h => h)
          go_wp2_with fail
          refine wpC_two 24 28 (by kernel_rfl) hk17 rfl rfl ?_ ?_
          · go_wp2_with fail
            refine (H13.out (w15.heap.size) w17 hb5_17 ((hk17).cell HENV.out.1 (fun h => h)) (HENV.out.2.1.keep (hk17) (fun h => h))).mono ?_
            rintro e w18 ⟨z, er, rfl, hc18, hz⟩
            have hk18 := (hk17).trans hc18
            have hs18 := hc18.size
            have hb5_18 := hc18.blk hb5_17 (fun h => h)
            have her : er = .nilIface ∨ ∃ a, er = .iface 140 a := hz.elim (fun h => .inl h.2.2) (fun h => .inr h.2.2)
            have HZ := Lib.hid (show (d.natAbs < 10 ^ p ∧ z = d ∧ er = .nilIface) ∨ (¬ d.natAbs < 10 ^ p ∧ ∃ a, er = .iface 140 a) from hz.imp (fun h => h) (fun h => ⟨h.1, h.2.2⟩))
            clear hz
            obtain ⟨loz, hloz⟩ : ∃ y, y = (z % 18446744073709551616).toNat := ⟨_, rfl⟩
            obtain ⟨upz, hupz⟩ : ∃ y, y = z / 18446744073709551616 := ⟨_, rfl⟩
            have ez : numV z = .agg #[.int .u64 loz, .int .i64 upz] := by rw [hloz, hupz]; rfl
            have HEZ := Lib.hid ez
            rw [ez]
            clear ez hloz hupz
            go_wp2_with fail
            refine wpC_take 25 (v := .tuple #[.agg #[.int .u64 loz, .int .i64 upz], er]) (by kernel_rfl) rfl rfl (fun _ _ _ h => post_put2 (fn := Tryz.f4) Tryz.results4 _ _ (by decide) (by decide) _ _ _ h) (fun w' hC => by go_simp) ?_
            go_simp
            refine wpC_take 26 (v := .agg #[.int .u64 loz, .int .i64 upz]) (by kernel_rfl) rfl rfl (fun _ _ _ h => post_put2 (fn := Tryz.f4) Tryz.results4 _ _ (by decide) (by decide) _ _ _ h) (fun w' hC => by go_simp) ?_
            go_simp
            refine wpC_take 27 (v := er) (by kernel_rfl) rfl rfl (fun _ _ _ h => post_put2 (fn := Tryz.f4) Tryz.results4 _ _ (by decide) (by decide) _ _ _ h) (fun w' hC => by go_simp) ?_
            go_simp
            refine wpC_only 28 (by kernel_rfl) hk18 rfl ?_
            go_wp2_with fail
            have hk19 := (hk18).alloc (.cells #[.int .u64 0, .int .i64 0] 42)
            have hb28_19 := blk_new w18 (.cells #[.int .u64 0, .int .i64 0] 42)
            have hb5_19 := blk_alloc hb5_18 (.cells #[.int .u64 0, .int .i64 0] 42)
            generalize w18.alloc (.cells #[.int .u64 0, .int .i64 0] 42) = w19 at *
            have hs19 := blk_lt hb28_19
            have z0 := blk_cell hb28_19 0
            have z1 := blk_cell hb28_19 1
            have zf := blk_frozen hb28_19
            simp only [List.getElem?_toArray, List.getElem?_cons_zero, List.getElem?_cons_succ] at z0 z1
            refine wpC_only 29 (by kernel_rfl) hk19 rfl ?_
            go_wp2_with fail
            have hkE : Keep (fun _ => False) w0 ((w19.setCell ⟨w18.heap.size, 0, none⟩ (.int .u64 loz)).setCell ⟨w18.heap.size, 1, none⟩ (.int .i64 upz)) := ((hk19).setCell (.inr (by dsimp only; omega)) _).setCell (.inr (by dsimp only; omega)) _
            have hzE : ((w19.setCell ⟨w18.heap.size, 0, none⟩ (.int .u64 loz)).setCell ⟨w18.heap.size, 1, none⟩ (.int .i64 upz)).heap[w18.heap.size]? = some (.cells #[.int .u64 loz, .int .i64 upz] 42 (0, 0)) := blk_set (blk_set hb28_19 0 (.int .u64 loz)) 1 (.int .i64 upz)
            refine wpC_only 30 (by kernel_rfl) hkE rfl ?_
            go_wp2_with fail
            refine wpC_stop (by kernel_rfl) hkE ?_
            go_wp2_with fail
            go_meet
            exact ⟨_, _, _, z, rfl, by omega, hzE, HEZ.out, HZ.out, hkE⟩
          · go_wp2_with fail
            have hk20 := (hk17).alloc (.cells #[.int .u64 0, .int .i64 0] 42)
            have hb28_20 := blk_new w17 (.cells #[.int .u64 0, .int .i64 0] 42)
            have hb5_20 := blk_alloc hb5_17 (.cells #[.int .u64 0, .int .i64 0] 42)
            generalize w17.alloc (.cells #[.int .u64 0, .int .i64 0] 42) = w20 at *
            have hs20 := blk_lt hb28_20
            refine wpC_only 24 (by kernel_rfl) hk20 rfl ?_
            go_wp2_with fail
            refine (H13.out (w15.heap.size) w20 hb5_20 ((hk20).cell HENV.out.1 (fun h => h)) (HENV.out.2.1.keep (hk20) (fun h => h))).mono ?_
            rintro e w21 ⟨z, er, rfl, hc21, hz⟩
            have hk21 := (hk20).trans hc21
            have hs21 := hc21.size
            have hb5_21 := hc21.blk hb5_20 (fun h => h)
            have hb28_21 := hc21.blk hb28_20 (fun h => h)
            have her : er = .nilIface ∨ ∃ a, er = .iface 140 a := hz.elim (fun h => .inl h.2.2) (fun h => .inr h.2.2)
            have HZ := Lib.hid (show (d.natAbs < 10 ^ p ∧ z = d ∧ er = .nilIface) ∨ (¬ d.natAbs < 10 ^ p ∧ ∃ a, er = .iface 140 a) from hz.imp (fun h => h) (fun h => ⟨h.1, h.2.2⟩))
            clear hz
            obtain ⟨loz, hloz⟩ : ∃ y, y = (z % 18446744073709551616).toNat := ⟨_, rfl⟩
            obtain ⟨upz, hupz⟩ : ∃ y, y = z / 18446744073709551616 := ⟨_, rfl⟩
            have ez : numV z = .agg #[.int .u64 loz, .int .i64 upz] := by rw [hloz, hupz]; rfl
            have HEZ := Lib.hid ez
            rw [ez]
            clear ez hloz hupz
            go_wp2_with fail
            refine wpC_take 25 (v := .tuple #[.agg #[.int .u64 loz, .int .i64 upz], er]) (by kernel_rfl) rfl rfl (fun _ _ _ h => post_put2 (fn := Tryz.f4) Tryz.results4 _ _ (by decide) (by decide) _ _ _ h) (fun w' hC => by go_simp) ?_
            go_simp
            refine wpC_take 26 (v := .agg #[.int .u64 loz, .int .i64 upz]) (by kernel_rfl) rfl rfl (fun _ _ _ h => post_put2 (fn := Tryz.f4) Tryz.results4 _ _ (by decide) (by decide) _ _ _ h) (fun w' hC => by go_simp) ?_
            go_simp
            refine wpC_take 27 (v := er) (by kernel_rfl) rfl rfl (fun _ _ _ h => post_put2 (fn := Tryz.f4) Tryz.results4 _ _ (by decide) (by decide) _ _ _ h) (fun w' hC => by go_simp) ?_
            go_simp
            have z0 := blk_cell hb28_21 0
            have z1 := blk_cell hb28_21 1
            have zf := blk_frozen hb28_21
            simp only [List.getElem?_toArray, List.getElem?_cons_zero, List.getElem?_cons_succ] at z0 z1
            refine wpC_only 29 (by kernel_rfl) hk21 rfl ?_
            go_wp2_with fail
            have hkE : Keep (fun _ => False) w0 ((w21.setCell ⟨w17.heap.size, 0, none⟩ (.int .u64 loz)).setCell ⟨w17.heap.size, 1, none⟩ (.int .i64 upz)) := ((hk21).setCell (.inr (by dsimp only; omega)) _).setCell (.inr (by dsimp only; omega)) _
            have hzE : ((w21.setCell ⟨w17.heap.size, 0, none⟩ (.int .u64 loz)).setCell ⟨w17.heap.size, 1, none⟩ (.int .i64 upz)).heap[w17.heap.size]? = some (.cells #[.int .u64 loz, .int .i64 upz] 42 (0, 0)) := blk_set (blk_set hb28_21 0 (.int .u64 loz)) 1 (.int .i64 upz)
            refine wpC_only 30 (by kernel_rfl) hkE rfl ?_
            go_wp2_with fail
            refine wpC_stop (by kernel_rfl) hkE ?_
            go_wp2_with fail
            go_meet
            exact ⟨_, _, _, z, rfl, by omega, hzE, HEZ.out, HZ.out, hkE⟩
        · go_wp2_with fail
          have hk22 := (hk16).alloc (.cells #[.int .u64 0, .int .i64 0] 42)
          have hb28_22 := blk_new w16 (.cells #[.int .u64 0, .int .i64 0] 42)
          have hb5_22 := blk_alloc hb5_16 (.cells #[.int .u64 0, .int .i64 0] 42)
          generalize w16.alloc (.cells #[.int .u64 0, .int .i64 0] 42) = w22 at *
          have hs22 := blk_lt hb28_22
          refine wpC_only 21 (by kernel_rfl) hk22 rfl ?_
          go_wp2_with fail
          refine (H14b.out w22).mono ?_
          rintro e w23 ⟨rfl, hc23⟩
          have hk23 := (hk22).trans hc23
          have hs23 := hc23.size
          have hb5_23 := hc23.blk hb5_22 (fun h => h)
          have hb28_23 := hc23.blk hb28_22 (fun h => h)
          go_wp2_with fail
          refine wpC_only 24 (by kernel_rfl) hk23 rfl ?_
          go_wp2_with fail
          refine (H13.out (w15.heap.size) w23 hb5_23 ((hk23).cell HENV.out.1 (fun h => h)) (HENV.out.2.1.keep (hk23) (fun h => h))).mono ?_
          rintro e w24 ⟨z, er, rfl, hc24, hz⟩
          have hk24 := (hk23).trans hc24
          have hs24 := hc24.size
          have hb5_24 := hc24.blk hb5_23 (fun h => h)
          have hb28_24 := hc24.blk hb28_23 (fun h => h)
          have her : er = .nilIface ∨ ∃ a, er = .iface 140 a := hz.elim (fun h => .inl h.2.2) (fun h => .inr h.2.2)
          have HZ := Lib.hid (show (d.natAbs < 10 ^ p ∧ z = d ∧ er = .nilIface) ∨ (¬ d.natAbs < 10 ^ p ∧ ∃ a, er = .iface 140 a) from hz.imp (fun h => h) (fun h => ⟨h.1, h.2.2⟩))
          clear hz
          obtain ⟨loz, hloz⟩ : ∃ y, y = (z % 18446744073709551616).toNat := ⟨_, rfl⟩
          obtain ⟨upz, hupz⟩ : ∃ y, y = z / 18446744073709551616 := ⟨_, rfl⟩
          have ez : numV z = .agg #[.int .u64 loz, .int .i64 upz] := by rw [hloz, hupz]; rfl
          have HEZ := Lib.hid ez
          rw [ez]
          clear ez hloz hupz
          go_wp2_with fail
          refine wpC_take 25 (v := .tuple #[.agg #[.int .u64 loz, .int .i64 upz], er]) (by kernel_rfl) rfl rfl (fun _ _ _ h => post_put2 (fn := Tryz.f4) Tryz.results4 _ _ (by decide) (by decide) _ _ _ h) (fun w' hC => by go_simp) ?_
          go_simp
          refine wpC_take 26 (v := .agg #[.int .u64 loz, .int .i64 upz]) (by kernel_rfl) rfl rfl (fun _ _ _ h => post_put2 (fn := Tryz.f4) Tryz.results4 _ _ (by decide) (by decide) _ _ _ h) (fun w' hC => by go_simp) ?_
          go_simp
          refine wpC_take 27 (v := er) (by kernel_rfl) rfl rfl (fun _ _ _ h => post_put2 (fn := Tryz.f4) Tryz.results4 _ _ (by decide) (by decide) _ _ _ h) (fun w' hC => by go_simp) ?_
          go_simp
          have z0 := blk_cell hb28_24 0
          have z1 := blk_cell hb28_24 1
          have zf := blk_frozen hb28_24
          simp only [List.getElem?_toArray, List.getElem?_cons_zero, List.getElem?_cons_succ] at z0 z1
          refine wpC_only 29 (by kernel_rfl) hk24 rfl ?_
          go_wp2_with fail
          have hkE : Keep (fun _ => False) w0 ((w24.setCell ⟨w16.heap.size, 0, none⟩ (.int .u64 loz)).setCell ⟨w16.heap.size, 1, none⟩ (.int .i64 upz)) := ((hk24).setCell (.inr (by dsimp only; omega)) _).setCell (.inr (by dsimp only; omega)) _
          have hzE : ((w24.setCell ⟨w16.heap.size, 0, none⟩ (.int .u64 loz)).setCell ⟨w16.heap.size, 1, none⟩ (.int .i64 upz)).heap[w16.heap.size]? = some (.cells #[.int .u64 loz, .int .i64 upz] 42 (0, 0)) := blk_set (blk_set hb28_24 0 (.int .u64 loz)) 1 (.int .i64 upz)
          refine wpC_only 30 (by kernel_rfl) hkE rfl ?_
          go_wp2_with fail
          refine wpC_stop (by kernel_rfl) hkE ?_
          go_wp2_with fail
          go_meet
          exact ⟨_, _, _, z, rfl, by omega, hzE, HEZ.out, HZ.out, hkE⟩
      · go_wp2_with fail
        refine (H14b.out w15).mono ?_
        rintro e w25 ⟨rfl, hc25⟩
        have hk25 := (hk15).trans hc25
        have hs25 := hc25.size
        go_wp2_with fail
        refine wpC_two 5 28 (by kernel_rfl) hk25 rfl rfl ?_ ?_
        · go_wp2_with fail
          have hk26 := (hk25).alloc (.cells #[.int .i32 p, .int .i32 s'] 49)
          have hb5_26 := blk_new w25 (.cells #[.int .i32 p, .int .i32 s'] 49)
          generalize w25.alloc (.cells #[.int .i32 p, .int .i32 s'] 49) = w26 at *
          have hs26 := blk_lt hb5_26
          refine wpC_two 24 28 (by kernel_rfl) hk26 rfl rfl ?_ ?_
          · go_wp2_with fail
            refine (H13.out (w25.heap.size) w26 hb5_26 ((hk26).cell HENV.out.1 (fun h => h)) (HENV.out.2.1.keep (hk26) (fun h => h))).mono ?_
            rintro e w27 ⟨z, er, rfl, hc27, hz⟩
            have hk27 := (hk26).trans hc27
            have hs27 := hc27.size
            have hb5_27 := hc27.blk hb5_26 (fun h => h)
            have her : er = .nilIface ∨ ∃ a, er = .iface 140 a := hz.elim (fun h => .inl h.2.2) (fun h => .inr h.2.2)
            have HZ := Lib.hid (show (d.natAbs < 10 ^ p ∧ z = d ∧ er = .nilIface) ∨ (¬ d.natAbs < 10 ^ p ∧ ∃ a, er = .iface 140 a) from hz.imp (fun h => h) (fun h => ⟨h.1, h.2.2⟩))
            clear hz
            obtain ⟨loz, hloz⟩ : ∃ y, y = (z % 18446744073709551616).toNat := ⟨_, rfl⟩
            obtain ⟨upz, hupz⟩ : ∃ y, y = z / 18446744073709551616 := ⟨_, rfl⟩
            have ez : numV z = .agg #[.int .u64 loz, .int .i64 upz] := by rw [hloz, hupz]; rfl
            have HEZ := Lib.hid ez
            rw [ez]
            clear ez hloz hupz
            go_wp2_with fail
            refine wpC_take 25 (v := .tuple #[.agg #[.int .u64 loz, .int .i64 upz], er]) (by kernel_rfl) rfl rfl (fun _ _ _ h => post_put2 (fn := Tryz.f4) Tryz.results4 _ _ (by decide) (by decide) _ _ _ h) (fun w' hC => by go_simp) ?_
            go_simp
            refine wpC_take 26 (v := .agg #[.int .u64 loz, .int .i64 upz]) (by kernel_rfl) rfl rfl (fun _ _ _ h => post_put2 (fn := Tryz.f4) Tryz.results4 _ _ (by decide) (by decide) _ _ _ h) (fun w' hC => by go_simp) ?_
            go_simp
            refine wpC_take 27 (v := er) (by kernel_rfl) rfl rfl (fun _ _ _ h => post_put2 (fn := Tryz.f4) Tryz.results4 _ _ (by decide) (by decide) _ _ _ h) (fun w' hC => by go_simp) ?_
            go_simp
            refine wpC_only 28 (by kernel_rfl) hk27 rfl ?_
            go_wp2_with fail
            have hk28 := (hk27).alloc (.cells #[.int .u64 0, .int .i64 0] 42)
            have hb28_28 := blk_new w27 (.cells #[.int .u64 0, .int .i64 0] 42)
            have hb5_28 := blk_alloc hb5_27 (.cells #[.int .u64 0, .int .i64 0] 42)
            generalize w27.alloc (.cells #[.int .u64 0, .int .i64 0] 42) = w28 at *
            have hs28 := blk_lt hb28_28
            have z0 := blk_cell hb28_28 0
            have z1 := blk_cell hb28_28 1
            have zf := blk_frozen hb28_28
            simp only [List.getElem?_toArray, List.getElem?_cons_zero, List.getElem?_cons_succ] at z0 z1
            refine wpC_only 29 (by kernel_rfl) hk28 rfl ?_
            go_wp2_with fail
            have hkE : Keep (fun _ => False) w0 ((w28.setCell ⟨w27.heap.size, 0, none⟩ (.int .u64 loz)).setCell ⟨w27.heap.size, 1, none⟩ (.int .i64 upz)) := ((hk28).setCell (.inr (by dsimp only; omega)) _).setCell (.inr (by dsimp only; omega)) _
            have hzE : ((w28.setCell ⟨w27.heap.size, 0, none⟩ (.int .u64 loz)).setCell ⟨w27.heap.size, 1, none⟩ (.int .i64 upz)).heap[w27.heap.size]? = some (.cells #[.int .u64 loz, .int .i64 upz] 42 (0, 0)) := blk_set (blk_set hb28_28 0 (.int .u64 loz)) 1 (.int .i64 upz)
            refine wpC_only 30 (by kernel_rfl) hkE rfl ?_
            go_wp2_with fail
            refine wpC_stop (by kernel_rfl) hkE ?_
            go_wp2_with fail
            go_meet
            exact ⟨_, _, _, z, rfl, by omega, hzE, HEZ.out, HZ.out, hkE⟩
          · go_wp2_with fail
            have hk29 := (hk26).alloc (.cells #[.int .u64 0, .int .i64 0] 42)
            have hb28_29 := blk_new w26 (.cells #[.int .u64 0, .int .i64 0] 42)
            have hb5_29 := blk_alloc hb5_26 (.cells #[.int .u64 0, .int .i64 0] 42)
            generalize w26.alloc (.cells #[.int .u64 0, .int .i64 0] 42) = w29 at *
            have hs29 := blk_lt hb28_29
            refine wpC_only 24 (by kernel_rfl) hk29 rfl ?_
            go_wp2_with fail
            refine (H13.out (w25.heap.size) w29 hb5_29 ((hk29).cell HENV.out.1 (fun h => h)) (HENV.out.2.1.keep (hk29) (fun h => h))).mono ?_
            rintro e w30 ⟨z, er, rfl, hc30, hz⟩
            have hk30 := (hk29).trans hc30
            have hs30 := hc30.size
            have hb5_30 := hc30.blk hb5_29 (fun h => h)
            have hb28_30 := hc30.blk hb28_29 (fun h => h)
            have her : er = .nilIface ∨ ∃ a, er = .iface 140 a := hz.elim (fun h => .inl h.2.2) (fun h => .inr h.2.2)
            have HZ := Lib.hid (show (d.natAbs < 10 ^ p ∧ z = d ∧ er = .nilIface) ∨ (¬ d.natAbs < 10 ^ p ∧ ∃ a, er = .iface 140 a) from hz.imp (fun h => h) (fun h => ⟨h.1, h.2.2⟩))
            clear hz
            obtain ⟨loz, hloz⟩ : ∃ y, y = (z % 18446744073709551616).toNat := ⟨_, rfl⟩
            obtain ⟨upz, hupz⟩ : ∃ y, y = z / 18446744073709551616 := ⟨_, rfl⟩
            have ez : numV z = .agg #[.int .u64 loz, .int .i64 upz] := by rw [hloz, hupz]; rfl
            have HEZ := Lib.hid ez
            rw [ez]
            clear ez hloz hupz
            go_wp2_with fail
            refine wpC_take 25 (v := .tuple #[.agg #[.int .u64 loz, .int .i64 upz], er]) (by kernel_rfl) rfl rfl (fun _ _ _ h => post_put2 (fn := Tryz.f4) Tryz.results4 _ _ (by decide) (by decide) _ _ _ h) (fun w' hC => by go_simp) ?_
            go_simp
            refine wpC_take 26 (v := .agg #[.int .u64 loz, .int .i64 upz]) (by kernel_rfl) rfl rfl (fun _ _ _ h => post_put2 (fn := Tryz.f4) Tryz.results4 _ _ (by decide) (by decide) _ _ _ h) (fun w' hC => by go_simp) ?_
            go_simp
            refine wpC_take 27 (v := er) (by kernel_rfl) rfl rfl (fun _ _ _ h => post_put2 (fn := Tryz.f4) Tryz.results4 _ _ (by decide) (by decide) _ _ _ h) (fun w' hC => by go_simp) ?_
            go_simp
            have z0 := blk_cell hb28_30 0
            have z1 := blk_cell hb28_30 1
            have zf := blk_frozen hb28_30
            simp only [List.getElem?_toArray, List.getElem?_cons_zero, List.getElem?_cons_succ] at z0 z1
            refine wpC_only 29 (by kernel_rfl) hk30 rfl ?_
            go_wp2_with fail
            have hkE : Keep (fun _ => False) w0 ((w30.setCell ⟨w26.heap.size, 0, none⟩ (.int .u64 loz)).setCell ⟨w26.heap.size, 1, none⟩ (.int .i64 upz)) := ((hk30).setCell (.inr (by dsimp only; omega)) _).setCell (.inr (by dsimp only; omega)) _
            have hzE : ((w30.setCell ⟨w26.heap.size, 0, none⟩ (.int .u64 loz)).setCell ⟨w26.heap.size, 1, none⟩ (.int .i64 upz)).heap[w26.heap.size]? = some (.cells #[.int .u64 loz, .int .i64 upz] 42 (0, 0)) := blk_set (blk_set hb28_30 0 (.int .u64 loz)) 1 (.int .i64 upz)
            refine wpC_only 30 (by kernel_rfl) hkE rfl ?_
            go_wp2_with fail
            refine wpC_stop (by kernel_rfl) hkE ?_
            go_wp2_with fail
            go_meet
            exact ⟨_, _, _, z, rfl, by omega, hzE, HEZ.out, HZ.out, hkE⟩
        · go_wp2_with fail
          have hk31 := (hk25).alloc (.cells #[.int .u64 0, .int .i64 0] 42)
          have hb28_31 := blk_new w25 (.cells #[.int .u64 0, .int .i64 0] 42)
          generalize w25.alloc (.cells #[.int .u64 0, .int .i64 0] 42) = w31 at *
          have hs31 := blk_lt hb28_31
          refine wpC_only 5 (by kernel_rfl) hk31 rfl ?_
          go_wp2_with fail
          have hk32 := (hk31).alloc (.cells #[.int .i32 p, .int .i32 s'] 49)
          have hb5_32 := blk_new w31 (.cells #[.int .i32 p, .int .i32 s'] 49)
          have hb28_32 := blk_alloc hb28_31 (.cells #[.int .i32 p, .int .i32 s'] 49)
          generalize w31.alloc (.cells #[.int .i32 p, .int .i32 s'] 49) = w32 at *
          have hs32 := blk_lt hb5_32
          refine wpC_only 24 (by kernel_rfl) hk32 rfl ?_
          go_wp2_with fail
          refine (H13.out (w31.heap.size) w32 hb5_32 ((hk32).cell HENV.out.1 (fun h => h)) (HENV.out.2.1.keep (hk32) (fun h => h))).mono ?_
          rintro e w33 ⟨z, er, rfl, hc33, hz⟩
          have hk33 := (hk32).trans hc33
          have hs33 := hc33.size
          have hb28_33 := hc33.blk hb28_32 (fun h => h)
          have hb5_33 := hc33.blk hb5_32 (fun h => h)
          have her : er = .nilIface ∨ ∃ a, er = .iface 140 a := hz.elim (fun h => .inl h.2.2) (fun h => .inr h.2.2)
          have HZ := Lib.hid (show (d.natAbs < 10 ^ p ∧ z = d ∧ er = .nilIface) ∨ (¬ d.natAbs < 10 ^ p ∧ ∃ a, er = .iface 140 a) from hz.imp (fun h => h) (fun h => ⟨h.1, h.2.2⟩))
          clear hz
          obtain ⟨loz, hloz⟩ : ∃ y, y = (z % 18446744073709551616).toNat := ⟨_, rfl⟩
          obtain ⟨upz, hupz⟩ : ∃ y, y = z / 18446744073709551616 := ⟨_, rfl⟩
          have ez : numV z = .agg #[.int .u64 loz, .int .i64 upz] := by rw [hloz, hupz]; rfl
          have HEZ := Lib.hid ez
          rw [ez]
          clear ez hloz hupz
          go_wp2_with fail
          refine wpC_take 25 (v := .tuple #[.agg #[.int .u64 loz, .int .i64 upz], er]) (by kernel_rfl) rfl rfl (fun _ _ _ h => post_put2 (fn := Tryz.f4) Tryz.results4 _ _ (by decide) (by decide) _ _ _ h) (fun w' hC => by go_simp) ?_
          go_simp
          refine wpC_take 26 (v := .agg #[.int .u64 loz, .int .i64 upz]) (by kernel_rfl) rfl rfl (fun _ _ _ h => post_put2 (fn := Tryz.f4) Tryz.results4 _ _ (by decide) (by decide) _ _ _ h) (fun w' hC => by go_simp) ?_
          go_simp
          refine wpC_take 27 (v := er) (by kernel_rfl) rfl rfl (fun _ _ _ h => post_put2 (fn := Tryz.f4) Tryz.results4 _ _ (by decide) (by decide) _ _ _ h) (fun w' hC => by go_simp) ?_
          go_simp
          have z0 := blk_cell hb28_33 0
          have z1 := blk_cell hb28_33 1
          have zf := blk_frozen hb28_33
          simp only [List.getElem?_toArray, List.getElem?_cons_zero, List.getElem?_cons_succ] at z0 z1
          refine wpC_only 29 (by kernel_rfl) hk33 rfl ?_
          go_wp2_with fail
          have hkE : Keep (fun _ => False) w0 ((w33.setCell ⟨w25.heap.size, 0, none⟩ (.int .u64 loz)).setCell ⟨w25.heap.size, 1, none⟩ (.int .i64 upz)) := ((hk33).setCell (.inr (by dsimp only; omega)) _).setCell (.inr (by dsimp only; omega)) _
          have hzE : ((w33.setCell ⟨w25.heap.size, 0, none⟩ (.int .u64 loz)).setCell ⟨w25.heap.size, 1, none⟩ (.int .i64 upz)).heap[w25.heap.size]? = some (.cells #[.int .u64 loz, .int .i64 upz] 42 (0, 0)) := blk_set (blk_set hb28_33 0 (.int .u64 loz)) 1 (.int .i64 upz)
          refine wpC_only 30 (by kernel_rfl) hkE rfl ?_
          go_wp2_with fail
          refine wpC_stop (by kernel_rfl) hkE ?_
          go_wp2_with fail
          go_meet
          exact ⟨_, _, _, z, rfl, by omega, hzE, HEZ.out, HZ.out, hkE⟩
      · go_wp2_with fail
        have hk34 := (hk15).alloc (.cells #[.int .u64 0, .int .i64 0] 42)
        have hb28_34 := blk_new w15 (.cells #[.int .u64 0, .int .i64 0] 42)
        generalize w15.alloc (.cells #[.int .u64 0, .int .i64 0] 42) = w34 at *
        have hs34 := blk_lt hb28_34
        refine wpC_two 5 21 (by kernel_rfl) hk34 rfl rfl ?_ ?_
        · go_wp2_with fail
          have hk35 := (hk34).alloc (.cells #[.int .i32 p, .int .i32 s'] 49)
          have hb5_35 := blk_new w34 (.cells #[.int .i32 p, .int .i32 s'] 49)
          have hb28_35 := blk_alloc hb28_34 (.cells #[.int .i32 p, .int .i32 s'] 49)
          generalize w34.alloc (.cells #[.int .i32 p, .int .i32 s'] 49) = w35 at *
          have hs35 := blk_lt hb5_35
          refine wpC_only 21 (by kernel_rfl) hk35 rfl ?_
          go_wp2_with fail
          refine (H14b.out w35).mono ?_
          rintro e w36 ⟨rfl, hc36⟩
          have hk36 := (hk35).trans hc36
          have hs36 := hc36.size
          have hb28_36 := hc36.blk hb28_35 (fun h => h)
          have hb5_36 := hc36.blk hb5_35 (fun h => h)
          go_wp2_with fail
          refine wpC_only 24 (by kernel_rfl) hk36 rfl ?_
          go_wp2_with fail
          refine (H13.out (w34.heap.size) w36 hb5_36 ((hk36).cell HENV.out.1 (fun h => h)) (HENV.out.2.1.keep (hk36) (fun h => h))).mono ?_
          rintro e w37 ⟨z, er, rfl, hc37, hz⟩
          have hk37 := (hk36).trans hc37
          have hs37 := hc37.size
          have hb28_37 := hc37.blk hb28_36 (fun h => h)
          have hb5_37 := hc37.blk hb5_36 (fun h => h)
          have her : er = .nilIface ∨ ∃ a, er = .iface 140 a := hz.elim (fun h => .inl h.2.2) (fun h => .inr h.2.2)
          have HZ := Lib.hid (show (d.natAbs < 10 ^ p ∧ z = d ∧ er = .nilIface) ∨ (¬ d.natAbs < 10 ^ p ∧ ∃ a, er = .iface 140 a) from hz.imp (fun h => h) (fun h => ⟨h.1, h.2.2⟩))
          clear hz
          obtain ⟨loz, hloz⟩ : ∃ y, y = (z % 18446744073709551616).toNat := ⟨_, rfl⟩
          obtain ⟨upz, hupz⟩ : ∃ y, y = z / 18446744073709551616 := ⟨_, rfl⟩
          have ez : numV z = .agg #[.int .u64 loz, .int .i64 upz] := by rw [hloz, hupz]; rfl
          have HEZ := Lib.hid ez
          rw [ez]
          clear ez hloz hupz
          go_wp2_with fail
          refine wpC_take 25 (v := .tuple #[.agg #[.int .u64 loz, .int .i64 upz], er]) (by kernel_rfl) rfl rfl (fun _ _ _ h => post_put2 (fn := Tryz.f4) Tryz.results4 _ _ (by decide) (by decide) _ _ _ h) (fun w' hC => by go_simp) ?_
          go_simp
          refine wpC_take 26 (v := .agg #[.int .u64 loz, .int .i64 upz]) (by kernel_rfl) rfl rfl (fun _ _ _ h => post_put2 (fn := Tryz.f4) Tryz.results4 _ _ (by decide) (by decide) _ _ _ h) (fun w' hC => by go_simp) ?_
          go_simp
          refine wpC_take 27 (v := er) (by kernel_rfl) rfl rfl (fun _ _ _ h => post_put2 (fn := Tryz.f4) Tryz.results4 _ _ (by decide) (by decide) _ _ _ h) (fun w' hC => by go_simp) ?_
          go_simp
          have z0 := blk_cell hb28_37 0
          have z1 := blk_cell hb28_37 1
          have zf := blk_frozen hb28_37
          simp only [List.getElem?_toArray, List.getElem?_cons_zero, List.getElem?_cons_succ] at z0 z1
          refine wpC_only 29 (by kernel_rfl) hk37 rfl ?_
          go_wp2_with fail
          have hkE : Keep (fun _ => False) w0 ((w37.setCell ⟨w15.heap.size, 0, none⟩ (.int .u64 loz)).setCell ⟨w15.heap.size, 1, none⟩ (.int .i64 upz)) := ((hk37).setCell (.inr (by dsimp only; omega)) _).setCell (.inr (by dsimp only; omega)) _
          have hzE : ((w37.setCell ⟨w15.heap.size, 0, none⟩ (.int .u64 loz)).setCell ⟨w15.heap.size, 1, none⟩ (.int .i64 upz)).heap[w15.heap.size]? = some (.cells #[.int .u64 loz, .int .i64 upz] 42 (0, 0)) := blk_set (blk_set hb28_37 0 (.int .u64 loz)) 1 (.int .i64 upz)
          refine wpC_only 30 (by kernel_rfl) hkE rfl ?_
          go_wp2_with fail
          refine wpC_stop (by kernel_rfl) hkE ?_
          go_wp2_with fail
          go_meet
          exact ⟨_, _, _, z, rfl, by omega, hzE, HEZ.out, HZ.out, hkE⟩
        · go_wp2_with fail
          refine (H14b.out w34).mono ?_
          rintro e w38 ⟨rfl, hc38⟩
          have hk38 := (hk34).trans hc38
          have hs38 := hc38.size
          have hb28_38 := hc38.blk hb28_34 (fun h => h)
          go_wp2_with fail
          refine wpC_only 5 (by kernel_rfl) hk38 rfl ?_
          go_wp2_with fail
          have hk39 := (hk38).alloc (.cells #[.int .i32 p, .int .i32 s'] 49)
          have hb5_39 := blk_new w38 (.cells #[.int .i32 p, .int .i32 s'] 49)
          have hb28_39 := blk_alloc hb28_38 (.cells #[.int .i32 p, .int .i32 s'] 49)
          generalize w38.alloc (.cells #[.int .i32 p, .int .i32 s'] 49) = w39 at *
          have hs39 := blk_lt hb5_39
          refine wpC_only 24 (by kernel_rfl) hk39 rfl ?_
          go_wp2_with fail
          refine (H13.out (w38.heap.size) w39 hb5_39 ((hk39).cell HENV.out.1 (fun h => h)) (HENV.out.2.1.keep (hk39) (fun h => h))).mono ?_
          rintro e w40 ⟨z, er, rfl, hc40, hz⟩
          have hk40 := (hk39).trans hc40
          have hs40 := hc40.size
          have hb28_40 := hc40.blk hb28_39 (fun h => h)
          have hb5_40 := hc40.blk hb5_39 (fun h => h)
          have her : er = .nilIface ∨ ∃ a, er = .iface 140 a := hz.elim (fun h => .inl h.2.2) (fun h => .inr h.2.2)
          have HZ := Lib.hid (show (d.natAbs < 10 ^ p ∧ z = d ∧ er = .nilIface) ∨ (¬ d.natAbs < 10 ^ p ∧ ∃ a, er = .iface 140 a) from hz.imp (fun h => h) (fun h => ⟨h.1, h.2.2⟩))
          clear hz
          obtain ⟨loz, hloz⟩ : ∃ y, y = (z % 18446744073709551616).toNat := ⟨_, rfl⟩
          obtain ⟨upz, hupz⟩ : ∃ y, y = z / 18446744073709551616 := ⟨_, rfl⟩
          have ez : numV z = .agg #[.int .u64 loz, .int .i64 upz] := by rw [hloz, hupz]; rfl
          have HEZ := Lib.hid ez
          rw [ez]
          clear ez hloz hupz
          go_wp2_with fail
          refine wpC_take 25 (v := .tuple #[.agg #[.int .u64 loz, .int .i64 upz], er]) (by kernel_rfl) rfl rfl (fun _ _ _ h => post_put2 (fn := Tryz.f4) Tryz.results4 _ _ (by decide) (by decide) _ _ _ h) (fun w' hC => by go_simp) ?_
          go_simp
          refine wpC_take 26 (v := .agg #[.int .u64 loz, .int .i64 upz]) (by kernel_rfl) rfl rfl (fun _ _ _ h => post_put2 (fn := Tryz.f4) Tryz.results4 _ _ (by decide) (by decide) _ _ _ h) (fun w' hC => by go_simp) ?_
          go_simp
          refine wpC_take 27 (v := er) (by kernel_rfl) rfl rfl (fun _ _ _ h => post_put2 (fn := Tryz.f4) Tryz.results4 _ _ (by decide) (by decide) _ _ _ h) (fun w' hC => by go_simp) ?_
          go_simp
          have z0 := blk_cell hb28_40 0
          have z1 := blk_cell hb28_40 1
          have zf := blk_frozen hb28_40
          simp only [List.getElem?_toArray, List.getElem?_cons_zero, List.getElem?_cons_succ] at z0 z1
          refine wpC_only 29 (by kernel_rfl) hk40 rfl ?_
          go_wp2_with fail
          have hkE : Keep (fun _ => False) w0 ((w40.setCell ⟨w15.heap.size, 0, none⟩ (.int .u64 loz)).setCell ⟨w15.heap.size, 1, none⟩ (.int .i64 upz)) := ((hk40).setCell (.inr (by dsimp only; omega)) _).setCell (.inr (by dsimp only; omega)) _
          have hzE : ((w40.setCell ⟨w15.heap.size, 0, none⟩ (.int .u64 loz)).setCell ⟨w15.heap.size, 1, none⟩ (.int .i64 upz)).heap[w15.heap.size]? = some (.cells #[.int .u64 loz, .int .i64 upz] 42 (0, 0)) := blk_set (blk_set hb28_40 0 (.int .u64 loz)) 1 (.int .i64 upz)
          refine wpC_only 30 (by kernel_rfl) hkE rfl ?_
          go_wp2_with fail
          refine wpC_stop (by kernel_rfl) hkE ?_
          go_wp2_with fail
          go_meet
          exact ⟨_, _, _, z, rfl, by omega, hzE, HEZ.out, HZ.out, hkE⟩
    · go_wp2_with fail
      have hk41 := (hkd).alloc (.cells #[.int .u64 0, .int .i64 0] 42)
      have hb28_41 := blk_new wd (.cells #[.int .u64 0, .int .i64 0] 42)
      generalize wd.alloc (.cells #[.int .u64 0, .int .i64 0] 42) = w41 at *
      have hs41 := blk_lt hb28_41
      refine wpC_two 5 13 (by kernel_rfl) hk41 rfl rfl ?_ ?_
      · go_wp2_with fail
        have hk42 := (hk41).alloc (.cells #[.int .i32 p, .int .i32 s'] 49)
        have hb5_42 := blk_new w41 (.cells #[.int .i32 p, .int .i32 s'] 49)
        have hb28_42 := blk_alloc hb28_41 (.cells #[.int .i32 p, .int .i32 s'] 49)
        generalize w41.alloc (.cells #[.int .i32 p, .int .i32 s'] 49) = w42 at *
        have hs42 := blk_lt hb5_42
        refine wpC_only 13 (by kernel_rfl) hk42 rfl ?_
        go_wp2_with fail
        refine (H14.out w42).mono ?_
        rintro e w43 ⟨rfl, hc43⟩
        have hk43 := (hk42).trans hc43
        have hs43 := hc43.size
        have hb28_43 := hc43.blk hb28_42 (fun h => h)
        have hb5_43 := hc43.blk hb5_42 (fun h => h)
        go_wp2_with fail
        refine wpC_only 21 (by kernel_rfl) hk43 rfl ?_
        go_wp2_with fail
        refine (H14b.out w43).mono ?_
        rintro e w44 ⟨rfl, hc44⟩
        have hk44 := (hk43).trans hc44
        have hs44 := hc44.size
        have hb28_44 := hc44.blk hb28_43 (fun h => h)
        have hb5_44 := hc44.blk hb5_43 (fun h => h)
        go_wp2_with fail
        refine wpC_only 24 (by kernel_rfl) hk44 rfl ?_
        go_wp2_with fail
        refine (H13.out (w41.heap.size) w44 hb5_44 ((hk44).cell HENV.out.1 (fun h => h)) (HENV.out.2.1.keep (hk44) (fun h => h))).mono ?_
        rintro e w45 ⟨z, er, rfl, hc45, hz⟩
        have hk45 := (hk44).trans hc45
        have hs45 := hc45.size
        have hb28_45 := hc45.blk hb28_44 (fun h => h)
        have hb5_45 := hc45.blk hb5_44 (fun h => h)
        have her : er = .nilIface ∨ ∃ a, er = .iface 140 a := hz.elim (fun h => .inl h.2.2) (fun h => .inr h.2.2)
        have HZ := Lib.hid (show (d.natAbs < 10 ^ p ∧ z = d ∧ er = .nilIface) ∨ (¬ d.natAbs < 10 ^ p ∧ ∃ a, er = .iface 140 a) from hz.imp (fun h => h) (fun h => ⟨h.1, h.2.2⟩))
        clear hz
        obtain ⟨loz, hloz⟩ : ∃ y, y = (z % 18446744073709551616).toNat := ⟨_, rfl⟩
        obtain ⟨upz, hupz⟩ : ∃ y, y = z / 18446744073709551616 := ⟨_, rfl⟩
        have ez : numV z = .agg #[.int .u64 loz, .int .i64 upz] := by rw [hloz, hupz]; rfl
        have HEZ := Lib.hid ez
        rw [ez]
        clear ez hloz hupz
        go_wp2_with fail
        refine wpC_take 25 (v := .tuple #[.agg #[.int .u64 loz, .int .i64 upz], er]) (by kernel_rfl) rfl rfl (fun _ _ _ h => post_put2 (fn := Tryz.f4) Tryz.results4 _ _ (by decide) (by decide) _ _ _ h) (fun w' hC => by go_simp) ?_
        go_simp
        refine wpC_take 26 (v := .agg #[.int .u64 loz, .int .i64 upz]) (by kernel_rfl) rfl rfl (fun _ _ _ h => post_put2 (fn := Tryz.f4) Tryz.results4 _ _ (by decide) (by decide) _ _ _ h) (fun w' hC => by go_simp) ?_
        go_simp
        refine wpC_take 27 (v := er) (by kernel_rfl) rfl rfl (fun _ _ _ h => post_put2 (fn := Tryz.f4) Tryz.results4 _ _ (by decide) (by decide) _ _ _ h) (fun w' hC => by go_simp) ?_
        go_simp
        have z0 := blk_cell hb28_45 0
        have z1 := blk_cell hb28_45 1
        have zf := blk_frozen hb28_45
        simp only [List.getElem?_toArray, List.getElem?_cons_zero, List.getElem?_cons_succ] at z0 z1
        refine wpC_only 29 (by kernel_rfl) hk45 rfl ?_
        go_wp2_with fail
        have hkE : Keep (fun _ => False) w0 ((w45.setCell ⟨wd.heap.size, 0, none⟩ (.int .u64 loz)).setCell ⟨wd.heap.size, 1, none⟩ (.int .i64 upz)) := ((hk45).setCell (.inr (by dsimp only; omega)) _).setCell (.inr (by dsimp only; omega)) _
        have hzE : ((w45.setCell ⟨wd.heap.size, 0, none⟩ (.int .u64 loz)).setCell ⟨wd.heap.size, 1, none⟩ (.int .i64 upz)).heap[wd.heap.size]? = some (.cells #[.int .u64 loz, .int .i64 upz] 42 (0, 0)) := blk_set (blk_set hb28_45 0 (.int .u64 loz)) 1 (.int .i64 upz)
        refine wpC_only 30 (by kernel_rfl) hkE rfl ?_
        go_wp2_with fail
        refine wpC_stop (by kernel_rfl) hkE ?_
        go_wp2_with fail
        go_meet
        exact ⟨_, _, _, z, rfl, by omega, hzE, HEZ.out, HZ.out, hkE⟩
      · go_wp2_with fail
        refine (H14.out w41).mono ?_
        rintro e w46 ⟨rfl, hc46⟩
        have hk46 := (hk41).trans hc46
        have hs46 := hc46.size
        have hb28_46 := hc46.blk hb28_41 (fun h => h)
        go_wp2_with fail
        refine wpC_two 5 21 (by kernel_rfl) hk46 rfl rfl ?_ ?_
        · go_wp2_with fail
          have hk47 := (hk46).alloc (.cells #[.int .i32 p, .int .i32 s'] 49)
          have hb5_47 := blk_new w46 (.cells #[.int .i32 p, .int .i32 s'] 49)
          have hb28_47 := blk_alloc hb28_46 (.cells #[.int .i32 p, .int .i32 s'] 49)
          generalize w46.alloc (.cells #[.int .i32 p, .int .i32 s'] 49) = w47 at *
          have hs47 := blk_lt hb5_47
          refine wpC_only 21 (by kernel_rfl) hk47 rfl ?_
          go_wp2_with fail
          refine (H14b.out w47).mono ?_
          rintro e w48 ⟨rfl, hc48⟩
          have hk48 := (hk47).trans hc48
          have hs48 := hc48.size
          have hb28_48 := hc48.blk hb28_47 (fun h => h)
          have hb5_48 := hc48.blk hb5_47 (fun h => h)
          go_wp2_with fail
          refine wpC_only 24 (by kernel_rfl) hk48 rfl ?_
          go_wp2_with fail
          refine (H13.out (w46.heap.size) w48 hb5_48 ((hk48).cell HENV.out.1 (fun h => h)) (HENV.out.2.1.keep (hk48) (fun h => h))).mono ?_
          rintro e w49 ⟨z, er, rfl, hc49, hz⟩
          have hk49 := (hk48).trans hc49
          have hs49 := hc49.size
          have hb28_49 := hc49.blk hb28_48 (fun h => h)
          have hb5_49 := hc49.blk hb5_48 (fun h => h)
          have her : er = .nilIface ∨ ∃ a, er = .iface 140 a := hz.elim (fun h => .inl h.2.2) (fun h => .inr h.2.2)
          have HZ := Lib.hid (show (d.natAbs < 10 ^ p ∧ z = d ∧ er = .nilIface) ∨ (¬ d.natAbs < 10 ^ p ∧ ∃ a, er = .iface 140 a) from hz.imp (fun h => h) (fun h => ⟨h.1, h.2.2⟩))
          clear hz
          obtain ⟨loz, hloz⟩ : ∃ y, y = (z % 18446744073709551616).toNat := ⟨_, rfl⟩
          obtain ⟨upz, hupz⟩ : ∃ y, y = z / 18446744073709551616 := ⟨_, rfl⟩
          have ez : numV z = .agg #[.int .u64 loz, .int .i64 upz] := by rw [hloz, hupz]; rfl
          have HEZ := Lib.hid ez
          rw [ez]
          clear ez hloz hupz
          go_wp2_with fail
          refine wpC_take 25 (v := .tuple #[.agg #[.int .u64 loz, .int .i64 upz], er]) (by kernel_rfl) rfl rfl (fun _ _ _ h => post_put2 (fn := Tryz.f4) Tryz.results4 _ _ (by decide) (by decide) _ _ _ h) (fun w' hC => by go_simp) ?_
          go_simp
          refine wpC_take 26 (v := .agg #[.int .u64 loz, .int .i64 upz]) (by kernel_rfl) rfl rfl (fun _ _ _ h => post_put2 (fn := Tryz.f4) Tryz.results4 _ _ (by decide) (by decide) _ _ _ h) (fun w' hC => by go_simp) ?_
          go_simp
          refine wpC_take 27 (v := er) (by kernel_rfl) rfl rfl (fun _ _ _ h => post_put2 (fn := Tryz.f4) Tryz.results4 _ _ (by decide) (by decide) _ _ _ h) (fun w' hC => by go_simp) ?_
          go_simp
          have z0 := blk_cell hb28_49 0
          have z1 := blk_cell hb28_49 1
          have zf := blk_frozen hb28_49
          simp only [List.getElem?_toArray, List.getElem?_cons_zero, List.getElem?_cons_succ] at z0 z1
          refine wpC_only 29 (by kernel_rfl) hk49 rfl ?_
          go_wp2_with fail
          have hkE : Keep (fun _ => False) w0 ((w49.setCell ⟨wd.heap.size, 0, none⟩ (.int .u64 loz)).setCell ⟨wd.heap.size, 1, none⟩ (.int .i64 upz)) := ((hk49).setCell (.inr (by dsimp only; omega)) _).setCell (.inr (by dsimp only; omega)) _
          have hzE : ((w49.setCell ⟨wd.heap.size, 0, none⟩ (.int .u64 loz)).setCell ⟨wd.heap.size, 1, none⟩ (.int .i64 upz)).heap[wd.heap.size]? = some (.cells #[.int .u64 loz, .int .i64 upz] 42 (0, 0)) := blk_set (blk_set hb28_49 0 (.int .u64 loz)) 1 (.int .i64 upz)
          refine wpC_only 30 (by kernel_rfl) hkE rfl ?_
          go_wp2_with fail
          refine wpC_stop (by kernel_rfl) hkE ?_
          go_wp2_with fail
          go_meet
          exact ⟨_, _, _, z, rfl, by omega, hzE, HEZ.out, HZ.out, hkE⟩
        · go_wp2_with fail
          refine (H14b.out w46).mono ?_
          rintro e w50 ⟨rfl, hc50⟩
          have hk50 := (hk46).trans hc50
          have hs50 := hc50.size
          have hb28_50 := hc50.blk hb28_46 (fun h => h)
          go_wp2_with fail
          refine wpC_only 5 (by kernel_rfl) hk50 rfl ?_
          go_wp2_with fail
          have hk51 := (hk50).alloc (.cells #[.int .i32 p, .int .i32 s'] 49)
          have hb5_51 := blk_new w50 (.cells #[.int .i32 p, .int .i32 s'] 49)
          have hb28_51 := blk_alloc hb28_50 (.cells #[.int .i32 p, .int .i32 s'] 49)
          generalize w50.alloc (.cells #[.int .i32 p, .int .i32 s'] 49) = w51 at *
          have hs51 := blk_lt hb5_51
          refine wpC_only 24 (by kernel_rfl) hk51 rfl ?_
          go_wp2_with fail
          refine (H13.out (w50.heap.size) w51 hb5_51 ((hk51).cell HENV.out.1 (fun h => h)) (HENV.out.2.1.keep (hk51) (fun h => h))).mono ?_
          rintro e w52 ⟨z, er, rfl, hc52, hz⟩
          have hk52 := (hk51).trans hc52
          have hs52 := hc52.size
          have hb28_52 := hc52.blk hb28_51 (fun h => h)
          have hb5_52 := hc52.blk hb5_51 (fun h => h)
          have her : er = .nilIface ∨ ∃ a, er = .iface 140 a := hz.elim (fun h => .inl h.2.2) (fun h => .inr h.2.2)
          have HZ := Lib.hid (show (d.natAbs < 10 ^ p ∧ z = d ∧ er = .nilIface) ∨ (¬ d.natAbs < 10 ^ p ∧ ∃ a, er = .iface 140 a) from hz.imp (fun h => h) (fun h => ⟨h.1, h.2.2⟩))
          clear hz
          obtain ⟨loz, hloz⟩ : ∃ y, y = (z % 18446744073709551616).toNat := ⟨_, rfl⟩
          obtain ⟨upz, hupz⟩ : ∃ y, y = z / 18446744073709551616 := ⟨_, rfl⟩
          have ez : numV z = .agg #[.int .u64 loz, .int .i64 upz] := by rw [hloz, hupz]; rfl
          have HEZ := Lib.hid ez
          rw [ez]
          clear ez hloz hupz
          go_wp2_with fail
          refine wpC_take 25 (v := .tuple #[.agg #[.int .u64 loz, .int .i64 upz], er]) (by kernel_rfl) rfl rfl (fun _ _ _ h => post_put2 (fn := Tryz.f4) Tryz.results4 _ _ (by decide) (by decide) _ _ _ h) (fun w' hC => by go_simp) ?_
          go_simp
          refine wpC_take 26 (v := .agg #[.int .u64 loz, .int .i64 upz]) (by kernel_rfl) rfl rfl (fun _ _ _ h => post_put2 (fn := Tryz.f4) Tryz.results4 _ _ (by decide) (by decide) _ _ _ h) (fun w' hC => by go_simp) ?_
          go_simp
          refine wpC_take 27 (v := er) (by kernel_rfl) rfl rfl (fun _ _ _ h => post_put2 (fn := Tryz.f4) Tryz.results4 _ _ (by decide) (by decide) _ _ _ h) (fun w' hC => by go_simp) ?_
          go_simp
          have z0 := blk_cell hb28_52 0
          have z1 := blk_cell hb28_52 1
          have zf := blk_frozen hb28_52
          simp only [List.getElem?_toArray, List.getElem?_cons_zero, List.getElem?_cons_succ] at z0 z1
          refine wpC_only 29 (by kernel_rfl) hk52 rfl ?_
          go_wp2_with fail
          have hkE : Keep (fun _ => False) w0 ((w52.setCell ⟨wd.heap.size, 0, none⟩ (.int .u64 loz)).setCell ⟨wd.heap.size, 1, none⟩ (.int .i64 upz)) := ((hk52).setCell (.inr (by dsimp only; omega)) _).setCell (.inr (by dsimp only; omega)) _
          have hzE : ((w52.setCell ⟨wd.heap.size, 0, none⟩ (.int .u64 loz)).setCell ⟨wd.heap.size, 1, none⟩ (.int .i64 upz)).heap[wd.heap.size]? = some (.cells #[.int .u64 loz, .int .i64 upz] 42 (0, 0)) := blk_set (blk_set hb28_52 0 (.int .u64 loz)) 1 (.int .i64 upz)
          refine wpC_only 30 (by kernel_rfl) hkE rfl ?_
          go_wp2_with fail
          refine wpC_stop (by kernel_rfl) hkE ?_
          go_wp2_with fail
          go_meet
          exact ⟨_, _, _, z, rfl, by omega, hzE, HEZ.out, HZ.out, hkE⟩
  case rest =>
    obtain ⟨zb, lz, uz, z, rfl, hzb, hzz, hzn, hcase, hkc⟩ := hcut
    have hb10 := hkc.blk HENV.out.2.2.1 (fun h => h)
    have hb11 := hkc.blk HENV.out.2.2.2 (fun h => h)
    have f10 := blk_frozen hb10
    have f11 := blk_frozen hb11
    have c10 := blk_cell hb10 0
    have c11 := blk_cell hb11 0
    simp only [List.getElem?_toArray, List.getElem?_cons_zero] at c10 c11
    have H15 := Lib.hid (fun w => lowBits15 z w)
    have H16 := Lib.hid (fun w => highBits16 z w)
    rw [hzn] at H15 H16
    have HZN := Lib.hid hzn
    clear hzn H13 H14 H14b u0 u1 v0 v1 hwp hwm hws hh' hh2'
    have hzl := blk_lt hzz
    have hsw := hk0.size
    have hkw : Keep (fun _ => False) w wc := hk0.trans hkc
    have hl11 := blk_lt hb11
    rcases hcase with ⟨hfit, rfl, rfl⟩ | ⟨hfit, a, rfl⟩
    · obtain ⟨l15, hl15⟩ : ∃ y, y = (z % 18446744073709551616).toNat := ⟨_, rfl⟩
      obtain ⟨h16, hh16⟩ : ∃ y, y = z / 18446744073709551616 := ⟨_, rfl⟩
      obtain ⟨k16, hk16⟩ : ∃ y, y = (z / 18446744073709551616 % 18446744073709551616).toNat := ⟨_, rfl⟩
      have hwk : IntKind.u64.wrap h16 = (k16 : Int) := by rw [IntKind.wrap_u64]; omega
      rw [← hl15] at H15
      rw [← hh16] at H16
      have HQ := Lib.hid (And.intro hl15 hk16)
      clear hl15 hh16 hk16
      go_upto_region 5 with fail
      have hzd := blk_drew hzz
      have h10d := blk_drew hb10
      have h11d := blk_drew hb11
      have hkd := hkw.drew
      have hld : wc.drew.heap.size = wc.heap.size := rfl
      refine wp_region_takesC (fun w' => w'.heap[zb]? = some (.cells #[.int .u64 lz, .int .i64 uz] 42 (0, 0))) (by kernel_rfl) ?_
      clear hzz hb10 hb11 f10 f11 c10 c11
      generalize wc.drew = wd at *
      go_simp
      refine wpC_take 0 (v := .agg #[.int .u64 lz, .int .i64 uz]) (by kernel_rfl) rfl rfl (fun _ _ _ h => post_put2 (fn := Tryz.f4) Tryz.results4 _ _ (by decide) (by decide) _ _ _ h) (fun w' hC => by have c0 := blk_cell hC 0; have c1 := blk_cell hC 1; simp only [List.getElem?_toArray, List.getElem?_cons_zero, List.getElem?_cons_succ] at c0 c1; go_simp) ?_
      go_simp
      refine wpC_take 2 (v := .agg #[.int .u64 lz, .int .i64 uz]) (by kernel_rfl) rfl rfl (fun _ _ _ h => post_put2 (fn := Tryz.f4) Tryz.results4 _ _ (by decide) (by decide) _ _ _ h) (fun w' hC => by have c0 := blk_cell hC 0; have c1 := blk_cell hC 1; simp only [List.getElem?_toArray, List.getElem?_cons_zero, List.getElem?_cons_succ] at c0 c1; go_simp) ?_
      go_simp
      refine wpC_only 1 (by kernel_rfl) hzd rfl ?_
      go_wp2_with fail
      refine (H15.out _).mono ?_
      rintro e w1 ⟨rfl, hk1⟩
      have hz1 := hk1.blk hzd (fun h => h)
      go_wp2_with fail
      refine wpC_only 3 (by kernel_rfl) hz1 rfl ?_
      go_wp2_with fail
      refine (H16.out _).mono ?_
      rintro e w2 ⟨rfl, hk2⟩
      have hz2 := hk2.blk hz1 (fun h => h)
      have h102 := hk2.blk (hk1.blk h10d (fun h => h)) (fun h => h)
      have h112 := hk2.blk (hk1.blk h11d (fun h => h)) (fun h => h)
      have hkw2 := (hkd.trans hk1).trans hk2
      have hl2 := blk_lt h112
      have hlz2 := blk_lt hz2
      go_wp2_with fail
      refine wpC_take 4 (v := .int .u64 k16) (by kernel_rfl) rfl rfl (fun _ _ _ h => post_put2 (fn := Tryz.f4) Tryz.results4 _ _ (by decide) (by decide) _ _ _ h) (fun w' hC => by go_simp) ?_
      go_simp
      have hka := hkw2.alloc (.cells #[.int .u64 l15, .int .u64 k16] 25)
      have hza := blk_alloc hz2 (.cells #[.int .u64 l15, .int .u64 k16] 25)
      have h10a := blk_alloc h102 (.cells #[.int .u64 l15, .int .u64 k16] 25)
      have h11a := blk_alloc h112 (.cells #[.int .u64 l15, .int .u64 k16] 25)
      have hsa := blk_new w2 (.cells #[.int .u64 l15, .int .u64 k16] 25)
      refine wpC_only 5 (by kernel_rfl) hz2 rfl ?_
      go_wp2_with fail
      generalize w2.alloc (.cells #[.int .u64 l15, .int .u64 k16] 25) = wa at *
      have hlsa := blk_lt hsa
      have f10 := blk_frozen h10a
      have c10 := blk_cell h10a 0
      simp only [List.getElem?_toArray, List.getElem?_cons_zero] at c10
      have SL : Hid (∃ y, y = Value.slice (some ⟨w2.heap.size, 0, none⟩) 2 2) := Lib.hid ⟨_, rfl⟩
      have hk10 := hka.setCell (p := ⟨w.heap.size, 0, none⟩) (.inr (Nat.le_refl _)) (.slice (some ⟨w2.heap.size, 0, none⟩) 2 2)
      have hz10 := blk_far hza (p := ⟨w.heap.size, 0, none⟩) (by dsimp only; omega) (.slice (some ⟨w2.heap.size, 0, none⟩) 2 2)
      have hs10 := blk_far hsa (p := ⟨w.heap.size, 0, none⟩) (by dsimp only; omega) (.slice (some ⟨w2.heap.size, 0, none⟩) 2 2)
      have h1010 := blk_set h10a 0 (.slice (some ⟨w2.heap.size, 0, none⟩) 2 2)
      have h1110 := blk_far h11a (p := ⟨w.heap.size, 0, none⟩) (by dsimp only; omega) (.slice (some ⟨w2.heap.size, 0, none⟩) 2 2)
      refine wpC_only 6 (by kernel_rfl) hza rfl ?_
      go_wp2_with fail
      generalize wa.setCell ⟨w.heap.size, 0, none⟩ (.slice (some ⟨w2.heap.size, 0, none⟩) 2 2) = wb at *
      have f11 := blk_frozen h1110
      have c11 := blk_cell h1110 0
      simp only [List.getElem?_toArray, List.getElem?_cons_zero] at c11
      have hk11 := hk10.setCell (p := ⟨w.heap.size + 1, 0, none⟩) (.inr (Nat.le_succ _)) (.bool true)
      have hz11 := blk_far hz10 (p := ⟨w.heap.size + 1, 0, none⟩) (by dsimp only; omega) (.bool true)
      have hs11 := blk_far hs10 (p := ⟨w.heap.size + 1, 0, none⟩) (by dsimp only; omega) (.bool true)
      have h1011 := blk_far h1010 (p := ⟨w.heap.size + 1, 0, none⟩) (by dsimp only; omega) (.bool true)
      have h1111 := blk_set h1110 0 (.bool true)
      refine wpC_only 7 (by kernel_rfl) hz10 rfl ?_
      go_wp2_with fail
      refine wpC_stop (by kernel_rfl) hz11 ?_
      have r0 := blk_cell h1011 0
      have r1 := blk_cell h1111 0
      simp at r0 r1
      have HF := Lib.hid (And.intro hk11 hs11)
      clear hk11 hs11 hz11 h1011 h1111 hza hz10 h1010 h1110
      go_wp2_with fail
      refine leaves_cons (f := 12) (args := #[.pointer (some ⟨w.heap.size, 0, none⟩), .pointer (some ⟨w.heap.size + 1, 0, none⟩)]) (by simp) (by simp [go_sem]) ?_
      refine (catch12 ⟨w.heap.size, 0, none⟩ ⟨w.heap.size + 1, 0, none⟩ _).mono ?_
      rintro e u' w'' ⟨rfl, rfl, rfl⟩
      refine ⟨.tuple #[.slice (some ⟨w2.heap.size, 0, none⟩) 2 2, .bool true], by simp [results, Tryz.results4, go_sem, r0, r1], HF.out.1, .inl ⟨hfit, _, rfl, w2.heap.size, 0, 2, rfl, ?_, ?_⟩⟩
      · rw [blk_cell HF.out.2, ← HQ.out.1]
        rfl
      · rw [blk_cell HF.out.2, ← HQ.out.2]
        rfl
    · have hk10 := hkw.setCell (p := ⟨w.heap.size, 0, none⟩) (.inr (Nat.le_refl _)) (.slice none 0 0)
      have hk11 := hk10.setCell (p := ⟨w.heap.size + 1, 0, none⟩) (.inr (Nat.le_succ _)) (.bool false)
      have h1011 := blk_far (blk_set hb10 0 (.slice none 0 0)) (p := ⟨w.heap.size + 1, 0, none⟩) (by dsimp only; omega) (.bool false)
      have h1111 := blk_set (blk_far hb11 (p := ⟨w.heap.size, 0, none⟩) (by dsimp only; omega) (.slice none 0 0)) 0 (.bool false)
      have r0 := blk_cell h1011 0
      have r1 := blk_cell h1111 0
      simp at r0 r1
      have HF := Lib.hid hk11
      clear hk10 hk11 h1011 h1111 hb10 hb11
      go_wp2_with fail
      refine leaves_cons (f := 12) (args := #[.pointer (some ⟨w.heap.size, 0, none⟩), .pointer (some ⟨w.heap.size + 1, 0, none⟩)]) (by simp) (by simp [go_sem]) ?_
      refine (catch12 ⟨w.heap.size, 0, none⟩ ⟨w.heap.size + 1, 0, none⟩ _).mono ?_
      rintro e u' w'' ⟨rfl, rfl, rfl⟩
      exact ⟨.tuple #[.slice none 0 0, .bool false], by simp [results, Tryz.results4, go_sem, r0, r1], HF.out, .inr ⟨hfit, rfl⟩⟩
end Go.Proofs.YtamkglgiaiejkaaGreatDoor
