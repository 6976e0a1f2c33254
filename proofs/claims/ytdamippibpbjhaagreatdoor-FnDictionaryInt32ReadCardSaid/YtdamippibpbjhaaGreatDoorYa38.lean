import Derived.Test.YtdamippibpbjhaaGreatDoorYa29
import Derived.Test.YtdamippibpbjhaaGreatDoorYa32
import Derived.Test.YtdamippibpbjhaaGreatDoorYa27
import Derived.Test.YtdamippibpbjhaaGreatDoorYa16
import Derived.Test.YtdamippibpbjhaaGreatDoorYa30
/-! Numbers of 32 bits written plainly, read. -/
namespace Go.Proofs.YtdamippibpbjhaaGreatDoor.I32
open Go.RowKit

@[go_sem] theorem assert_187 (w : World) : (Instr.typeAssert (.iface 21 (.int .i32 0)) 20 187 true).run Tryz.prog w = .ok (.tuple #[.float .f32 0, .bool false]) w := by kernel_rfl
@[go_sem] theorem assert_393 (a : Option Addr) (w : World) : (Instr.typeAssert (.iface 393 (.pointer a)) 20 393 true).run Tryz.prog w = .ok (.tuple #[.pointer a, .bool true]) w := by kernel_rfl
set_option maxRecDepth 100000 in
set_option maxHeartbeats 4000000 in
theorem widthOf298 (w : World) : Calls Tryz.prog 298 #[] w fun e w' => e = .returned (.int .i64 4) ∧ w' = w := by
  go_enter Tryz.func298, Tryz.ntmps298
  go_wp2_with fail
  go_ret
  exact ⟨rfl, rfl⟩
set_option maxRecDepth 100000 in
set_option maxHeartbeats 4000000 in
theorem required296 (n : Nat) (hn : n ≤ 1000000000) (w : World) : Calls Tryz.prog 296 #[.int .i64 n] w fun e w' => e = .returned (.int .i64 ((4 * n : Nat) : Int)) ∧ w' = w := by
  have HW := Lib.hid (fun w => widthOf298 w)
  have hm : (n : Int) * 4 = ((4 * n : Nat) : Int) := by omega
  go_enter Tryz.func296, Tryz.ntmps296
  go_wp2_with fail
  refine (HW.out _).mono ?_
  rintro e w1 ⟨rfl, hw⟩
  have hw' := hw.symm
  clear hw
  subst hw'
  go_wp2_with fail
  go_ret
  exact ⟨rfl, rfl⟩
/-- Number j of some that lie so. -/
def i32At (D : List Int) (j : Nat) : Int := wrap32 (D.getD (4 * j) 0 + D.getD (4 * j + 1) 0 * 256 + D.getD (4 * j + 2) 0 * 65536 + D.getD (4 * j + 3) 0 * 16777216)

set_option maxRecDepth 100000 in
set_option maxHeartbeats 4000000 in
theorem getValue300 {D : List Int} (hB : Bytes D) (g o c j : Nat) (w : World) (hrow : Row w .u8 g o D) (hj : 4 * j + 4 ≤ D.length) (hc : D.length ≤ c) (hD : D.length ≤ 1000000000) :
    Calls Tryz.prog 300 #[.slice (some ⟨g, o, none⟩) D.length c, .int .i64 j] w fun e w' => e = .returned (.int .i32 (i32At D j)) ∧ Keep (fun _ => False) w w' := by
  have hkA : Keep (fun _ => False) w (w.alloc (.cells #[.int .i32 0] 21)) := (Keep.refl _ w).alloc _
  have hb := blk_new w (.cells #[.int .i32 0] 21)
  have hx := fun i (hi : i < 4) => hrow (4 * j + i) (by omega)
  have hx0 := hkA.cell (hx 0 (by omega)) (fun h => h)
  have hx1 := hkA.cell (hx 1 (by omega)) (fun h => h)
  have hx2 := hkA.cell (hx 2 (by omega)) (fun h => h)
  have hx3 := hkA.cell (hx 3 (by omega)) (fun h => h)
  rw [← Nat.add_assoc, Nat.add_zero] at hx0
  rw [← Nat.add_assoc] at hx1 hx2 hx3
  obtain ⟨x, hxx⟩ : ∃ x, x = D.getD (4 * j) 0 + D.getD (4 * j + 1) 0 * 256 + D.getD (4 * j + 2) 0 * 65536 + D.getD (4 * j + 3) 0 * 16777216 := ⟨_, rfl⟩
  have hU := leU32_any g (o + 4 * j) (D.length - 4 * j) (c - 4 * j) _ _ _ _ (w.alloc (.cells #[.int .i32 0] 21)).drew (by omega) (hB (4 * j)) (hB (4 * j + 1)) (hB (4 * j + 2)) (hB (4 * j + 3)) hx0 hx1 hx2 hx3
  rw [← hxx] at hU
  have HU := Lib.hid hU
  have HX := Lib.hid hxx
  clear hU hxx
  have hd1 : (4 * (j : Int)) ≤ (D.length : Int) := by omega
  have hd0 : (0 : Int) ≤ 4 * (j : Int) := by omega
  have hcj : ¬ c = 4 * j := by omega
  clear hx hx0 hx1 hx2 hx3
  go_enter Tryz.func300, Tryz.ntmps300
  go_upto_region 4 with fail
  have hkw := hkA
  generalize w.alloc (.cells #[.int .i32 0] 21) = w1 at *
  refine wp_region_takes (by kernel_rfl) ?_
  go_simp
  refine wpAny_pure 0 (by kernel_rfl) rfl rfl (fun _ _ _ h => h) (fun w' => BigFrame.run_move _ rfl w') ?_
  go_simp
  refine wpAny_pure 1 (v := .agg #[]) (by kernel_rfl) rfl rfl (fun _ _ _ h => h) (fun w' => by go_simp) ?_
  go_simp
  refine wpAny_pure 2 (by kernel_rfl) rfl rfl (fun _ _ _ h => h) (fun w' => BigFrame.run_move _ rfl w') ?_
  go_simp
  refine wpAny_pure 3 (by kernel_rfl) rfl rfl (fun _ _ _ h => h) (fun w' => BigFrame.run_move _ rfl w') ?_
  go_simp
  refine wpAny_pure 4 (v := .int .i64 (4 * (j : Int))) (by kernel_rfl) rfl rfl (fun _ _ _ h => h) (fun w' => by go_simp; rw [IntKind.wrap_i64]; omega) ?_
  go_simp
  refine wpAny_pure 5 (v := .slice (some ⟨g, o + 4 * j, none⟩) (D.length - 4 * j) (c - 4 * j)) (by kernel_rfl) rfl rfl (fun _ _ _ h => h) (fun w' => by
    go_simp
    rw [show (4 * (j : Int)).toNat = 4 * j by omega, if_neg hcj]
    exact ⟨rfl, rfl, rfl⟩) ?_
  go_simp
  refine wpAny_only 6 (by kernel_rfl) rfl ?_
  go_wp2_with fail
  refine HU.out.mono ?_
  rintro e w2 ⟨rfl, hk2⟩
  have hk02 := hkw.drew.trans hk2
  have hb2 := hk2.blk (blk_drew hb) (fun h => h)
  have hc2 := blk_cell hb2
  have hf2 := blk_frozen hb2
  clear HU
  go_wp2_with fail
  refine wpAny_only 7 (by kernel_rfl) rfl ?_
  go_wp2_with fail
  refine wpAny_only 8 (by kernel_rfl) rfl ?_
  go_wp2_with fail
  refine wpAny_only 9 (by kernel_rfl) rfl ?_
  go_wp2_with fail
  refine wpAny_stop (by kernel_rfl) ?_
  have hb3 := blk_set hb2 0 (.int .i32 (wrap32 x))
  have hk3 : Keep (fun _ => False) w (w2.setCell ⟨w.heap.size, 0, none⟩ (.int .i32 (wrap32 x))) := hk02.setCell (p := ⟨w.heap.size, 0, none⟩) (.inr (Nat.le_refl _)) _
  clear hc2 hf2
  generalize w2.setCell ⟨w.heap.size, 0, none⟩ (.int .i32 (wrap32 x)) = w3 at *
  have hb3 : w3.heap[w.heap.size]? = some (.cells #[.int .i32 (wrap32 x)] 21 (0, 0)) := hb3
  have hc3 := blk_cell hb3
  have hf3 := blk_frozen hb3
  go_wp2_with fail
  have hb4 := blk_set hb3 0 (.int .i32 (wrap32 x))
  have hc4 := blk_cell hb4
  exact bodyPost_ret (v := .int .i32 (wrap32 x)) (by simp [results, Tryz.results300, go_sem, hc4]) rfl ⟨by rw [HX.out]; rfl, hk3.setCell (p := ⟨w.heap.size, 0, none⟩) (.inr (Nat.le_refl _)) _⟩
theorem info21p : (Tryz.prog.info? 21).map (fun i => (i.zero, i.size, i.bytes)) = some (some (.int .i32 0), 1, 4) := by kernel_rfl
set_option maxRecDepth 100000 in
set_option maxHeartbeats 4000000 in
theorem fromBytes299 {E : List Int} (hB : Bytes E) (g o c m : Nat) (w : World) (hrow : Row w .u8 g o E) (hE : E.length = 4 * m) (hc : E.length ≤ c) (hm : m ≤ 100000) :
    Calls Tryz.prog 299 #[.slice (some ⟨g, o, none⟩) E.length c] w fun e w' => ∃ nb cs, e = .returned (.slice (some ⟨nb, 0, none⟩) m m) ∧ w.heap.size ≤ nb ∧ w'.heap[nb]? = some (.cells cs 21 (0, 0)) ∧ cs.size = m ∧ (∀ j, j < m → cs[j]? = some (.int .i32 (i32At E j))) ∧ Keep (fun _ => False) w w' := by
  have HR := Lib.hid (fun w => required296 1 (by omega) w)
  have hq : (E.length : Int) / 4 = (m : Int) := by omega
  have hmk := make24 (t := 65) (e := 21) (by kernel_rfl) info21p rfl (by omega) m hm w
  have hnew := blk_new w (.cells (madeCells #[.int .i32 0] m) 21)
  have hkA : Keep (fun _ => False) w (w.alloc (.cells (madeCells #[.int .i32 0] m) 21)) := (Keep.refl _ w).alloc _
  have hmi : (0 : Int) ≤ (m : Int) := by omega
  have HV := Lib.hid (fun j w hr hj => getValue300 hB g o c j w hr hj hc (by omega))
  have hgl : 0 < m → g < w.heap.size := fun h => World.block_lt_of_cell? w _ (hrow 0 (by omega))
  have HE := Lib.hid hE
  clear hE
  go_enter Tryz.func299, Tryz.ntmps299
  go_wp2_with fail
  refine (HR.out _).mono ?_
  rintro e w1 ⟨rfl, hw⟩
  have hw' := hw.symm
  clear hw
  subst hw'
  go_wp2_with fail
  generalize hnb : w.heap.size = nb at *
  have HNB := Lib.hid hnb
  clear hnb
  generalize w.alloc (.cells (madeCells #[.int .i32 0] m) 21) = w2 at *
  go_loopw [4, 12] (fun _ i wr => ∃ z : Nat, z ≤ m ∧ i = .int .i64 z ∧ Keep (fun b => b = nb) w2 wr ∧ ∃ cs, wr.heap[nb]? = some (.cells cs 21 (0, 0)) ∧ cs.size = m ∧ ∀ j, j < z → cs[j]? = some (.int .i32 (i32At E j))) (fun _ i _ => m - (intOf i).toNat)
  case atStart => exact ⟨0, Nat.zero_le _, rfl, Keep.refl _ _, _, hnew, size_madeCells _ _, fun j hj => absurd hj (by omega)⟩
  case round =>
    obtain ⟨z, hz, rfl, hkz, cs, hcs, hsz, hin⟩ := hrel
    by_cases hzm : z < m
    · have hz0 : (0 : Int) ≤ (z : Int) := by omega
      have hz1 : (z : Int) < (m : Int) := by omega
      have hgn : g ≠ nb := by have := hgl (by omega); omega
      have hrz := (hrow.keep hkA (fun h => h)).keep hkz hgn
      have HG := Lib.hid (HV.out z wr hrz (by have := HE.out; omega))
      clear hrz
      go_wp2_with fail
      refine HG.out.mono ?_
      rintro e w3 ⟨rfl, hk3⟩
      have hcs3 := hk3.blk hcs (fun h => h)
      have hc3 := blk_cell hcs3
      have hf3 := blk_frozen hcs3
      have hcz : w3.cell? ⟨nb, z, none⟩ = some (cs[z]'(by omega)) := by rw [hc3]; simp
      have hkz3 := hkz.trans (hk3.mono (fun _ h => h.elim))
      clear HG
      go_wp2_with fail
      go_roundw
      case rel =>
        refine ⟨z + 1, hzm, by go_num, hkz3.setCell (p := ⟨nb, z, none⟩) (.inl rfl) _, _, blk_set hcs3 _ _, by simpa using hsz, fun j hj => ?_⟩
        by_cases e : j = z
        · subst e
          rw [Array.getElem?_setIfInBounds_self_of_lt (by omega)]
        · rw [Array.getElem?_setIfInBounds_ne (by omega)]
          exact hin j (by omega)
      case measure => simp [intOf]; omega
    · obtain rfl : z = m := by omega
      go_wp2_with fail
      go_ret
      exact ⟨nb, cs, rfl, by have := HNB.out; omega, hcs, hsz, hin, hkA.step hkz (fun b hb => .inr (by have h' : b = nb := hb; have := HNB.out; omega))⟩
set_option maxRecDepth 100000 in
set_option maxHeartbeats 4000000 in
theorem copyFrom297 {E : List Int} (hB : Bytes E) (g o c m ob : Nat) (cs : Array Value) (t : TypeId) (w : World) (hrow : Row w .u8 g o E) (hE : E.length = 4 * m) (hc : E.length ≤ c) (hm : m ≤ 100000) (hob : w.heap[ob]? = some (.cells cs t (0, 0))) (hsz : cs.size = m) :
    Calls Tryz.prog 297 #[.slice (some ⟨ob, 0, none⟩) m m, .slice (some ⟨g, o, none⟩) E.length c] w fun e w' => e = .returned (.tuple #[]) ∧ Keep (fun b => b = ob) w w' ∧ ∃ cs', w'.heap[ob]? = some (.cells cs' t (0, 0)) ∧ cs'.size = m ∧ ∀ j, j < m → cs'[j]? = some (.int .i32 (i32At E j)) := by
  have HF := Lib.hid (fromBytes299 hB g o c m w hrow hE hc hm)
  have hol := blk_lt hob
  clear hE
  go_enter Tryz.func297, Tryz.ntmps297
  go_wp2_with fail
  refine HF.out.mono ?_
  rintro e w1 ⟨nb, ns, rfl, hnb, hns, hnsz, hin, hk1⟩
  have hob1 := hk1.blk hob (fun h => h)
  obtain ⟨news, hnews⟩ : ∃ news : List Value, news = (List.range m).map fun j => .int .i32 (i32At E j) := ⟨_, rfl⟩
  have hnl : news.length = m := by rw [hnews]; simp
  have hng : ∀ j, j < m → news[j]? = some (.int .i32 (i32At E j)) := fun j hj => by rw [hnews]; simp [hj]
  have hcp := run_copy_cells (P := Tryz.prog) w1 65 65 3 21 ob 0 m m ⟨nb, 0, none⟩ m m news Tryz.underlying65 (by kernel_rfl) (by rw [hnl]; exact (Nat.min_self m).symm)
    (fun j v hj => by
      have hj' : j < m := by have := (List.getElem?_eq_some_iff.1 hj).1; omega
      rw [addr_add0, blk_cell hns, hin j hj', ← hng j hj', hj])
    (fun j hj => by
      rw [Nat.zero_add, blk_cell hob1]
      have : j < cs.size := by omega
      simp [this])
    (fun j hj => blk_frozen hob1 _) (fun v hv => by rw [hnews, List.mem_map] at hv; obtain ⟨j, _, rfl⟩ := hv; rfl)
  rw [hnl] at hcp
  clear hnews
  have hb2 := setCells_blk news 0 w1 cs hob1
  have hk2 : Keep (fun b => b = ob) w (w1.setCells ob 0 news) := Keep.setCells _ _ _ (hk1.mono (fun _ h => h.elim)) (.inl rfl)
  clear HF
  go_wp2_with fail
  go_end0
  refine ⟨rfl, hk2, _, hb2, by rw [putA_size]; exact hsz, fun j hj => ?_⟩
  have := putA_in news 0 cs j (by omega) (by omega)
  rw [Nat.zero_add] at this
  rw [this]
  exact hng j hj
/-- The plain decoder: k numbers are read. -/
def NSt (D : List Int) (N : Nat) (g o pd : Nat) (w : World) (k : Nat) : Prop :=
  ∃ a c, w.heap[pd]? = some (.cells #[.int .i64 (N - k : Nat), .slice a (4 * (N - k)) c, .int .i64 0, .nilIface] 128 (0, 0)) ∧ (k < N → a = some ⟨g, o + 4 * k, none⟩ ∧ 4 * (N - k) ≤ c) ∧ Row w .u8 g o D
theorem i32At_part (D : List Int) (k m j : Nat) (hj : j < m) : i32At ((D.drop (4 * k)).take (4 * m)) j = i32At D (k + j) := by
  have key : ∀ i, i < 4 → ((D.drop (4 * k)).take (4 * m)).getD (4 * j + i) 0 = D.getD (4 * (k + j) + i) 0 := fun i hi => by
    simp only [List.getD_eq_getElem?_getD]
    rw [List.getElem?_take_of_lt (by omega), List.getElem?_drop]
    congr 2
    omega
  have h0 := key 0 (by omega)
  rw [Nat.add_zero, Nat.add_zero] at h0
  unfold i32At
  rw [h0, key 1 (by omega), key 2 (by omega), key 3 (by omega)]
set_option maxRecDepth 100000 in
set_option maxHeartbeats 4000000 in
theorem decode295 {D : List Int} {N : Nat} (hB : Bytes D) (hD : D.length = 4 * N) (g o pd k m ob : Nat) (cs : Array Value) (t : TypeId) (w : World) (hN : N ≤ 1000) (h : NSt D N g o pd w k) (hm : 0 < m) (hkm : k + m ≤ N) (hob : w.heap[ob]? = some (.cells cs t (0, 0))) (hsz : cs.size = m) (n1 : ob ≠ pd) (n2 : ob ≠ g) (n3 : pd ≠ g) :
    Calls Tryz.prog 295 #[.pointer (some ⟨pd, 0, none⟩), .slice (some ⟨ob, 0, none⟩) m m] w fun e w' =>
      e = .returned (.tuple #[.int .i64 m, .nilIface]) ∧ Keep (fun b => b = pd ∨ b = ob) w w' ∧ NSt D N g o pd w' (k + m) ∧ ∃ cs', w'.heap[ob]? = some (.cells cs' t (0, 0)) ∧ cs'.size = m ∧ ∀ j, j < m → cs'[j]? = some (.int .i32 (i32At D (k + j))) := by
  obtain ⟨a, c, hpd, hac, hrow⟩ := h
  obtain ⟨rfl, hc⟩ := hac (by omega)
  obtain ⟨E, hEe⟩ : ∃ E, E = (D.drop (4 * k)).take (4 * m) := ⟨_, rfl⟩
  have hEl : E.length = 4 * m := by rw [hEe]; simp; omega
  have hBE : Bytes E := by rw [hEe]; exact (hB.drop (4 * k)).take (4 * m)
  have hrE : Row w .u8 g (o + 4 * k) E := by rw [hEe]; exact (hrow.drop (4 * k)).take (4 * m)
  have hEj : ∀ j, j < m → i32At E j = i32At D (k + j) := fun j hj => by rw [hEe]; exact i32At_part D k m j hj
  have hc0 := blk_cell hpd
  have hmin : (if (m : Int) < ((N - k : Nat) : Int) then (m : Int) else ((N - k : Nat) : Int)) = (m : Int) := by split <;> omega
  have hmin2 : (if ((N - k : Nat) : Int) < (m : Int) then ((N - k : Nat) : Int) else (m : Int)) = (m : Int) := by split <;> omega
  have HR := Lib.hid (fun w => required296 m (by omega) w)
  obtain ⟨M, hM⟩ : ∃ M, M = 4 * m := ⟨_, rfl⟩
  obtain ⟨L, hL⟩ : ∃ L, L = 4 * (N - k) := ⟨_, rfl⟩
  have HC := Lib.hid (fun w (hr : Row w .u8 g (o + 4 * k) E) (hb : w.heap[ob]? = some (.cells cs t (0, 0))) => copyFrom297 hBE g (o + 4 * k) c m ob cs t w hr hEl (by omega) (by omega) hb hsz)
  simp only [hEl] at HC
  rw [← hM] at HR HC
  rw [← hL] at hpd hc0 hc
  have h4m : (M : Int) ≤ (L : Int) := by omega
  have h4c : (M : Int) ≤ (c : Int) := by omega
  have h2g : (M : Int) ≤ 2147483647 := by omega
  have h40 : (0 : Int) ≤ (M : Int) := by omega
  have HH := Lib.hid (And.intro hEj (And.intro hrE (And.intro hob (And.intro hrow (And.intro hD (And.intro hM hL))))))
  clear hEe hEj hEl hBE hrow hD hsz hM hL
  go_enter Tryz.func295, Tryz.ntmps295
  go_wp2_with fail
  refine (HR.out _).mono ?_
  rintro e w1 ⟨rfl, hw⟩
  have hw' := hw.symm
  clear hw
  subst hw'
  have hcq : ∀ nq i, (w.drewN nq).cell? ⟨pd, i, none⟩ = _ := fun _ => hc0
  have hmm : (m : Int) ≤ (m : Int) := Int.le_refl _
  have hm0 : (0 : Int) ≤ (m : Int) := by omega
  go_wp2_with fail
  refine wp_region_mid 10 (by kernel_rfl) (by kernel_rfl) rfl ?_
  simp only [List.take_succ_cons, List.take_zero, List.drop_succ_cons, List.drop_zero]
  repeat (go_big_quiet_step (fail))
  refine wpQuiet_nil ?_
  rintro _ ⟨nq, rfl⟩
  have hrE := HH.out.2.1
  have hob := HH.out.2.2.1
  have HCn := Lib.hid (HC.out (w.drewN nq) (hrE.keep ((Keep.refl (fun _ => False) w).drewN nq) (fun h => h)) (blk_drewN hob nq))
  clear HC hcq hc0
  go_wp2_with fail
  refine HCn.out.mono ?_
  rintro e w3 ⟨rfl, hk3, cs3, hob3, hsz3, hin3⟩
  have hkw3 : Keep (fun b => b = ob) w w3 := ((Keep.refl (fun b => b = ob) w).drewN nq).trans hk3
  have hpd3 := hkw3.blk hpd (fun h => n1 h.symm)
  have hc3 := fun nq => blk_cell (blk_drewN hpd3 nq)
  have hf3 := fun nq => blk_frozen (blk_drewN hpd3 nq)
  have hh := Lib.hid (And.intro hob3 (And.intro hsz3 (And.intro hin3 hkw3)))
  clear hob3 hsz3 hin3 hkw3 HCn hrE hob hk3
  go_wp2_with fail
  refine wpQuiet_nil ?_
  rintro _ ⟨nq2, rfl⟩
  have hpd4 := blk_drewN hpd3 nq2
  have hc4 := hc3 nq2
  have hf4 := hf3 nq2
  clear hc3 hf3
  have hsub : ((N - k : Nat) : Int) - (m : Int) = ((N - (k + m) : Nat) : Int) := by omega
  obtain ⟨hEj, hrE, hob0, hrow, hD, hM, hL⟩ := HH.out
  have hLM : L - M = 4 * (N - (k + m)) := by omega
  have hh4 := And.intro (blk_drewN hh.out.1 nq2) (And.intro hh.out.2.1 (And.intro hh.out.2.2.1 (hh.out.2.2.2.drewN nq2)))
  generalize w3.drewN nq2 = w4 at *
  clear hh
  have fin : ∀ A : Option Addr, (c ≠ M → A = some ⟨g, o + 4 * k + M, none⟩) → Keep (fun b => b = pd ∨ b = ob) w ((w4.setCell ⟨pd, 1, none⟩ (.slice A (L - M) (c - M))).setCell ⟨pd, 0, none⟩ (.int .i64 (N - (k + m) : Nat))) ∧
      NSt D N g o pd ((w4.setCell ⟨pd, 1, none⟩ (.slice A (L - M) (c - M))).setCell ⟨pd, 0, none⟩ (.int .i64 (N - (k + m) : Nat))) (k + m) ∧
      ∃ cs', ((w4.setCell ⟨pd, 1, none⟩ (.slice A (L - M) (c - M))).setCell ⟨pd, 0, none⟩ (.int .i64 (N - (k + m) : Nat))).heap[ob]? = some (Obj.cells cs' t (0, 0)) ∧ cs'.size = m ∧ ∀ j, j < m → cs'[j]? = some (.int .i32 (i32At D (k + j))) := fun A hA => by
    obtain ⟨hob5, hsz3, hin3, hk4⟩ := hh4
    have hpd5 := hpd4
    have hkf : Keep (fun b => b = pd) w4 ((w4.setCell ⟨pd, 1, none⟩ (.slice A (L - M) (c - M))).setCell ⟨pd, 0, none⟩ (.int .i64 (N - (k + m) : Nat))) := ((Keep.refl (fun b => b = pd) w4).setCell (p := ⟨pd, 1, none⟩) (.inl rfl) _).setCell (p := ⟨pd, 0, none⟩) (.inl rfl) _
    have hb := blk_set (blk_set hpd5 1 (.slice A (L - M) (c - M))) 0 (.int .i64 (N - (k + m) : Nat))
    refine ⟨(hk4.mono (fun _ h => .inr h)).trans (hkf.mono (fun _ h => .inl h)), ⟨A, c - M, ?_, fun hlt => ⟨?_, ?_⟩, (hrow.keep hk4 (fun h => n2 h.symm)).keep hkf (fun h => n3 h.symm)⟩, cs3, hkf.blk hob5 n1, hsz3, fun j hj => by rw [hin3 j hj, hEj j hj]⟩
    · rw [hb, ← hLM]
      rfl
    · rw [hA (by omega)]
      congr 2
      omega
    · omega
  have FIN := Lib.hid fin
  clear fin hEj hrE hob0 hrow hD hM hL hLM
  clear hpd3 hpd hh4
  by_cases hcM : c = M
  · have F1 := FIN.out (some ⟨g, o + 4 * k, none⟩) (fun h => absurd hcM h)
    rw [show c - M = 0 by omega] at F1
    have F1 := Lib.hid F1
    clear FIN
    go_wp2_with fail
    go_ret2
    exact ⟨rfl, F1.out⟩
  · have F1 := Lib.hid (FIN.out (some ⟨g, o + 4 * k + M, none⟩) (fun _ => rfl))
    clear FIN
    go_wp2_with fail
    go_ret2
    exact ⟨rfl, F1.out⟩
end Go.Proofs.YtdamippibpbjhaaGreatDoor.I32

/-! A dictionary that is read as it is needed. -/
namespace Go.Proofs.YtdamippibpbjhaaGreatDoor.I32
open Go.RowKit

theorem info21 : (Tryz.prog.info? 21).map (fun i => (i.zero, i.size, i.bytes)) = some (some (.int .i32 0), 1, 4) := by kernel_rfl
@[go_sem] theorem nil_ahead_Decode81 (a : Addr) (w : World) : (nilAhead 502 123 (.pointer (some a)) "Decode").run Tryz.prog w = .ok (some false) w := by kernel_rfl
@[go_sem] theorem method_Decode81 (a : Addr) (w : World) : (method 502 123 (.pointer (some a)) "Decode").run Tryz.prog w = .ok (295, .pointer (some a)) w := by kernel_rfl
theorem make24 {t e : TypeId} {z : Value} {b : Nat} (ht : Tryz.prog.underlying t = some (.slice e)) (hinfo : (Tryz.prog.info? e).map (fun i => (i.zero, i.size, i.bytes)) = some (some z, 1, b)) (hz1 : z.cells = #[z]) (hb : b ≤ 24) (n : Nat) (hn : n ≤ 100000) (w : World) :
    (Instr.makeSlice t (.int .i64 n) (.int .i64 n)).run Tryz.prog w = .ok (.slice (some ⟨w.heap.size, 0, none⟩) n n) (w.alloc (.cells (madeCells #[z] n) e)) := by
  obtain ⟨i, hi, hzz⟩ := Option.map_eq_some_iff.1 hinfo
  simp only [Prod.mk.injEq] at hzz
  obtain ⟨hz, hs, hb'⟩ := hzz
  have h1 : (i.bytes : Int) * (n : Int) ≤ 281474976710656 := by
    have h2 : i.bytes * n ≤ 24 * 100000 := Nat.mul_le_mul (by omega) hn
    have h3 : ((i.bytes * n : Nat) : Int) ≤ ((24 * 100000 : Nat) : Int) := Int.ofNat_le.2 h2
    rw [Int.natCast_mul] at h3
    omega
  have h := run_make (P := Tryz.prog) w t e i z ht hi hz .i64 .i64 n n (by omega) (by omega) h1 (by omega)
  simpa [hs, hz1] using h

theorem addr_add0 (b j : Nat) : (⟨b, 0, none⟩ : Addr).add j = ⟨b, j, none⟩ := by
  unfold Addr.add
  split
  · subst_vars; rfl
  · simp
/-- A decoder of values, one behind the other: in state k so many are read. F: the blocks that it leans on. -/
structure VDec (VD : World → Nat → Prop) (pd N : Nat) (vals : Nat → Value) (F : Nat → Prop) : Prop where
  one : ∀ j, (vals j).oneCell' = true
  keep : ∀ (S : Nat → Prop) (w w' : World) (k : Nat), VD w k → Keep S w w' → (∀ b, F b → ¬ S b) → VD w' k
  pF : F pd
  lt : ∀ (w : World) (k b : Nat), VD w k → F b → b < w.heap.size
  dec : ∀ (w : World) (k m ob : Nat) (cs : Array Value) (t : TypeId), VD w k → 0 < m → k + m ≤ N → w.heap[ob]? = some (.cells cs t (0, 0)) → cs.size = m → ¬ F ob →
    Calls Tryz.prog 295 #[.pointer (some ⟨pd, 0, none⟩), .slice (some ⟨ob, 0, none⟩) m m] w fun e w' =>
      e = .returned (.tuple #[.int .i64 m, .nilIface]) ∧ Keep (fun b => b = pd ∨ b = ob) w w' ∧ VD w' (k + m) ∧ ∃ cs', w'.heap[ob]? = some (.cells cs' t (0, 0)) ∧ cs'.size = m ∧ ∀ j, j < m → cs'[j]? = some (vals (k + j))
/-- The converter: k entries of the dictionary are there. -/
structure CSt (VD : World → Nat → Prop) (vals : Nat → Value) (pd N dcb base : Nat) (w : World) (k : Nat) (dv : Value) : Prop where
  cells : w.heap[dcb]? = some (.cells #[.iface 123 (.pointer (some ⟨pd, 0, none⟩)), .int .i64 N, dv, .int .i32 0] 194 (0, 0))
  own : w.ownsRow base 21 1 dv k ((List.range k).map vals)
  vd : VD w k
  kN : k ≤ N
theorem own_slice {w : World} {base n : Nat} {e : TypeId} {v : Value} {xs : List Value} (h : w.ownsRow base e 1 v n xs) : ∃ A c, v = .slice A n c := by
  rcases h.2 with ⟨rfl, h0⟩ | ⟨g, cap, cur, rfl, _⟩
  · exact ⟨none, 0, by rw [h0]⟩
  · exact ⟨_, _, rfl⟩
/-- What may have become of the dictionary's block. -/
def Grew (w : World) (dv dv' : Value) : Prop := dv'.ownBlock = dv.ownBlock ∨ ∃ b, dv'.ownBlock = some b ∧ w.heap.size ≤ b

set_option maxRecDepth 100000 in
set_option maxHeartbeats 4000000 in
theorem ensure_any {VD : World → Nat → Prop} {vals : Nat → Value} {pd N : Nat} {F : Nat → Prop} (V : VDec VD pd N vals F) (dcb base k idx : Nat) (dv : Value) (w : World) (hN : N ≤ 1000) (h : CSt VD vals pd N dcb base w k dv) (hidx : idx < N) (hF : ¬ F dcb) (hFd : ∀ b, dv.ownBlock = some b → ¬ F b) (hdd : dv.ownBlock ≠ some dcb) (hbase : base ≤ w.heap.size) :
    Calls Tryz.prog 270 #[.pointer (some ⟨dcb, 0, none⟩), .int .i32 idx] w fun e w' =>
      e = .returned .nilIface ∧ Keep (fun b => b = dcb ∨ b = pd ∨ dv.ownBlock = some b) w w' ∧ ∃ dv' k', idx < k' ∧ CSt VD vals pd N dcb base w' k' dv' ∧ Grew w dv dv' := by
  obtain ⟨A, c, rfl⟩ := own_slice h.own
  have hc := blk_cell h.cells
  have hlt : (idx : Int) < (N : Int) := by omega
  have hle : ¬ ((N : Int) ≤ (idx : Int)) := by omega
  have hi0 : ¬ ((idx : Int) < 0) := by omega
  go_enter Tryz.func270, Tryz.ntmps270
  by_cases hk : idx < k
  · have hk' : ¬ (k ≤ idx) := by omega
    have hk'' : ¬ ((k : Int) ≤ (idx : Int)) := by omega
    go_wp2_with fail
    go_ret
    exact ⟨rfl, Keep.refl _ _, _, k, hk, h, .inl rfl⟩
  · have hkN := h.kN
    obtain ⟨m, hm⟩ : ∃ m, m = idx + 1 - k := ⟨_, rfl⟩
    have hmi : (idx : Int) + 1 - (k : Int) = (m : Int) := by omega
    have hm1 : 1 ≤ m := by omega
    have hkm : k + m = idx + 1 := by omega
    have hk'' : (k : Int) ≤ (idx : Int) := by omega
    have hmk := make24 (t := 65) (e := 21) (by kernel_rfl) info21 rfl (by omega) m (by omega) w
    have hnew := blk_new w (.cells (madeCells #[.int .i32 0] m) 21)
    have hkA : Keep (fun _ => False) w (w.alloc (.cells (madeCells #[.int .i32 0] m) 21)) := (Keep.refl _ w).alloc _
    obtain ⟨nb, hnb⟩ : ∃ nb, nb = w.heap.size := ⟨_, rfl⟩
    have hFn : ¬ F nb := fun hf => by have := V.lt w k nb h.vd hf; omega
    have hndcb : dcb < nb := by rw [hnb]; exact blk_lt h.cells
    have hown := ownsRow_keep h.own hkA (fun _ _ h => h)
    have hvd := V.keep _ _ _ _ h.vd hkA (fun _ _ h => h)
    have hcA := hkA.blk h.cells (fun h => h)
    have hgl : ∀ g, (Value.slice A k c).ownBlock = some g → g < nb := fun g hg => by rw [hnb]; exact (ownsRow_lt h.own g hg).1
    rw [← hnb] at hmk hnew
    have HNB := Lib.hid hnb
    have HH := Lib.hid h
    clear h hnb hm
    generalize w.alloc (.cells (madeCells #[.int .i32 0] m) 21) = w1 at *
    have HDC := Lib.hid (V.dec w1 k m nb _ 21 hvd (by omega) (by omega) hnew (size_madeCells _ _) hFn)
    have hcc := blk_cell hcA
    go_wp2_with fail
    refine HDC.out.mono ?_
    rintro e w2 ⟨rfl, hk2, hvd2, cs2, hcs2, hsz2, hin2⟩
    have hc2 := hk2.blk hcA (fun h => h.elim (fun h => hF (h ▸ V.pF)) (fun h => by omega))
    have hown2 := ownsRow_keep hown hk2 (fun g hg h => h.elim (fun h => hFd g hg (h ▸ V.pF)) (fun h => by have := hgl g hg; omega))
    clear hc hcc HDC hcA hown hvd hnew
    have hcc := blk_cell hc2
    have hff := blk_frozen hc2
    obtain ⟨i21, hi21, hi21z⟩ := Option.map_eq_some_iff.1 info21
    simp only [Prod.mk.injEq] at hi21z
    obtain ⟨hz1, hz2, hz3⟩ := hi21z
    obtain ⟨news, hnews⟩ : ∃ news, news = (List.range m).map fun j => vals (k + j) := ⟨_, rfl⟩
    have hnl : news.length = m * 1 := by rw [hnews]; simp
    have hsrc : ∀ nq j u, news[j]? = some u → (w2.drewN nq).cell? ((⟨nb, 0, none⟩ : Addr).add j) = some u := fun nq j u hj => by
      rw [addr_add0]
      show w2.cell? _ = _
      rw [blk_cell hcs2]
      have hjm : j < m := by
        have := (List.getElem?_eq_some_iff.1 hj).1
        omega
      rw [hin2 j hjm]
      rw [hnews] at hj
      simpa [hjm] using hj
    have hone : ∀ u ∈ news, u.oneCell' = true := fun u hu => by
      rw [hnews, List.mem_map] at hu
      obtain ⟨j, _, rfl⟩ := hu
      exact V.one _
    have hxs : (List.range k).map vals ++ news = (List.range (idx + 1)).map vals := by
      rw [hnews, ← hkm, List.range_add, List.map_append, List.map_map]
      rfl
    have HNW := Lib.hid hnews
    have HXS := Lib.hid hxs
    clear hnews hxs hin2
    have hbq : ∀ nq, base ≤ (w2.drewN nq).heap.size := fun nq => by
      have h1 := hk2.size
      have h2 : nb < w2.heap.size := blk_lt hcs2
      have := HNB.out
      show base ≤ w2.heap.size
      omega
    go_wp2_with fail
    refine wp_region_takes (by kernel_rfl) ?_
    refine wpAny_pure 0 (v := .pointer (some ⟨dcb, 0, none⟩)) (by kernel_rfl) rfl rfl (fun _ _ _ h => h) (fun w' => by go_simp) ?_
    go_simp
    refine wpAny_lex (C := fun w' => ∃ m, w' = w2.drewN m) [1, 2, 3, 4, 5, 6, 7] 8 4 (by kernel_rfl) rfl ⟨1, rfl⟩ ?_
    simp only [List.filterMap_cons, List.filterMap_nil, List.getElem?_cons_succ, List.getElem?_cons_zero]
    change wpQuiet _ _ _ _ (List.cons _ (List.cons _ (List.cons _ (List.cons _ (List.cons _ (List.cons _ (List.cons _ List.nil))))))) _
    repeat (go_big_quiet_step (fail))
    refine wpQuiet_nil ?_
    rintro _ ⟨nq, rfl⟩
    refine wpAny_only 8 (by kernel_rfl) rfl ?_
    have hownq : (w2.drewN nq).ownsRow base 21 1 (.slice A k c) k ((List.range k).map vals) := hown2
    go_wp2_with (first | (at_builtin; refine wpList_append_own_at _ rfl _ _ _ rfl base 21 i21 (.int .i32 0) 1 4 (by kernel_rfl) hi21 hz1 hz2 hz3 rfl (by omega) (.slice A k c) k ((List.range k).map vals) rfl hownq ⟨nb, 0, none⟩ m m news rfl hnl (hsrc nq) hone (by simp only [maxLen]; omega) (by omega) (hbq nq) ?_))
    intro v' w5 hown5 hgrow _ hat
    have hkq : Keep (fun b => b = pd ∨ b = nb) w1 (w2.drewN nq) := hk2.drewN nq
    have hgk := grown_keep hgrow
    have hvd5 : VD w5 (k + m) := V.keep _ _ _ _ (V.keep _ _ _ _ hvd2 ((Keep.refl (fun _ => False) w2).drewN nq) (fun _ _ h => h)) hgk (fun b hb h => hFd b h hb)
    have hc5 := hgk.blk (blk_drewN hc2 nq) (fun h => hdd h)
    rw [HXS.out] at hown5
    rw [hkm] at hvd5
    have hk5 : Keep (fun b => b = dcb ∨ b = pd ∨ (Value.slice A k c).ownBlock = some b) w w5 := by
      have h1 : Keep (fun b => b = dcb ∨ b = pd ∨ (Value.slice A k c).ownBlock = some b) w (w2.drewN nq) := (hkA.mono (fun _ h => h.elim)).step hkq (fun i h => h.elim (fun h => .inl (.inr (.inl h))) (fun h => .inr (by rw [h, HNB.out]; exact Nat.le_refl _)))
      exact h1.trans (hgk.mono (fun _ h => .inr (.inr h)))
    have hgr : Grew w (.slice A k c) v' := hat.imp id (fun h => ⟨_, h, by have h1 := hkA.size; have h2 := hk2.size; show w.heap.size ≤ w2.heap.size; omega⟩)
    have hv'd : v'.ownBlock ≠ some dcb := fun h => by
      rcases hat with e | e
      · rw [e] at h; exact hdd h
      · rw [e] at h
        have h3 : dcb < w2.heap.size := blk_lt hc2
        have h4 : w2.heap.size = dcb := Option.some.inj h
        omega
    obtain ⟨A', c', rfl⟩ := own_slice hown5
    clear hgrow hgk hat hownq hown2 hc2 hcc hff hvd2 hcs2 hk2 hkq hsrc hone
    have hcc := blk_cell hc5
    have hff := blk_frozen hc5
    go_wp2_with fail
    refine wpAny_only 9 (by kernel_rfl) rfl ?_
    go_wp2_with fail
    refine wpAny_only 10 (by kernel_rfl) rfl ?_
    go_wp2_with fail
    refine wpAny_only 11 (by kernel_rfl) rfl ?_
    go_wp2_with fail
    refine wpAny_stop (by kernel_rfl) ?_
    go_wp2_with fail
    go_ret
    have hks : Keep (fun b => b = dcb) w5 (w5.setCell ⟨dcb, 2, none⟩ (.slice A' (idx + 1) c')) := (Keep.refl (fun b => b = dcb) w5).setCell (p := ⟨dcb, 2, none⟩) (.inl rfl) _
    have hcs := blk_set hc5 2 (.slice A' (idx + 1) c')
    exact ⟨rfl, hk5.trans (hks.mono (fun _ h => .inl h)), _, idx + 1, Nat.lt_succ_self _, ⟨by rw [hcs]; rfl, ownsRow_keep hown5 hks (fun g hg h => hv'd (by rw [hg, h])), V.keep _ _ _ _ hvd5 hks (fun b hb h => hF (h ▸ hb)), by omega⟩, hgr⟩
end Go.Proofs.YtdamippibpbjhaaGreatDoor.I32

/-! The converter: are indexes there; entries are copied out. -/
namespace Go.Proofs.YtdamippibpbjhaaGreatDoor.I32
open Go.RowKit

structure COK (F : Nat → Prop) (dcb base : Nat) (w : World) (dv : Value) : Prop where
  f : ¬ F dcb
  fd : ∀ b, dv.ownBlock = some b → ¬ F b
  dd : dv.ownBlock ≠ some dcb
  base : base ≤ w.heap.size
  lt : dcb < w.heap.size
  Fl : ∀ b, F b → b < w.heap.size
theorem COK.next {F : Nat → Prop} {dcb base : Nat} {w w' : World} {dv dv' : Value} (h : COK F dcb base w dv) (hg : Grew w dv dv') (hs : w.heap.size ≤ w'.heap.size) : COK F dcb base w' dv' := by
  refine ⟨h.f, fun b hb hF => ?_, fun e => ?_, Nat.le_trans h.base hs, Nat.lt_of_lt_of_le h.lt hs, fun b hb => Nat.lt_of_lt_of_le (h.Fl b hb) hs⟩
  · rcases hg with e | ⟨b', e, hl⟩
    · exact h.fd b (by rw [← e]; exact hb) hF
    · rw [e] at hb
      cases hb
      have := h.Fl _ hF
      omega
  · rcases hg with e' | ⟨b', e', hl⟩
    · exact h.dd (by rw [← e']; exact e)
    · rw [e'] at e
      cases e
      have := h.lt
      omega
/-- What a call on the converter leaves: 'top' entries and more are there. -/
def CPost (VD : World → Nat → Prop) (vals : Nat → Value) (pd N dcb base : Nat) (w : World) (dv : Value) (ob : Option Nat) (P : Nat → Prop) (w' : World) : Prop :=
  Keep (fun b => b = dcb ∨ b = pd ∨ dv.ownBlock = some b ∨ ob = some b) w w' ∧ ∃ dv' k', P k' ∧ CSt VD vals pd N dcb base w' k' dv' ∧ Grew w dv dv'

set_option maxRecDepth 100000 in
set_option maxHeartbeats 4000000 in
theorem single_any {VD : World → Nat → Prop} {vals : Nat → Value} {pd N : Nat} {F : Nat → Prop} (V : VDec VD pd N vals F) (dcb base k idx : Nat) (dv : Value) (w : World) (hN : N ≤ 1000) (h : CSt VD vals pd N dcb base w k dv) (hidx : idx < N) (hO : COK F dcb base w dv) :
    Calls Tryz.prog 269 #[.pointer (some ⟨dcb, 0, none⟩), .int .i32 idx] w fun e w' => e = .returned (.bool true) ∧ CPost VD vals pd N dcb base w dv none (fun k' => idx < k') w' := by
  have HE := Lib.hid (ensure_any V dcb base k idx dv w hN h hidx hO.f hO.fd hO.dd hO.base)
  clear h hO
  go_enter Tryz.func269, Tryz.ntmps269
  go_wp2_with fail
  refine HE.out.mono ?_
  rintro e w1 ⟨rfl, hk, dv', k', hk', hC, hG⟩
  obtain ⟨A, c, rfl⟩ := own_slice hC.own
  have hcc := blk_cell hC.cells
  have h1 : (idx : Int) < (k' : Int) := by omega
  clear HE
  go_wp2_with fail
  go_ret
  exact ⟨rfl, hk.mono (fun _ h => h.imp id (fun h => h.imp id .inl)), _, k', hk', hC, hG⟩

set_option maxRecDepth 100000 in
set_option maxHeartbeats 4000000 in
theorem isValid_any {VD : World → Nat → Prop} {vals : Nat → Value} {pd N : Nat} {F : Nat → Prop} (V : VDec VD pd N vals F) (dcb base k : Nat) (dv : Value) (w : World) (hN : N ≤ 1000) (h : CSt VD vals pd N dcb base w k dv) (hO : COK F dcb base w dv)
    (ib io n c : Nat) (f : Nat → Nat) (hn : 0 < n) (hn9 : n ≤ 1024) (hf : ∀ j, j < n → w.cell? ⟨ib, io + j, none⟩ = some (.int .i32 (f j))) (hb : ∀ j, j < n → f j < N) :
    Calls Tryz.prog 268 #[.pointer (some ⟨dcb, 0, none⟩), .slice (some ⟨ib, io, none⟩) n c] w fun e w' => e = .returned (.bool true) ∧ CPost VD vals pd N dcb base w dv none (fun k' => ∀ j, j < n → f j < k') w' := by
  have HM := Lib.hid (minMax_any ib io n c f w hn (by omega) hf (fun j hj => by have := hb j hj; omega))
  have HB := Lib.hid hb
  have HC := Lib.hid (And.intro h hO)
  clear h hO hf hb
  go_enter Tryz.func268, Tryz.ntmps268
  go_wp2_with fail
  refine HM.out.mono ?_
  rintro e w1 ⟨⟨mn, mx, rfl, hmn, ⟨jx, hjx, hmx⟩, hle⟩, hw⟩
  have hw' := hw.symm
  clear hw
  subst hw'
  have hmxN : mx < N := by rw [hmx]; exact HB.out jx hjx
  have hmm : mn ≤ mx := by rw [hmx]; exact hmn jx hjx
  have HL := Lib.hid hle
  have HE := Lib.hid (ensure_any V dcb base k mx dv w hN HC.out.1 hmxN HC.out.2.f HC.out.2.fd HC.out.2.dd HC.out.2.base)
  clear hmx hmn hle HM
  go_wp2_with fail
  refine HE.out.mono ?_
  rintro e w2 ⟨rfl, hk, dv', k', hk', hC, hG⟩
  obtain ⟨A, c', rfl⟩ := own_slice hC.own
  have hcc := blk_cell hC.cells
  have h1 : (mx : Int) < (k' : Int) := by omega
  have h2 : (mn : Int) < (k' : Int) := by omega
  clear HE
  go_wp2_with fail
  go_ret
  exact ⟨rfl, hk.mono (fun _ h => h.imp id (fun h => h.imp id .inl)), _, k', fun j hj => Nat.lt_of_le_of_lt (HL.out j hj) hk', hC, hG⟩
end Go.Proofs.YtdamippibpbjhaaGreatDoor.I32

/-! The converter: entries copied out by their indexes; one entry many times. -/
namespace Go.Proofs.YtdamippibpbjhaaGreatDoor.I32
open Go.RowKit

theorem own_cell {w : World} {base n : Nat} {e : TypeId} {A : Option Addr} {c : Nat} {xs : List Value} (h : w.ownsRow base e 1 (.slice A n c) n xs) (i : Nat) (hi : i < n) (v : Value) (hv : xs[i]? = some v) : ∃ g, A = some ⟨g, 0, none⟩ ∧ w.cell? ⟨g, i, none⟩ = some v := by
  rcases h.2 with ⟨e1, h0⟩ | ⟨g, cap, cur, e1, _, hg, _, _, hcs, ht⟩
  · omega
  · cases e1
    refine ⟨g, rfl, ?_⟩
    rw [blk_cell hg]
    have h1 := congrArg (fun z => z[i]?) ht
    simp only [Nat.mul_one] at h1
    rw [List.getElem?_take_of_lt hi, Array.getElem?_toList] at h1
    rw [h1, hv]

set_option maxRecDepth 100000 in
set_option maxHeartbeats 4000000 in
theorem copyOut_any {VD : World → Nat → Prop} {vals : Nat → Value} {pd N : Nat} (hform : ∀ j, ∃ a, vals j = .int .i32 a) (dcb base k : Nat) (dv : Value) (w : World) (h : CSt VD vals pd N dcb base w k dv)
    (ib io n c : Nat) (f : Nat → Nat) (hn9 : n ≤ 1024) (hf : ∀ j, j < n → w.cell? ⟨ib, io + j, none⟩ = some (.int .i32 (f j))) (hb : ∀ j, j < n → f j < k) (ob oo no co : Nat) (cs : Array Value) (t : TypeId) (hob : w.heap[ob]? = some (.cells cs t (0, 0))) (hno : n ≤ no) (hoo : oo + no ≤ cs.size)
    (n1 : ob ≠ dcb) (n2 : dv.ownBlock ≠ some ob) (n3 : ob ≠ ib) :
    Calls Tryz.prog 265 #[.pointer (some ⟨dcb, 0, none⟩), .slice (some ⟨ob, oo, none⟩) no co, .slice (some ⟨ib, io, none⟩) n c] w fun e w' => e = .returned .nilIface ∧ Keep (fun b => b = ob) w w' ∧
      ∃ cs', w'.heap[ob]? = some (.cells cs' t (0, 0)) ∧ cs'.size = cs.size ∧ (∀ j, j < oo ∨ oo + n ≤ j → cs'[j]? = cs[j]?) ∧ ∀ j, j < n → cs'[oo + j]? = some (vals (f j)) := by
  obtain ⟨A, cd, rfl⟩ := own_slice h.own
  have HF := Lib.hid (And.intro hf hb)
  have hown := h.own
  have hcells := h.cells
  clear hf hb h
  go_enter Tryz.func265, Tryz.ntmps265
  go_wp2_with fail
  go_loopw [7, 8, 11] (fun _ _ i wr => ∃ z : Nat, z ≤ n ∧ i = .int .i64 z ∧ Keep (fun b => b = ob) w wr ∧ ∃ cs', wr.heap[ob]? = some (.cells cs' t (0, 0)) ∧ cs'.size = cs.size ∧ (∀ j, j < oo ∨ oo + z ≤ j → cs'[j]? = cs[j]?) ∧ ∀ j, j < z → cs'[oo + j]? = some (vals (f j))) (fun _ _ i _ => n - (intOf i).toNat)
  case atStart => exact ⟨0, Nat.zero_le _, rfl, Keep.refl _ _, cs, hob, rfl, fun _ _ => rfl, fun j hj => absurd hj (by omega)⟩
  case round =>
    obtain ⟨z, hz, rfl, hkz, cs1, hob1, hsz1, hout1, hin1⟩ := hrel
    clear hob
    by_cases hzn : z < n
    · have hci := hkz.cell (HF.out.1 z hzn) (fun h => n3 h.symm)
      have hfk := HF.out.2 z hzn
      obtain ⟨g, rfl, hcg⟩ := own_cell hown (f z) hfk (vals (f z)) (by simp [hfk])
      have hcg1 := hkz.cell hcg (fun h => n2 (by show some g = some ob; rw [show g = ob from h]))
      have hcd := blk_cell (hkz.blk hcells (fun h => n1 h.symm))
      obtain ⟨va, hv⟩ := hform (f z)
      have HV := Lib.hid hv
      rw [hv] at hcg1
      obtain ⟨x, hx⟩ : ∃ x, x = f z := ⟨_, rfl⟩
      have HX := Lib.hid hx
      rw [← hx] at hci hcg1 hfk
      have hco : wr.cell? ⟨ob, oo + z, none⟩ = some (cs1[oo + z]'(by omega)) := by rw [blk_cell hob1]; simp
      have hfo := blk_frozen hob1
      have hxk : (x : Int) < (k : Int) := by omega
      have hzno : (z : Int) < (no : Int) := by omega
      clear hcg hv hx
      go_wp2_with fail
      go_roundw
      case rel =>
        refine ⟨z + 1, hzn, by go_num, hkz.setCell (p := ⟨ob, oo + z, none⟩) (.inl rfl) _, _, blk_set hob1 _ _, by simpa using hsz1, fun j hj => ?_, fun j hj => ?_⟩
        · rw [Array.getElem?_setIfInBounds_ne (by omega)]
          exact hout1 j (by omega)
        · by_cases e : j = z
          · subst e
            rw [Array.getElem?_setIfInBounds_self_of_lt (by omega), HV.out]
          · rw [Array.getElem?_setIfInBounds_ne (by omega)]
            exact hin1 j (by omega)
      case measure => simp [intOf]; omega
    · obtain rfl : z = n := by omega
      go_wp2_with fail
      go_ret
      exact ⟨rfl, hkz, cs1, hob1, hsz1, hout1, hin1⟩
end Go.Proofs.YtdamippibpbjhaaGreatDoor.I32
