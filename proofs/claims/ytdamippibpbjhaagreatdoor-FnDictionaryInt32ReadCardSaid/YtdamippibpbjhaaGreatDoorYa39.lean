import Derived.Test.YtdamippibpbjhaaGreatDoorYa38
import Derived.Test.YtdamippibpbjhaaGreatDoorYa30
/-! The converter: one entry, many times. -/
namespace Go.Proofs.YtdamippibpbjhaaGreatDoor.I32
open Go.RowKit

set_option maxRecDepth 100000 in
set_option maxHeartbeats 4000000 in
theorem fillOut_any {VD : World → Nat → Prop} {vals : Nat → Value} {pd N : Nat} {F : Nat → Prop} (V : VDec VD pd N vals F) (hform : ∀ j, ∃ a, vals j = .int .i32 a) (dcb base k idx : Nat) (dv : Value) (w : World) (hN : N ≤ 1000) (h : CSt VD vals pd N dcb base w k dv) (hidx : idx < N) (hO : COK F dcb base w dv)
    (ob oo n co : Nat) (cs : Array Value) (t : TypeId) (hob : w.heap[ob]? = some (.cells cs t (0, 0))) (hn : 0 < n) (hn9 : n ≤ 100000) (hnc : n ≤ co) (hoo : oo + n ≤ cs.size) (n1 : ob ≠ dcb) (n2 : dv.ownBlock ≠ some ob) (n3 : ¬ F ob) :
    Calls Tryz.prog 266 #[.pointer (some ⟨dcb, 0, none⟩), .slice (some ⟨ob, oo, none⟩) n co, .int .i32 idx] w fun e w' => e = .returned .nilIface ∧ CPost VD vals pd N dcb base w dv (some ob) (fun k' => idx < k') w' ∧
      ∃ cs', w'.heap[ob]? = some (.cells cs' t (0, 0)) ∧ cs'.size = cs.size ∧ (∀ j, j < oo ∨ oo + n ≤ j → cs'[j]? = cs[j]?) ∧ ∀ j, j < n → cs'[oo + j]? = some (vals idx) := by
  have HE := Lib.hid (ensure_any V dcb base k idx dv w hN h hidx hO.f hO.fd hO.dd hO.base)
  have hobl := blk_lt hob
  clear h
  go_enter Tryz.func266, Tryz.ntmps266
  go_wp2_with fail
  refine HE.out.mono ?_
  rintro e w1 ⟨rfl, hk, dv', k', hk', hC, hG⟩
  have hob1 := hk.blk hob (fun h => h.elim n1 (fun h => h.elim (fun h => n3 (h ▸ V.pF)) n2))
  have n2' : dv'.ownBlock ≠ some ob := fun e => by
    rcases hG with e' | ⟨b, e', hl⟩
    · exact n2 (by rw [← e']; exact e)
    · rw [e'] at e
      cases e
      omega
  obtain ⟨A, c, rfl⟩ := own_slice hC.own
  obtain ⟨g, rfl, hcg⟩ := own_cell hC.own idx hk' (vals idx) (by simp [hk'])
  have hcc := blk_cell hC.cells
  obtain ⟨va, hv⟩ := hform idx
  have hv1 : (vals idx).oneCell' = true := V.one idx
  have HV := Lib.hid (And.intro hv hv1)
  rw [hv] at hcg
  have h1 : (idx : Int) < (k' : Int) := by omega
  have hco : w1.cell? ⟨ob, oo, none⟩ = some (cs[oo]'(by omega)) := by rw [blk_cell hob1]; simp
  have hfo := blk_frozen hob1
  have hni : (0 : Int) < (n : Int) := by omega
  have HC := Lib.hid (And.intro hC (And.intro hG hk))
  clear hv hv1 HE hob hC hG hk
  go_wp2_with fail
  have hob2 := blk_set hob1 oo (.int .i32 va)
  have hk2 : Keep (fun b => b = ob) w1 (w1.setCell ⟨ob, oo, none⟩ (.int .i32 va)) := (Keep.refl (fun b => b = ob) w1).setCell (p := ⟨ob, oo, none⟩) (.inl rfl) _
  clear hco hfo hcc hcg
  have hin0 : (cs.setIfInBounds oo (.int .i32 va))[oo + 0]? = some (.int .i32 va) := by rw [Nat.add_zero, Array.getElem?_setIfInBounds_self_of_lt (by omega)]
  have hout0 : ∀ j, j < oo ∨ oo + n ≤ j → (cs.setIfInBounds oo (.int .i32 va))[j]? = cs[j]? := fun j hj => by rw [Array.getElem?_setIfInBounds_ne (by omega)]
  have hsz0 : (cs.setIfInBounds oo (.int .i32 va)).size = cs.size := by simp
  generalize w1.setCell ⟨ob, oo, none⟩ (.int .i32 va) = w2 at *
  generalize cs.setIfInBounds oo (.int .i32 va) = cs2 at *
  go_loopw [8] (fun i wr => ∃ z : Nat, 1 ≤ z ∧ z ≤ 2 * n ∧ i = .int .i64 z ∧ Keep (fun b => b = ob) w1 wr ∧ ∃ cs', wr.heap[ob]? = some (.cells cs' t (0, 0)) ∧ cs'.size = cs.size ∧ (∀ j, j < oo ∨ oo + n ≤ j → cs'[j]? = cs[j]?) ∧ ∀ j, j < z → j < n → cs'[oo + j]? = some (.int .i32 va)) (fun i _ => 2 * n - (intOf i).toNat)
  case atStart => exact ⟨1, Nat.le_refl _, by omega, rfl, hk2, cs2, hob2, hsz0, hout0, fun j hj _ => by rw [show j = 0 by omega]; exact hin0⟩
  case round =>
    clear hob1 hob2 hk2 hin0 hout0 hsz0
    obtain ⟨z, hz1, hz2, rfl, hkz, cs3, hob3, hsz3, hout3, hin3⟩ := hrel
    by_cases hzn : z < n
    · obtain ⟨q, hq⟩ : ∃ q, q = min (n - z) z := ⟨_, rfl⟩
      have hcp := fun nq => run_copy_cells (P := Tryz.prog) (wr.drewN nq) 65 65 3 21 ob (oo + z) (n - z) (co - z) ⟨ob, oo, none⟩ z co (List.replicate q (.int .i32 va)) Tryz.underlying65 (by kernel_rfl)
        (by rw [List.length_replicate, hq]; exact Nat.min_comm _ _)
        (fun j v hj => by
          have hjq : j < q := by have := (List.getElem?_eq_some_iff.1 hj).1; simpa using this
          show wr.cell? _ = _
          have e : (⟨ob, oo, none⟩ : Addr).add j = ⟨ob, oo + j, none⟩ := by
            unfold Addr.add
            split
            · subst_vars; rfl
            · rfl
          rw [e, blk_cell hob3, hin3 j (by omega) (by omega)]
          simpa [hjq] using hj)
        (fun j hj => by
          have hjq : j < q := by simpa using hj
          show (wr.cell? _).isSome = true
          rw [blk_cell hob3]
          have : oo + z + j < cs3.size := by omega
          simp [this])
        (fun j hj => blk_frozen hob3 _) (fun v hv => by rw [List.eq_of_mem_replicate hv, ← HV.out.1]; exact HV.out.2)
      rw [List.length_replicate] at hcp
      have hzc : (z : Int) ≤ (co : Int) := by omega
      have hzni : (z : Int) ≤ (n : Int) := by omega
      have hz0 : (0 : Int) ≤ (z : Int) := by omega
      have hznc : ¬ (co = z) := by omega
      have hob4 := fun nq => setCells_blk (List.replicate q (Value.int .i32 va)) (oo + z) (wr.drewN nq) cs3 (blk_drewN hob3 nq)
      have HP := Lib.hid hcp
      clear hcp
      go_wp2_with fail
      refine wp_region_mid 6 (by kernel_rfl) (by kernel_rfl) rfl ?_
      simp only [List.take_succ_cons, List.take_zero, List.drop_succ_cons, List.drop_zero]
      repeat (go_big_quiet_step (fail))
      refine wpQuiet_nil ?_
      rintro _ ⟨nq, rfl⟩
      have hcp := HP.out nq
      have hb4 := hob4 nq
      have hk4 : Keep (fun b => b = ob) w1 ((wr.drewN nq).setCells ob (oo + z) (List.replicate q (.int .i32 va))) := Keep.setCells _ _ _ (hkz.drewN nq) (.inl rfl)
      have HQ := Lib.hid hq
      clear hq hob4 hob3
      generalize (wr.drewN nq).setCells ob (oo + z) (List.replicate q (.int .i32 va)) = w4 at *
      go_wp2_with fail
      repeat (go_big_quiet_step (fail))
      refine wpQuiet_nil ?_
      rintro _ ⟨nq2, rfl⟩
      go_wp2_with fail
      go_roundw
      case rel =>
        refine ⟨z * 2, by omega, by omega, by go_num, hk4.drewN nq2, _, blk_drewN hb4 nq2, by rw [putA_size]; exact hsz3, fun j hj => ?_, fun j hj hjn => ?_⟩
        · rw [putA_out _ _ _ _ (by rw [List.length_replicate]; have := HQ.out; omega)]
          exact hout3 j hj
        · by_cases e : j < z
          · rw [putA_out _ _ _ _ (by omega)]
            exact hin3 j e hjn
          · have hq := HQ.out
            have := putA_in (List.replicate q (Value.int .i32 va)) (oo + z) cs3 (j - z) (by rw [List.length_replicate]; omega) (by rw [List.length_replicate]; omega)
            rw [show oo + z + (j - z) = oo + j by omega] at this
            rw [this, List.getElem?_replicate, if_pos (by omega)]
      case measure => simp [intOf]; omega
    · have hzn' : ¬ ((z : Int) < (n : Int)) := by omega
      go_wp2_with fail
      go_ret
      obtain ⟨hC, hG, hk⟩ := HC.out
      have hkk : Keep (fun b => b = ob) w1 wr := hkz
      refine ⟨rfl, ⟨(hk.mono (fun _ h => h.imp id (fun h => h.imp id .inl))).trans (hkk.mono (fun b h => .inr (.inr (.inr (by rw [h]))))), _, k', hk', ⟨hkk.blk hC.cells (fun h => n1 h.symm), ownsRow_keep hC.own hkk (fun g' hg h => n2' (by rw [hg, h])), V.keep _ _ _ _ hC.vd hkk (fun b hb h => n3 (h ▸ hb)), hC.kN⟩, hG⟩, cs3, hob3, hsz3, hout3, fun j hj => by rw [HV.out.1]; exact hin3 j (by omega) hj⟩
end Go.Proofs.YtdamippibpbjhaaGreatDoor.I32
