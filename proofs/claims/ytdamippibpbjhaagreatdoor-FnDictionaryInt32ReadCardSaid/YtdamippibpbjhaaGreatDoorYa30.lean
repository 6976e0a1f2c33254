import Derived.Test.YtdamippibpbjhaaGreatDoorYa29
import Derived.Test.YtdamippibpbjhaaGreatDoorYa15
import Derived.Deep.DeepCutAuto
import Derived.Deep.CutBlock
import Derived.Test.YtdamippibpbjhaaGreatDoorYa27
/-! The converter: entries copied out by their indexes; one entry many times. -/
namespace Go.Proofs.YtdamippibpbjhaaGreatDoor
open Go.RowKit

theorem own_cell {w : World} {base n : Nat} {e : TypeId} {A : Option Addr} {c : Nat} {xs : List Value} (h : w.ownsRow base e 1 (.slice A n c) n xs) (i : Nat) (hi : i < n) (v : Value) (hv : xs[i]? = some v) : ∃ g, A = some ⟨g, 0, none⟩ ∧ w.cell? ⟨g, i, none⟩ = some v := by
  rcases h.2 with ⟨e1, h0⟩ | ⟨g, cap, cur, e1, _, hg, _, _, hcs, ht⟩
  · omega
  · cases e1
    refine ⟨g, rfl, ?_⟩
    rw [blk_cell hg]
    have h1 := congrArg (fun z => z[i]?) ht
    simp only [Nat.mul_one] at h1
    rw [List.getElem?_take_of_lt hi, Array.getElem?_toList] at h1
    rw [h1, hv]

set_option maxRecDepth 100000 in
set_option maxHeartbeats 4000000 in
theorem copyOut_any {VD : World → Nat → Prop} {vals : Nat → Value} {pd N : Nat} (hform : ∀ j, ∃ a n c, vals j = .slice a n c) (dcb base k : Nat) (dv : Value) (w : World) (h : CSt VD vals pd N dcb base w k dv)
    (ib io n c : Nat) (f : Nat → Nat) (hn9 : n ≤ 1024) (hf : ∀ j, j < n → w.cell? ⟨ib, io + j, none⟩ = some (.int .i32 (f j))) (hb : ∀ j, j < n → f j < k) (ob oo no co : Nat) (cs : Array Value) (t : TypeId) (hob : w.heap[ob]? = some (.cells cs t (0, 0))) (hno : n ≤ no) (hoo : oo + no ≤ cs.size)
    (n1 : ob ≠ dcb) (n2 : dv.ownBlock ≠ some ob) (n3 : ob ≠ ib) :
    Calls Tryz.prog 257 #[.pointer (some ⟨dcb, 0, none⟩), .slice (some ⟨ob, oo, none⟩) no co, .slice (some ⟨ib, io, none⟩) n c] w fun e w' => e = .returned .nilIface ∧ Keep (fun b => b = ob) w w' ∧
      ∃ cs', w'.heap[ob]? = some (.cells cs' t (0, 0)) ∧ cs'.size = cs.size ∧ (∀ j, j < oo ∨ oo + n ≤ j → cs'[j]? = cs[j]?) ∧ ∀ j, j < n → cs'[oo + j]? = some (vals (f j)) := by
  obtain ⟨A, cd, rfl⟩ := own_slice h.own
  have HF := Lib.hid (And.intro hf hb)
  have hown := h.own
  have hcells := h.cells
  clear hf hb h
  go_enter Tryz.func257, Tryz.ntmps257
  go_wp2_with fail
  go_loopw [7, 8, 11] (fun _ _ i wr => ∃ z : Nat, z ≤ n ∧ i = .int .i64 z ∧ Keep (fun b => b = ob) w wr ∧ ∃ cs', wr.heap[ob]? = some (.cells cs' t (0, 0)) ∧ cs'.size = cs.size ∧ (∀ j, j < oo ∨ oo + z ≤ j → cs'[j]? = cs[j]?) ∧ ∀ j, j < z → cs'[oo + j]? = some (vals (f j))) (fun _ _ i _ => n - (intOf i).toNat)
  case atStart => exact ⟨0, Nat.zero_le _, rfl, Keep.refl _ _, cs, hob, rfl, fun _ _ => rfl, fun j hj => absurd hj (by omega)⟩
  case round =>
    obtain ⟨z, hz, rfl, hkz, cs1, hob1, hsz1, hout1, hin1⟩ := hrel
    clear hob
    by_cases hzn : z < n
    · have hci := hkz.cell (HF.out.1 z hzn) (fun h => n3 h.symm)
      have hfk := HF.out.2 z hzn
      obtain ⟨g, rfl, hcg⟩ := own_cell hown (f z) hfk (vals (f z)) (by simp [hfk])
      have hcg1 := hkz.cell hcg (fun h => n2 (by show some g = some ob; rw [show g = ob from h]))
      have hcd := blk_cell (hkz.blk hcells (fun h => n1 h.symm))
      obtain ⟨va, vn, vc, hv⟩ := hform (f z)
      have HV := Lib.hid hv
      rw [hv] at hcg1
      obtain ⟨x, hx⟩ : ∃ x, x = f z := ⟨_, rfl⟩
      have HX := Lib.hid hx
      rw [← hx] at hci hcg1 hfk
      have hco : wr.cell? ⟨ob, oo + z, none⟩ = some (cs1[oo + z]'(by omega)) := by rw [blk_cell hob1]; simp
      have hfo := blk_frozen hob1
      have hxk : (x : Int) < (k : Int) := by omega
      have hzno : (z : Int) < (no : Int) := by omega
      clear hcg hv hx
      go_wp2_with fail
      go_roundw
      case rel =>
        refine ⟨z + 1, hzn, by go_num, hkz.setCell (p := ⟨ob, oo + z, none⟩) (.inl rfl) _, _, blk_set hob1 _ _, by simpa using hsz1, fun j hj => ?_, fun j hj => ?_⟩
        · rw [Array.getElem?_setIfInBounds_ne (by omega)]
          exact hout1 j (by omega)
        · by_cases e : j = z
          · subst e
            rw [Array.getElem?_setIfInBounds_self_of_lt (by omega), HV.out]
          · rw [Array.getElem?_setIfInBounds_ne (by omega)]
            exact hin1 j (by omega)
      case measure => simp [intOf]; omega
    · obtain rfl : z = n := by omega
      go_wp2_with fail
      go_ret
      exact ⟨rfl, hkz, cs1, hob1, hsz1, hout1, hin1⟩
end Go.Proofs.YtdamippibpbjhaaGreatDoor

/-! The converter: one entry, many times. -/
namespace Go.Proofs.YtdamippibpbjhaaGreatDoor
open Go.RowKit

set_option maxRecDepth 100000 in
set_option maxHeartbeats 4000000 in
theorem fillOut_any {VD : World → Nat → Prop} {vals : Nat → Value} {pd N : Nat} {F : Nat → Prop} (V : VDec VD pd N vals F) (hform : ∀ j, ∃ a n c, vals j = .slice a n c) (dcb base k idx : Nat) (dv : Value) (w : World) (hN : N ≤ 1000) (h : CSt VD vals pd N dcb base w k dv) (hidx : idx < N) (hO : COK F dcb base w dv)
    (ob oo n co : Nat) (cs : Array Value) (t : TypeId) (hob : w.heap[ob]? = some (.cells cs t (0, 0))) (hn : 0 < n) (hn9 : n ≤ 100000) (hnc : n ≤ co) (hoo : oo + n ≤ cs.size) (n1 : ob ≠ dcb) (n2 : dv.ownBlock ≠ some ob) (n3 : ¬ F ob) :
    Calls Tryz.prog 258 #[.pointer (some ⟨dcb, 0, none⟩), .slice (some ⟨ob, oo, none⟩) n co, .int .i32 idx] w fun e w' => e = .returned .nilIface ∧ CPost VD vals pd N dcb base w dv (some ob) (fun k' => idx < k') w' ∧
      ∃ cs', w'.heap[ob]? = some (.cells cs' t (0, 0)) ∧ cs'.size = cs.size ∧ (∀ j, j < oo ∨ oo + n ≤ j → cs'[j]? = cs[j]?) ∧ ∀ j, j < n → cs'[oo + j]? = some (vals idx) := by
  have HE := Lib.hid (ensure_any V dcb base k idx dv w hN h hidx hO.f hO.fd hO.dd hO.base)
  have hobl := blk_lt hob
  clear h
  go_enter Tryz.func258, Tryz.ntmps258
  go_wp2_with fail
  refine HE.out.mono ?_
  rintro e w1 ⟨rfl, hk, dv', k', hk', hC, hG⟩
  have hob1 := hk.blk hob (fun h => h.elim n1 (fun h => h.elim (fun h => n3 (h ▸ V.pF)) n2))
  have n2' : dv'.ownBlock ≠ some ob := fun e => by
    rcases hG with e' | ⟨b, e', hl⟩
    · exact n2 (by rw [← e']; exact e)
    · rw [e'] at e
      cases e
      omega
  obtain ⟨A, c, rfl⟩ := own_slice hC.own
  obtain ⟨g, rfl, hcg⟩ := own_cell hC.own idx hk' (vals idx) (by simp [hk'])
  have hcc := blk_cell hC.cells
  obtain ⟨va, vn, vc, hv⟩ := hform idx
  have hv1 : (vals idx).oneCell' = true := V.one idx
  have HV := Lib.hid (And.intro hv hv1)
  rw [hv] at hcg
  have h1 : (idx : Int) < (k' : Int) := by omega
  have hco : w1.cell? ⟨ob, oo, none⟩ = some (cs[oo]'(by omega)) := by rw [blk_cell hob1]; simp
  have hfo := blk_frozen hob1
  have hni : (0 : Int) < (n : Int) := by omega
  have HC := Lib.hid (And.intro hC (And.intro hG hk))
  clear hv hv1 HE hob hC hG hk
  go_wp2_with fail
  have hob2 := blk_set hob1 oo (.slice va vn vc)
  have hk2 : Keep (fun b => b = ob) w1 (w1.setCell ⟨ob, oo, none⟩ (.slice va vn vc)) := (Keep.refl (fun b => b = ob) w1).setCell (p := ⟨ob, oo, none⟩) (.inl rfl) _
  clear hco hfo hcc hcg
  have hin0 : (cs.setIfInBounds oo (.slice va vn vc))[oo + 0]? = some (.slice va vn vc) := by rw [Nat.add_zero, Array.getElem?_setIfInBounds_self_of_lt (by omega)]
  have hout0 : ∀ j, j < oo ∨ oo + n ≤ j → (cs.setIfInBounds oo (.slice va vn vc))[j]? = cs[j]? := fun j hj => by rw [Array.getElem?_setIfInBounds_ne (by omega)]
  have hsz0 : (cs.setIfInBounds oo (.slice va vn vc)).size = cs.size := by simp
  generalize w1.setCell ⟨ob, oo, none⟩ (.slice va vn vc) = w2 at *
  generalize cs.setIfInBounds oo (.slice va vn vc) = cs2 at *
  go_loopw [8] (fun i wr => ∃ z : Nat, 1 ≤ z ∧ z ≤ 2 * n ∧ i = .int .i64 z ∧ Keep (fun b => b = ob) w1 wr ∧ ∃ cs', wr.heap[ob]? = some (.cells cs' t (0, 0)) ∧ cs'.size = cs.size ∧ (∀ j, j < oo ∨ oo + n ≤ j → cs'[j]? = cs[j]?) ∧ ∀ j, j < z → j < n → cs'[oo + j]? = some (.slice va vn vc)) (fun i _ => 2 * n - (intOf i).toNat)
  case atStart => exact ⟨1, Nat.le_refl _, by omega, rfl, hk2, cs2, hob2, hsz0, hout0, fun j hj _ => by rw [show j = 0 by omega]; exact hin0⟩
  case round =>
    clear hob1 hob2 hk2 hin0 hout0 hsz0
    obtain ⟨z, hz1, hz2, rfl, hkz, cs3, hob3, hsz3, hout3, hin3⟩ := hrel
    by_cases hzn : z < n
    · obtain ⟨q, hq⟩ : ∃ q, q = min (n - z) z := ⟨_, rfl⟩
      have hcp := fun nq => run_copy_cells (P := Tryz.prog) (wr.drewN nq) 107 107 3 106 ob (oo + z) (n - z) (co - z) ⟨ob, oo, none⟩ z co (List.replicate q (.slice va vn vc)) Tryz.underlying107 (by kernel_rfl)
        (by rw [List.length_replicate, hq]; exact Nat.min_comm _ _)
        (fun j v hj => by
          have hjq : j < q := by have := (List.getElem?_eq_some_iff.1 hj).1; simpa using this
          show wr.cell? _ = _
          have e : (⟨ob, oo, none⟩ : Addr).add j = ⟨ob, oo + j, none⟩ := by
            unfold Addr.add
            split
            · subst_vars; rfl
            · rfl
          rw [e, blk_cell hob3, hin3 j (by omega) (by omega)]
          simpa [hjq] using hj)
        (fun j hj => by
          have hjq : j < q := by simpa using hj
          show (wr.cell? _).isSome = true
          rw [blk_cell hob3]
          have : oo + z + j < cs3.size := by omega
          simp [this])
        (fun j hj => blk_frozen hob3 _) (fun v hv => by rw [List.eq_of_mem_replicate hv, ← HV.out.1]; exact HV.out.2)
      rw [List.length_replicate] at hcp
      have hzc : (z : Int) ≤ (co : Int) := by omega
      have hzni : (z : Int) ≤ (n : Int) := by omega
      have hz0 : (0 : Int) ≤ (z : Int) := by omega
      have hznc : ¬ (co = z) := by omega
      have hob4 := fun nq => setCells_blk (List.replicate q (Value.slice va vn vc)) (oo + z) (wr.drewN nq) cs3 (blk_drewN hob3 nq)
      have HP := Lib.hid hcp
      clear hcp
      go_wp2_with fail
      refine wp_region_mid 6 (by kernel_rfl) (by kernel_rfl) rfl ?_
      simp only [List.take_succ_cons, List.take_zero, List.drop_succ_cons, List.drop_zero]
      repeat (go_big_quiet_step (fail))
      refine wpQuiet_nil ?_
      rintro _ ⟨nq, rfl⟩
      have hcp := HP.out nq
      have hb4 := hob4 nq
      have hk4 : Keep (fun b => b = ob) w1 ((wr.drewN nq).setCells ob (oo + z) (List.replicate q (.slice va vn vc))) := Keep.setCells _ _ _ (hkz.drewN nq) (.inl rfl)
      have HQ := Lib.hid hq
      clear hq hob4 hob3
      generalize (wr.drewN nq).setCells ob (oo + z) (List.replicate q (.slice va vn vc)) = w4 at *
      go_wp2_with fail
      repeat (go_big_quiet_step (fail))
      refine wpQuiet_nil ?_
      rintro _ ⟨nq2, rfl⟩
      go_wp2_with fail
      go_roundw
      case rel =>
        refine ⟨z * 2, by omega, by omega, by go_num, hk4.drewN nq2, _, blk_drewN hb4 nq2, by rw [putA_size]; exact hsz3, fun j hj => ?_, fun j hj hjn => ?_⟩
        · rw [putA_out _ _ _ _ (by rw [List.length_replicate]; have := HQ.out; omega)]
          exact hout3 j hj
        · by_cases e : j < z
          · rw [putA_out _ _ _ _ (by omega)]
            exact hin3 j e hjn
          · have hq := HQ.out
            have := putA_in (List.replicate q (Value.slice va vn vc)) (oo + z) cs3 (j - z) (by rw [List.length_replicate]; omega) (by rw [List.length_replicate]; omega)
            rw [show oo + z + (j - z) = oo + j by omega] at this
            rw [this, List.getElem?_replicate, if_pos (by omega)]
      case measure => simp [intOf]; omega
    · have hzn' : ¬ ((z : Int) < (n : Int)) := by omega
      go_wp2_with fail
      go_ret
      obtain ⟨hC, hG, hk⟩ := HC.out
      have hkk : Keep (fun b => b = ob) w1 wr := hkz
      refine ⟨rfl, ⟨(hk.mono (fun _ h => h.imp id (fun h => h.imp id .inl))).trans (hkk.mono (fun b h => .inr (.inr (.inr (by rw [h]))))), _, k', hk', ⟨hkk.blk hC.cells (fun h => n1 h.symm), ownsRow_keep hC.own hkk (fun g' hg h => n2' (by rw [hg, h])), V.keep _ _ _ _ hC.vd hkk (fun b hb h => n3 (h ▸ hb)), hC.kN⟩, hG⟩, cs3, hob3, hsz3, hout3, fun j hj => by rw [HV.out.1]; exact hin3 j (by omega) hj⟩
end Go.Proofs.YtdamippibpbjhaaGreatDoor

/-! A batch of indexes off a bit reader. -/
namespace Go.Proofs.YtdamippibpbjhaaGreatDoor
open Go.RowKit

/-- k indexes of so many bits from bit p on lie in the batch; the reader stands behind them. -/
def GiRel (E : Env) (w : World) (ob oo bits p : Nat) (cs : Array Value) (t : TypeId) (R : World → Nat → Nat → Prop) (k : Nat) (wr : World) : Prop :=
  Keep (fun k => k = E.b ∨ k = E.rb ∨ k = ob) w wr ∧ Src E wr ∧ (∃ off bo, R wr off bo ∧ 8 * off + bo = p + k * bits ∧ bo ≤ 64) ∧
    ∃ cs', wr.heap[ob]? = some (.cells cs' t (0, 0)) ∧ cs'.size = cs.size ∧ (∀ j, j < oo ∨ oo + k ≤ j → cs'[j]? = cs[j]?) ∧ ∀ j, j < k → cs'[oo + j]? = some (.int .i32 (bitsAt E.D (p + j * bits) bits : Nat))
theorem GiRel.mono {E : Env} {w : World} {ob oo bits p : Nat} {cs : Array Value} {t : TypeId} {R R' : World → Nat → Nat → Prop} {k : Nat} {wr : World} (h : GiRel E w ob oo bits p cs t R k wr) (hR : ∀ off bo, R wr off bo → R' wr off bo) :
    GiRel E w ob oo bits p cs t R' k wr := by
  obtain ⟨h1, h2, ⟨off, bo, h3, h4⟩, h5⟩ := h
  exact ⟨h1, h2, ⟨off, bo, hR _ _ h3, h4⟩, h5⟩
/-- One index more. -/
theorem GiRel.next {E : Env} {w : World} {ob oo bits p : Nat} {cs cs' : Array Value} {t : TypeId} {R : World → Nat → Nat → Prop} {k : Nat} {wr w1 : World} {off' bo' : Nat} (hW : E.Wf) (hob : ob ≠ E.b) (horb : ob ≠ E.rb) (hog : ob ≠ E.g) (ho2 : ob ≠ 2)
    (hkr : Keep (fun k => k = E.b ∨ k = E.rb ∨ k = ob) w wr) (hS : Src E wr)
    (hcs : wr.heap[ob]? = some (.cells cs' t (0, 0))) (hsz : cs'.size = cs.size) (hout : ∀ j, j < oo ∨ oo + k ≤ j → cs'[j]? = cs[j]?) (hin : ∀ j, j < k → cs'[oo + j]? = some (.int .i32 (bitsAt E.D (p + j * bits) bits : Nat)))
    (hk1 : Keep (fun k => k = E.b) wr w1) (hR : ∀ v, R (w1.setCell ⟨ob, oo + k, none⟩ v) off' bo') (hp : 8 * off' + bo' = p + k * bits + bits) (h64 : bo' ≤ 64) (hlt : oo + k < cs.size) :
    GiRel E w ob oo bits p cs t R (k + 1) (w1.setCell ⟨ob, oo + k, none⟩ (.int .i32 (bitsAt E.D (p + k * bits) bits : Nat))) := by
  have hcs1 := hk1.blk hcs hob
  refine ⟨(hkr.step hk1 (fun _ h => .inl (.inl h))).setCell (.inl (.inr (.inr rfl))) _, ?_, ⟨off', bo', hR _, ?_, h64⟩, _, blk_set hcs1 (oo + k) _, by simpa using hsz, fun j hj => ?_, fun j hj => ?_⟩
  · exact (hS.keepB hW hk1).keep ((Keep.refl (fun k => k = ob) w1).setCell (.inl rfl) _) (fun e => horb e.symm) (fun e => hog e.symm) (fun e => ho2 e.symm)
  · rw [hp, Nat.add_mul]; omega
  · rw [Array.getElem?_setIfInBounds_ne (by omega)]
    exact hout j (by omega)
  · by_cases e : j = k
    · subst e
      rw [Array.getElem?_setIfInBounds_self_of_lt (by omega)]
    · rw [Array.getElem?_setIfInBounds_ne (by omega)]
      exact hin j (by omega)

theorem GiRel.put {E : Env} {w : World} {ob oo bits p : Nat} {cs cs' : Array Value} {t : TypeId} {R : World → Nat → Nat → Prop} {k : Nat} {wr w2 : World} {off' bo' : Nat} (hW : E.Wf) (horb : ob ≠ E.rb) (hog : ob ≠ E.g) (ho2 : ob ≠ 2)
    (hkr : Keep (fun k => k = E.b ∨ k = E.rb ∨ k = ob) w wr) (hS : Src E wr)
    (hsz : cs'.size = cs.size) (hout : ∀ j, j < oo ∨ oo + k ≤ j → cs'[j]? = cs[j]?) (hin : ∀ j, j < k → cs'[oo + j]? = some (.int .i32 (bitsAt E.D (p + j * bits) bits : Nat)))
    (hk1 : Keep (fun k => k = E.b ∨ k = ob) wr w2) (hob2 : w2.heap[ob]? = some (.cells (cs'.setIfInBounds (oo + k) (.int .i32 (bitsAt E.D (p + k * bits) bits : Nat))) t (0, 0))) (hR : R w2 off' bo') (hp : 8 * off' + bo' = p + k * bits + bits) (h64 : bo' ≤ 64) (hlt : oo + k < cs.size) :
    GiRel E w ob oo bits p cs t R (k + 1) w2 := by
  refine ⟨hkr.step hk1 (fun _ h => .inl (h.imp id .inr)), hS.keep hk1 (fun e => e.elim (fun e => hW.brb e.symm) (fun e => horb e.symm)) (fun e => e.elim (fun e => hW.bg e.symm) (fun e => hog e.symm)) (fun e => e.elim (fun e => hW.b2 e.symm) (fun e => ho2 e.symm)), ⟨off', bo', hR, ?_, h64⟩, _, hob2, by simpa using hsz, fun j hj => ?_, fun j hj => ?_⟩
  · rw [hp, Nat.add_mul]; omega
  · rw [Array.getElem?_setIfInBounds_ne (by omega)]
    exact hout j (by omega)
  · by_cases e : j = k
    · subst e
      rw [Array.getElem?_setIfInBounds_self_of_lt (by omega)]
    · rw [Array.getElem?_setIfInBounds_ne (by omega)]
      exact hin j (by omega)

set_option maxRecDepth 100000 in
set_option maxHeartbeats 4000000 in
/-- Indexes one by one; 'stop': up to the buffer's end alone. -/
theorem scalar_any (E : Env) (w : World) (hW : E.Wf) (hS : Src E w) (off bo n bits : Nat) (stop : Bool) (hb1 : 1 ≤ bits) (hb20 : bits ≤ 20) (hbo : bo ≤ 64) (hb : BL E w off bo) (hn : n ≤ 1024)
    (hlt : 8 * off + bo + n * bits ≤ 8 * E.D.length) (ob oo c : Nat) (cs : Array Value) (t : TypeId) (hob : w.heap[ob]? = some (.cells cs t (0, 0))) (hoo : oo + n ≤ cs.size)
    (o1 : ob ≠ E.b) (o2 : ob ≠ E.rb) (o3 : ob ≠ E.g) (o4 : ob ≠ 2) :
    Calls Tryz.prog 151 #[.pointer (some ⟨E.b, 0, none⟩), .int .u64 bits, .slice (some ⟨ob, oo, none⟩) n c, .bool stop] w fun e w' =>
      ∃ k : Nat, e = .returned (.tuple #[.int .i64 k, .nilIface]) ∧ k ≤ n ∧ (k < n → stop = true) ∧ GiRel E w ob oo bits (8 * off + bo) cs t (fun w off bo => BRaw E w off bo ∧ (k = n → BL E w off bo) ∧ (k < n → bo = 0)) k w' := by
  go_enter Tryz.func151, Tryz.ntmps151
  go_wp2_with fail
  go_loopw [10, 11, 12, 13, 14, 78] (fun i _ _ _ _ _ wr => ∃ k : Nat, k ≤ n ∧ i = .int .i64 k ∧ GiRel E w ob oo bits (8 * off + bo) cs t (BL E) k wr) (fun i _ _ _ _ _ _ => n - (intOf i).toNat)
  case atStart => exact ⟨0, Nat.zero_le _, rfl, Keep.refl _ w, hS, ⟨off, bo, hb, by omega, hbo⟩, cs, hob, rfl, fun _ _ => rfl, fun j hj => absurd hj (by omega)⟩
  case round =>
    obtain ⟨k, hkn, rfl, hG⟩ := hrel
    clear hb hob hbo hS
    by_cases h : k < n
    · obtain ⟨hkr, hSr, ⟨off', bo', hbl, hpos, hbo'⟩, cs', hcs', hsz, hout, hin⟩ := hG
      have hbl' := hbl
      obtain ⟨cs0, hcs0, hB0⟩ := hbl'
      have hc := blk_cell hcs0
      have hf := blk_frozen hcs0
      have c1 := hB0.c1
      have c2 := hB0.c2
      have c3 := hB0.c3
      have c4 := hB0.c4
      obtain ⟨sb, hsb⟩ : ∃ sb : Bool, sb = (stop && (decide (bo' = 0) || decide (bo' = 64))) := ⟨_, rfl⟩
      go_upto_region 3 with fail
      go_cut [33] from 15 to 126 (fun v wx => v = .bool sb ∧ wx = wr)
      case first =>
        cases stop
        · go_wp2_with fail
          go_meet
          exact ⟨by rw [hsb]; rfl, rfl⟩
        · by_cases h0 : bo' = 0
          · have hz : ((bo' : Int) == 0) = true := by rw [h0]; rfl
            go_wp2_with fail
            go_meet
            exact ⟨by rw [hsb, h0]; rfl, rfl⟩
          · have hz : ((bo' : Int) == 0) = false := beq_eq_false_iff_ne.2 (by omega)
            by_cases h64 : bo' = 64
            · have hz2 : ((bo' : Int) == 64) = true := by rw [h64]; rfl
              go_wp2_with fail
              go_meet
              exact ⟨by rw [hsb, h64]; rfl, rfl⟩
            · have hz2 : ((bo' : Int) == 64) = false := beq_eq_false_iff_ne.2 (by omega)
              go_wp2_with fail
              go_meet
              exact ⟨by rw [hsb, decide_eq_false h0, decide_eq_false h64]; rfl, rfl⟩
      case rest =>
        obtain ⟨rfl, hw⟩ := hcut
        subst hw
        have hcap := hW.cap
        have hoff : off' ≤ 140737488351232 := by
          have h1 : k * bits ≤ n * bits := Nat.mul_le_mul_right _ hkn
          omega
        cases sb
        · clear hsb
          -- not at the end, or no stop
          obtain ⟨vb, hvb⟩ : ∃ vb : Nat, vb = 8 * min 8 (E.D.length - off') := ⟨_, rfl⟩
          have hvbi : ((min 8 (E.D.length - off') : Nat) * 8 : Int) = (vb : Int) := by omega
          rw [hvbi] at c4 hB0
          have hvb64 : vb ≤ 64 := by omega
          have Hvb := Lib.hid hvb
          clear hvb hvbi
          have HL := Lib.hid (show (k + 1) * bits ≤ n * bits from Nat.mul_le_mul_right _ h)
          have hroom : 8 * off' + bo' + bits ≤ 8 * E.D.length := by have := HL.out; rw [Nat.add_mul] at this; omega
          obtain ⟨av, hav⟩ : ∃ av, av = (vb - bo') / bits := ⟨_, rfl⟩
          have hbn : bits ≠ 0 := by omega
          have HAV := Lib.hid (Nat.div_mul_le_self (vb - bo') bits)
          rw [← hav] at HAV
          have HNX := Lib.hid (fun m => next_any E (wc.drewN m) hW (hSr.keepB hW ((Keep.refl _ wc).drewN m)) off' bo' bits hb1 (by omega) hbo' (by obtain ⟨c, h1, h2⟩ := hbl; exact ⟨c, blk_drewN h1 m, h2⟩) hroom)
          rw [hpos] at HNX
          have hvq : ∀ x : Int, x = (vb : Int) - (bo' : Int) → bo' < vb → x / (bits : Int) = (av : Int) := fun x hx hlt => by rw [hx, hav, Int.natCast_ediv, Int.natCast_sub (by omega)]
          have HVQ := Lib.hid hvq
          have HAVE := Lib.hid hav
          clear hvq hav
          go_wp2_with fail
          go_quiet (fail)
          by_cases hbv : bo' < vb
          · have hvq2 := HVQ.out _ rfl hbv
            have hbz : ((bits : Int) == 0) = false := beq_eq_false_iff_ne.2 (by omega)
            have hav64 : av ≤ 64 := by rw [HAVE.out]; exact Nat.le_trans (Nat.div_le_self _ _) (by omega)
            obtain ⟨mv, hmv⟩ : ∃ mv, mv = min av (n - k) := ⟨_, rfl⟩
            have hmin : (if (n : Int) - (k : Int) < (av : Int) then (n : Int) - (k : Int) else (av : Int)) = (mv : Int) := by split <;> omega
            have hmk : k + mv ≤ n := by omega
            have HMV := Lib.hid hmv
            have hmb : bo' + mv * bits ≤ vb := by
              have h1 : mv * bits ≤ av * bits := Nat.mul_le_mul_right _ (by omega)
              have := HAV.out
              omega
            clear hmv
            go_wp2_with fail
            go_quiet (fail)
            go_wp2_with fail
            go_loopw [10, 12, 78] (fun i _ q wx => ∃ m : Nat, m ≤ mv ∧ q = .int .i64 m ∧ i = .int .i64 (k + m : Nat) ∧ GiRel E w ob oo bits (8 * off + bo) cs t (fun w o b => BL E w o b ∧ o = off' ∧ b = bo' + m * bits) (k + m) wx) (fun _ _ q _ => mv - (intOf q).toNat)
            case atStart =>
              refine ⟨0, Nat.zero_le _, rfl, rfl, hkr.drewN _, hSr.keepB hW ((Keep.refl _ wc).drewN _), ⟨off', bo', ⟨?_, rfl, by omega⟩, hpos, hbo'⟩, cs', blk_drewN hcs' _, hsz, hout, hin⟩
              obtain ⟨c, h1, h2⟩ := hbl
              exact ⟨c, blk_drewN h1 _, h2⟩
            case round =>
              obtain ⟨m, hm, rfl, rfl, hkr, hSr, ⟨o2', b2', ⟨hbl2, rfl, rfl⟩, hpos2, hbo2⟩, cs2, hcs2, hsz2, hout2, hin2⟩ := hrel
              clear hbl hcs' hcs0 hc hf c1 c2 c3 c4 hB0 hout hin
              have hbl2' := hbl2
              obtain ⟨cs0, hcs0, hB0⟩ := hbl2'
              by_cases hmm : m < mv
              · have hc := blk_cell hcs0
                have hf := blk_frozen hcs0
                have c1 := hB0.c1
                have c3 := hB0.c3
                have hms : (m + 1) * bits ≤ mv * bits := Nat.mul_le_mul_right _ hmm
                rw [Nat.add_mul, Nat.one_mul] at hms
                obtain ⟨b2, hb2⟩ : ∃ b2, b2 = bo' + m * bits := ⟨_, rfl⟩
                rw [← hb2] at c3 hB0 hbl2 hpos2 hbo2
                have hb2v : b2 + bits ≤ 64 := by omega
                have HB2 := Lib.hid hb2
                clear hb2 hms hmb
                have HT := Lib.hid (fun w' => trailing_any (bitsAt E.D (8 * o2') 64) (b2 + bits) w' (bitsAt_lt _ _ _) hb2v)
                have hx20 : bitsAt E.D (8 * off + bo + (k + m) * bits) bits < 1048576 := Nat.lt_of_lt_of_le (bitsAt_lt _ _ _) (Nat.pow_le_pow_right (by decide) hb20 : 2 ^ bits ≤ 2 ^ 20)
                have hval : bitsAt E.D (8 * o2') 64 % 2 ^ (b2 + bits) / 2 ^ b2 = bitsAt E.D (8 * off + bo + (k + m) * bits) bits := by
                  rw [bitsAt_mod _ _ _ _ hb2v, ← hpos2]
                  have h2 := bitsAt_bits E.D (8 * o2') (b2 + bits) b2 bits (Nat.le_refl _)
                  rw [← h2]
                  exact (Nat.mod_eq_of_lt (Nat.div_lt_of_lt_mul (by rw [← Nat.pow_add]; exact bitsAt_lt _ _ _))).symm
                obtain ⟨u, hu⟩ : ∃ u, u = bitsAt E.D (8 * o2') 64 % 2 ^ (b2 + bits) := ⟨_, rfl⟩
                obtain ⟨x, hx⟩ : ∃ x, x = bitsAt E.D (8 * off + bo + (k + m) * bits) bits := ⟨_, rfl⟩
                rw [← hu] at HT
                rw [← hu, ← hx] at hval
                rw [← hx] at hx20
                have hvi : (u : Int) / 2 ^ b2 = (x : Int) := by rw [← hval]; simp
                have HX := Lib.hid hx
                have hco : wr.cell? ⟨ob, oo + (k + m), none⟩ = some (cs2[oo + (k + m)]'(by omega)) := by rw [blk_cell hcs2]; simp
                have hfo := blk_frozen hcs2
                clear hx hu hval
                go_wp2_with fail
                refine wp_region_mid 15 (by kernel_rfl) (by kernel_rfl) rfl ?_
                simp only [List.take_succ_cons, List.take_zero, List.drop_succ_cons, List.drop_zero]
                repeat (go_big_quiet_step ((go_at_call 170; exact Calls.quiet_of_same (HT.out _))))
                refine wpQuiet_nil ?_
                rintro _ ⟨nq2, rfl⟩
                go_wp2_with fail
                repeat (go_big_quiet_step (fail))
                refine wpQuiet_nil ?_
                rintro _ ⟨nq3, rfl⟩
                go_wp2_with fail
                go_roundw
                case rel =>
                  have hk2 : Keep (fun k => k = E.b ∨ k = ob) wr ((((wr.drewN nq2).setCell ⟨ob, oo + (k + m), none⟩ (.int .i32 x)).drewN nq3).setCell ⟨E.b, 3, none⟩ (.int .u64 ((b2 : Int) + bits))) := ((((Keep.refl (fun k => k = E.b ∨ k = ob) wr).drewN nq2).setCell (p := ⟨ob, oo + (k + m), none⟩) (.inl (.inr rfl)) _).drewN nq3).setCell (p := ⟨E.b, 3, none⟩) (.inl (.inl rfl)) _
                  refine ⟨m + 1, hmm, by go_num, by go_num, GiRel.put (k := k + m) (R := fun w o b => BL E w o b ∧ o = o2' ∧ b = bo' + (m + 1) * bits) (off' := o2') (bo' := b2 + bits) hW o2 o3 o4 hkr hSr hsz2 hout2 hin2 hk2 ?_ ⟨?_, rfl, by have := HB2.out; rw [Nat.add_mul]; omega⟩ (by omega) hb2v (by omega)⟩
                  · rw [← HX.out]
                    exact blk_far (blk_drewN (blk_set (blk_drewN hcs2 nq2) _ _) nq3) (fun h => o1 h.symm) _
                  · exact ⟨_, blk_set (blk_drewN (blk_far (blk_drewN hcs0 nq2) o1 _) nq3) 3 _, hB0.set3 _⟩
                case measure => simp [intOf]; omega
              · obtain rfl : m = mv := by omega
                by_cases hm0 : m = 0
                · subst hm0
                  have HL := HL.out
                  have HN := Lib.hid (next_any E wr hW hSr o2' bo' bits hb1 (by omega) hbo' (by simpa using hbl2) (by rw [Nat.add_mul] at HL; omega))
                  have hx20 : bitsAt E.D (8 * off + bo + k * bits) bits < 1048576 := Nat.lt_of_lt_of_le (bitsAt_lt _ _ _) (Nat.pow_le_pow_right (by decide) hb20 : 2 ^ bits ≤ 2 ^ 20)
                  rw [hpos] at HN
                  obtain ⟨x, hx⟩ : ∃ x, x = bitsAt E.D (8 * off + bo + k * bits) bits := ⟨_, rfl⟩
                  rw [← hx] at hx20 HN
                  have HX := Lib.hid hx
                  clear hx HL
                  go_wp2_with fail
                  refine HN.out.mono ?_
                  rintro e w1 ⟨rfl, hk1, off1, bo1, hb1', hp1, hB1, h641⟩
                  have hcs1 := hk1.blk hcs2 o1
                  have hco : w1.cell? ⟨ob, oo + k, none⟩ = some (cs2[oo + k]'(by omega)) := by rw [blk_cell hcs1]; simp
                  have hfo := blk_frozen hcs1
                  have HG := Lib.hid (GiRel.next (k := k) (R := BL E) hW o1 o2 o3 o4 hkr hSr hcs2 hsz2 hout2 hin2 hk1 (fun v => BR.far hb1' o1 _ v) hp1 h641 (by omega))
                  rw [← HX.out] at HG
                  clear hbl2 hcs2 HN
                  go_wp2_with fail
                  go_roundw
                  case rel => exact ⟨k + 1, h, by go_num, HG.out⟩
                  case measure => simp [intOf]; omega
                · have hm0i : (0 : Int) < (m : Int) := by omega
                  go_wp2_with fail
                  go_roundw
                  case rel => exact ⟨k + m, hmk, rfl, hkr, hSr, ⟨o2', bo' + m * bits, hbl2, hpos2, hbo2⟩, cs2, hcs2, hsz2, hout2, hin2⟩
                  case measure => simp [intOf]; omega
          · have hx20 : bitsAt E.D (8 * off + bo + k * bits) bits < 1048576 := Nat.lt_of_lt_of_le (bitsAt_lt _ _ _) (Nat.pow_le_pow_right (by decide) hb20 : 2 ^ bits ≤ 2 ^ 20)
            obtain ⟨x, hx⟩ : ∃ x, x = bitsAt E.D (8 * off + bo + k * bits) bits := ⟨_, rfl⟩
            rw [← hx] at hx20 HNX
            have HX := Lib.hid hx
            clear hx
            go_wp2_with fail
            refine (HNX.out _).mono ?_
            rintro e w1 ⟨rfl, hk1, off1, bo1, hb1', hp1, hB1, h641⟩
            have hk1q : Keep (fun k => k = E.b) wc w1 := ((Keep.refl _ wc).drewN _).trans hk1
            have hcs1 := hk1q.blk hcs' o1
            have hco : w1.cell? ⟨ob, oo + k, none⟩ = some (cs'[oo + k]'(by omega)) := by rw [blk_cell hcs1]; simp
            have hfo := blk_frozen hcs1
            have HG := Lib.hid (GiRel.next (R := BL E) hW o1 o2 o3 o4 hkr hSr hcs' hsz hout hin hk1q (fun v => BR.far hb1' o1 _ v) hp1 h641 (by omega))
            rw [← HX.out] at HG
            clear hbl hcs' HNX hc c1 c2 c3 c4 hB0 hcs0 hk1
            go_wp2_with fail
            go_roundw
            case rel => exact ⟨k + 1, h, by go_num, HG.out⟩
            case measure => simp [intOf]; omega
        · have hst : stop = true ∧ (bo' = 0 ∨ bo' = 64) := by simpa using hsb.symm
          have HST := Lib.hid hst
          clear hst hsb
          by_cases h64 : bo' = 64
          · have hz2 : ((bo' : Int) == 64) = true := by rw [h64]; rfl
            have h64' := Lib.hid h64
            clear h64
            go_wp2_with fail
            go_ret2
            refine ⟨k, rfl, hkn, fun _ => HST.out.1, ?_⟩
            have e1 : (off' : Int) + 8 = ((off' + 8 : Nat) : Int) := by omega
            have hk2 : Keep (fun k => k = E.b) wc ((wc.setCell ⟨E.b, 2, none⟩ (.int .i64 ((off' : Int) + 8))).setCell ⟨E.b, 3, none⟩ (.int .u64 0)) := ((Keep.refl (fun k => k = E.b) wc).setCell (p := ⟨E.b, 2, none⟩) (.inl rfl) _).setCell (p := ⟨E.b, 3, none⟩) (.inl rfl) _
            refine ⟨hkr.step hk2 (fun _ h => .inl (.inl h)), hSr.keepB hW hk2, ⟨off' + 8, 0, ⟨⟨_, _, _, blk_set (blk_set hcs0 2 _) 3 _, by rw [← e1]; exact (hB0.set2 _).set3 0⟩, fun h => absurd h (by omega), fun _ => rfl⟩, by have := h64'.out; omega, by omega⟩, cs', hk2.blk hcs' o1, hsz, hout, hin⟩
          · have hz2 : ((bo' : Int) == 64) = false := beq_eq_false_iff_ne.2 (by omega)
            have h64' := Lib.hid h64
            clear h64
            go_wp2_with fail
            go_ret2
            exact ⟨k, rfl, hkn, fun _ => HST.out.1, hkr, hSr, ⟨off', bo', ⟨hbl.raw, fun h => absurd h (by omega), fun _ => HST.out.2.elim id (fun h => absurd h h64'.out)⟩, hpos, hbo'⟩, cs', hcs', hsz, hout, hin⟩
    · obtain rfl : k = n := by omega
      go_wp2_with fail
      go_ret2
      exact ⟨k, rfl, Nat.le_refl _, fun h => absurd h (by omega), hG.mono (fun off bo h => ⟨h.raw, fun _ => h, fun h => absurd h (by omega)⟩)⟩
end Go.Proofs.YtdamippibpbjhaaGreatDoor

/-! A batch of indexes, groups of 32 at once. -/
namespace Go.Proofs.YtdamippibpbjhaaGreatDoor
open Go.RowKit

theorem info183 : (Tryz.prog.info? 183).map (fun i => (i.zero, i.size, i.bytes)) = some (some (.int .u32 0), 1, 4) := by kernel_rfl
/-- Two batches, one behind the other. -/
theorem GiRel.comp {E : Env} {w w1 w2 : World} {ob oo bits p k n : Nat} {cs cs1 : Array Value} {t : TypeId} {R : World → Nat → Nat → Prop} (h1 : Keep (fun k => k = E.b ∨ k = E.rb ∨ k = ob) w w1) (hsz : cs1.size = cs.size)
    (hout : ∀ j, j < oo ∨ oo + k ≤ j → cs1[j]? = cs[j]?) (hin : ∀ j, j < k → cs1[oo + j]? = some (.int .i32 (bitsAt E.D (p + j * bits) bits : Nat))) (h : GiRel E w1 ob (oo + k) bits (p + k * bits) cs1 t R n w2) :
    GiRel E w ob oo bits p cs t R (k + n) w2 := by
  obtain ⟨a1, a2, ⟨off, bo, a3, a4, a5⟩, cs2, a6, a7, a8, a9⟩ := h
  refine ⟨h1.trans a1, a2, ⟨off, bo, a3, by rw [a4, Nat.add_mul]; omega, a5⟩, cs2, a6, a7.trans hsz, fun j hj => ?_, fun j hj => ?_⟩
  · rw [a8 j (by omega)]; exact hout j (by omega)
  · by_cases hk : j < k
    · rw [a8 (oo + j) (by omega)]; exact hin j hk
    · have := a9 (j - k) (by omega)
      rw [show oo + k + (j - k) = oo + j by omega] at this
      rw [this]
      congr 4
      rw [show j * bits = k * bits + (j - k) * bits by rw [← Nat.add_mul]; congr 1; omega]
      omega

theorem GiRel.zero {E : Env} {w1 w2 : World} {ob oo oo' bits p : Nat} {cs1 : Array Value} {t : TypeId} {R : World → Nat → Nat → Prop} (h : GiRel E w1 ob oo bits p cs1 t R 0 w2) : GiRel E w1 ob oo' bits p cs1 t R 0 w2 := by
  obtain ⟨a1, a2, a3, cs2, a6, a7, a8, _⟩ := h
  exact ⟨a1, a2, a3, cs2, a6, a7, fun j _ => a8 j (by omega), fun j hj => absurd hj (by omega)⟩
theorem Keep.drop {S S' : Nat → Prop} {w w' : World} (h : Keep S w w') (hs : ∀ k, S k → S' k ∨ w.heap.size ≤ k) : Keep S' w w' :=
  ⟨h.os, h.tape, h.output, h.size, fun k hk hn => h.block k hk (fun e => (hs k e).elim hn (fun h => by omega))⟩

set_option maxRecDepth 100000 in
set_option maxHeartbeats 4000000 in
theorem index_any (E : Env) (w : World) (hW : E.Wf) (hS : Src E w) (off bo n bits : Nat) (hn0 : 0 < n) (hn : n ≤ 1024) (hb1 : 1 ≤ bits) (hb20 : bits ≤ 20) (hbo : bo ≤ 64) (hb : BL E w off bo)
    (hlt : 8 * off + bo + n * bits ≤ 8 * E.D.length) (ob oo c : Nat) (cs : Array Value) (t : TypeId) (hob : w.heap[ob]? = some (.cells cs t (0, 0))) (hoo : oo + n ≤ cs.size) (hnc : n ≤ c)
    (o1 : ob ≠ E.b) (o2 : ob ≠ E.rb) (o3 : ob ≠ E.g) (o4 : ob ≠ 2) :
    Calls Tryz.prog 134 #[.pointer (some ⟨E.b, 0, none⟩), .int .u64 bits, .slice (some ⟨ob, oo, none⟩) n c] w fun e w' =>
      e = .returned (.tuple #[.int .i64 n, .nilIface]) ∧ GiRel E w ob oo bits (8 * off + bo) cs t (BL E) n w' := by
  have hbl := hb
  obtain ⟨cs0, hcs0, hB0⟩ := hbl
  have hc := blk_cell hcs0
  have c3 := hB0.c3
  have hb32 : ¬ ((32 : Int) < (bits : Int)) := by omega
  have hbz : ((bits : Int) == 0) = false := beq_eq_false_iff_ne.2 (by omega)
  go_enter Tryz.func134, Tryz.ntmps134
  go_upto_if 29 with fail
  go_cut [6, 7, 9] from 15 to 48 (fun i err _ wr => ∃ k : Nat, k < n ∧ i = .int .i64 k ∧ err = .nilIface ∧ GiRel E w ob oo bits (8 * off + bo) cs t (fun w o b => BRaw E w o b ∧ b = 0) k wr)
  case first =>
    by_cases h0 : bo = 0
    · have hz : ((bo : Int) == 0) = true := by rw [h0]; rfl
      go_wp2_with fail
      go_meet
      exact ⟨0, hn0, rfl, rfl, Keep.refl _ w, hS, ⟨off, bo, ⟨hb.raw, h0⟩, by omega, hbo⟩, cs, hob, rfl, fun _ _ => rfl, fun j hj => absurd hj (by omega)⟩
    · have hz : ((bo : Int) == 0) = false := beq_eq_false_iff_ne.2 (by omega)
      have HSC := Lib.hid (scalar_any E w hW hS off bo n bits true hb1 hb20 hbo hb hn hlt ob oo c cs t hob hoo o1 o2 o3 o4)
      go_wp2_with fail
      refine HSC.out.mono ?_
      rintro e w1 ⟨k, rfl, hkn, _, hG⟩
      by_cases hk : k = n
      · subst hk
        have HG := Lib.hid (hG.mono (R' := BL E) (fun off bo h => h.2.1 rfl))
        clear hG HSC
        go_wp2_with fail
        go_ret2
        exact ⟨rfl, HG.out⟩
      · have hkz : ((k : Int) == (n : Int)) = false := beq_eq_false_iff_ne.2 (by omega)
        have HG := Lib.hid (hG.mono (R' := fun w o b => BRaw E w o b ∧ b = 0) (fun off bo h => ⟨h.1, h.2.2 (by omega)⟩))
        clear hG HSC
        go_wp2_with fail
        go_meet
        exact ⟨k, by omega, rfl, rfl, HG.out⟩
  case rest =>
    obtain ⟨k, hkn, rfl, rfl, hkr, hSr, ⟨off1, bo1, ⟨⟨buf, vb, cs1, hcs1, hB1⟩, rfl⟩, hpos, _⟩, cs2, hcs2, hsz2, hout2, hin2⟩ := hcut
    clear hc c3 hB0 hcs0 hb hob hS hbo
    obtain ⟨ri, rq, hrd⟩ := hSr.rd
    have hc := blk_cell hcs1
    have c0 := hB1.c0
    have c2 := hB1.c2
    have hcap := hW.cap
    have hkb : (k + (n - k)) * bits = n * bits := by congr 1; omega
    rw [Nat.add_mul] at hkb
    have hoff1 : off1 ≤ 140737488351232 := by omega
    have HK := Lib.hid (fun m => seek_any E.R E.g E.o E.sc off1 ri rq E.D (wc.drewN m) (blk_drewN hrd m) hoff1)
    go_wp2_with fail
    refine wp_region_mid 10 (by kernel_rfl) (by kernel_rfl) rfl ?_
    simp only [List.take_succ_cons, List.take_zero, List.drop_succ_cons, List.drop_zero]
    repeat (go_big_quiet_step (fail))
    refine wpQuiet_nil ?_
    rintro _ ⟨nq, rfl⟩
    go_wp2_with fail
    refine (HK.out nq).mono ?_
    rintro e w1 ⟨rfl, hk1, hr1⟩
    have hk2 : Keep (fun k => k = E.rb) wc w1 := ((Keep.refl _ wc).drewN nq).trans hk1
    have hcs3 := hk2.blk hcs1 hW.brb
    have hob3 := hk2.blk hcs2 o2
    have hrow3 := hSr.row.keep hk2 (fun e => hW.rbg e.symm)
    have heof3 := hk2.cell hSr.eof (fun e => hW.rb2 e.symm)
    clear hc HK hk1 hrd hcs1 hcs2
    go_wp2_with fail
    repeat (go_big_quiet_step (fail))
    refine wpQuiet_nil ?_
    rintro _ ⟨nq2, rfl⟩
    have hk3 : Keep (fun k => k = E.rb) wc (w1.drewN nq2) := hk2.drewN nq2
    have hcs4 := blk_drewN hcs3 nq2
    have hob4 := blk_drewN hob3 nq2
    have hrow4 : Row (w1.drewN nq2) .u8 E.g E.o E.D := hrow3
    have heof4 : (w1.drewN nq2).cell? ⟨2, 0, none⟩ = _ := heof3
    have hr4 : Rdr (w1.drewN nq2) E.R E.g E.o E.sc E.D off1 := hr1
    clear hk2 hcs3 hob3 hrow3 heof3 hr1
    generalize w1.drewN nq2 = w2 at *
    obtain ⟨d, hd⟩ : ∃ d, d = n - k := ⟨_, rfl⟩
    have hnk : (n : Int) - (k : Int) = (d : Int) := by omega
    have hmk := make_big (t := 293) (e := 183) (by kernel_rfl) info183 rfl (by omega) d (by omega) w2
    have hd0 : (0 : Int) ≤ (d : Int) := by omega
    have hkni : (k : Int) < (n : Int) := by omega
    have hdp : 1 ≤ (n - k) * bits := Nat.mul_pos (by omega) hb1
    have hobl := blk_lt hob4
    have h2l : 2 < w2.heap.size := World.block_lt_of_cell? w2 _ heof4
    have hcl := blk_lt hcs4
    have hnew := blk_new w2 (.cells (madeCells #[.int .u32 0] d) 183)
    have hkA : Keep (fun _ => False) w2 (w2.alloc (.cells (madeCells #[.int .u32 0] d) 183)) := (Keep.refl _ w2).alloc _
    obtain ⟨nb, hnb⟩ : ∃ nb, nb = w2.heap.size := ⟨_, rfl⟩
    have hszn : wc.heap.size ≤ nb := by rw [hnb]; exact hk3.size
    rw [← hnb] at hmk hnew hobl hcl h2l
    obtain ⟨rq4, hrd4⟩ := hr4
    have hrl := blk_lt hrd4
    have hgl : nb ≠ E.g := fun e => by
      have h : E.g < w2.heap.size := World.block_lt_of_cell? w2 _ (hrow4 0 (by omega))
      omega
    have hcs5 := hkA.blk hcs4 (fun h => h)
    have hob5 := hkA.blk hob4 (fun h => h)
    have hrow5 := hrow4.keep hkA (fun h => h)
    have heof5 := hkA.cell heof4 (fun h => h)
    have hr5 : Rdr _ E.R E.g E.o E.sc E.D off1 := ⟨rq4, hkA.blk hrd4 (fun h => h)⟩
    have hk5 : Keep (fun k => k = E.rb) wc _ := hk3.trans (hkA.mono (fun _ h => h.elim))
    clear hk3 hcs4 hob4 hrow4 heof4 hkA
    generalize w2.alloc (.cells (madeCells #[.int .u32 0] d) 183) = w3 at *
    obtain ⟨q, hq⟩ : ∃ q, q = d / 32 := ⟨_, rfl⟩
    have hbq : 8 * (4 * bits * q) = q * 32 * bits := by
      rw [Nat.mul_assoc 4, Nat.mul_comm q 32, Nat.mul_assoc 32, Nat.mul_comm bits q]
      omega
    have hqd : q * 32 * bits ≤ d * bits := Nat.mul_le_mul_right _ (by omega)
    have HU := Lib.hid (unpack32_any E.R E.g E.o E.sc nb 0 d d off1 bits E.D (madeCells #[.int .u32 0] d) 183 w3 ⟨hb1, by omega⟩ hr5 hrow5 hnew (fun k hk => ⟨0, by omega, by omega, by
      rw [← Array.getElem?_toList, toList_madeCells_one]
      simp [hk]⟩) (Nat.le_refl _) (by rw [size_madeCells]; omega) (by omega)
      (by omega) (fun e => hgl e.symm) (fun e => hW.rbg e.symm) (by rw [← hq]; rw [← hd] at hkb; omega) hW.len hcap hW.byte)
    rw [← hq] at HU
    have hmd : q * 32 ≤ d := by omega
    have HQ := Lib.hid hq
    have HBQ := Lib.hid hbq
    have HD := Lib.hid hd
    have HKB := Lib.hid hkb
    have HQD := Lib.hid hqd
    have HNB := Lib.hid hnb
    clear hq hbq hqd hd hkb hnb hr5 hrd4
    obtain ⟨bq, hbqe⟩ : ∃ bq, bq = 4 * bits * q := ⟨_, rfl⟩
    obtain ⟨m, hm⟩ : ∃ m, m = q * 32 := ⟨_, rfl⟩
    rw [← hbqe, ← hm] at HU HBQ
    rw [← hm] at hmd HQD
    clear hm hbqe
    have hcb := blk_cell hcs5
    go_wp2_with fail
    refine HU.out.mono ?_
    rintro e w4 ⟨rfl, hk6, hr6, cs6, hcs6, hsz6, hout6, hin6⟩
    have hcs7 := hk6.blk hcs5 (fun h => h.elim (fun h => hW.brb h) (fun h => by omega))
    have hob7 := hk6.blk hob5 (fun h => h.elim (fun h => o2 h) (fun h => by omega))
    have hrow7 := hrow5.keep hk6 (fun h => h.elim (fun h => hW.rbg h.symm) (fun h => hgl h.symm))
    have heof7 := hk6.cell heof5 (fun h => h.elim (fun h => hW.rb2 h.symm) (fun h => by have h : 2 = nb := h; omega))
    have hk7 : Keep (fun k => k = E.rb ∨ k = nb) wc w4 := (hk5.mono (fun _ h => .inl h)).trans hk6
    clear hk6 hk5 hcs5 hob5 hrow5 heof5 hcb HU hnew hdp
    have HIN := Lib.hid hin6
    clear hin6 hout6
    go_wp2_with fail
    go_loopw [13, 85] (fun _ i wr => ∃ z : Nat, z ≤ m ∧ i = .int .i64 z ∧ Keep (fun k => k = ob) w4 wr ∧ ∃ cs', wr.heap[ob]? = some (.cells cs' t (0, 0)) ∧ cs'.size = cs.size ∧ (∀ j, j < oo ∨ oo + (k + z) ≤ j → cs'[j]? = cs[j]?) ∧ ∀ j, j < k + z → cs'[oo + j]? = some (.int .i32 (bitsAt E.D (8 * off + bo + j * bits) bits : Nat))) (fun _ i _ => m - (intOf i).toNat)
    case atStart => exact ⟨0, Nat.zero_le _, rfl, Keep.refl _ _, cs2, hob7, hsz2, hout2, hin2⟩
    case round =>
      obtain ⟨z, hz, rfl, hkz, cs7, hob8, hsz8, hout8, hin8⟩ := hrel
      by_cases hzm : z < m
      · have hcx : wr.cell? ⟨nb, 0 + z, none⟩ = some (.int .u32 (bitsAt E.D (8 * off1 + z * bits) bits : Nat)) := by
          rw [blk_cell (hkz.blk hcs6 (fun h => by have h : nb = ob := h; omega))]
          exact HIN.out z hzm
        have hpz : 8 * off1 + z * bits = 8 * off + bo + (k + z) * bits := by rw [Nat.add_mul]; omega
        rw [hpz, Nat.zero_add] at hcx
        have hx20 : bitsAt E.D (8 * off + bo + (k + z) * bits) bits < 1048576 := Nat.lt_of_lt_of_le (bitsAt_lt _ _ _) (Nat.pow_le_pow_right (by decide) hb20 : 2 ^ bits ≤ 2 ^ 20)
        obtain ⟨x, hx⟩ : ∃ x, x = bitsAt E.D (8 * off + bo + (k + z) * bits) bits := ⟨_, rfl⟩
        rw [← hx] at hx20 hcx
        have HX := Lib.hid hx
        have hco : wr.cell? ⟨ob, oo + (k + z), none⟩ = some (cs7[oo + (k + z)]'(by omega)) := by rw [blk_cell hob8]; simp
        have hfo := blk_frozen hob8
        clear hx hpz hcs6 hcs7 hob7
        go_wp2_with fail
        go_roundw
        case rel =>
          refine ⟨z + 1, hzm, by go_num, hkz.setCell (p := ⟨ob, oo + (k + z), none⟩) (.inl rfl) _, _, blk_set hob8 _ _, by simpa using hsz8, fun j hj => ?_, fun j hj => ?_⟩
          · rw [Array.getElem?_setIfInBounds_ne (by omega)]
            exact hout8 j (by omega)
          · by_cases e : j = k + z
            · subst e
              rw [Array.getElem?_setIfInBounds_self_of_lt (by omega), HX.out]
            · rw [Array.getElem?_setIfInBounds_ne (by omega)]
              exact hin8 j (by omega)
        case measure => simp [intOf]; omega
      · obtain rfl : z = m := by omega
        have hcs8 := hkz.blk hcs7 (fun h => o1 h.symm)
        have hc := blk_cell hcs8
        have hf := blk_frozen hcs8
        have hbq := HBQ.out
        have hdb : d * bits = (n - k) * bits := by rw [HD.out]
        have hbql : 8 * off1 + 8 * bq ≤ 8 * E.D.length := by have := HQD.out; have := HKB.out; omega
        have hmul : (z : Int) * (bits : Int) = 8 * (bq : Int) := by rw [← Int.natCast_mul, ← hbq]; omega
        have hq8 : (8 * (bq : Int)).tdiv 8 = (bq : Int) := Int.mul_tdiv_cancel_left _ (by decide)
        have HBQL := Lib.hid (And.intro hbq hbql)
        have hbq9 : (off1 : Int) + (bq : Int) ≤ 140737488351232 := by omega
        clear hbq hbql hdb
        go_wp2_with fail
        have hk8 : Keep (fun k => k = E.b) wr (wr.setCell ⟨E.b, 2, none⟩ (.int .i64 ((off1 : Int) + bq))) := (Keep.refl (fun k => k = E.b) wr).setCell (p := ⟨E.b, 2, none⟩) (.inl rfl) _
        have hSr8 : Src E (wr.setCell ⟨E.b, 2, none⟩ (.int .i64 ((off1 : Int) + bq))) := by
          obtain ⟨q6, hq6⟩ := hr6
          exact ⟨⟨_, q6, hk8.blk (hkz.blk hq6 (fun h => o2 h.symm)) (fun h => hW.brb h.symm)⟩, (hrow7.keep hkz (fun h => o3 h.symm)).keep hk8 (fun h => hW.bg h.symm), hk8.cell (hkz.cell heof7 (fun h => o4 h.symm)) (fun h => hW.b2 h.symm)⟩
        have hbr8 : BR E (wr.setCell ⟨E.b, 2, none⟩ (.int .i64 ((off1 : Int) + bq))) ((off1 + bq : Nat) : Int) 0 buf vb := ⟨_, blk_set hcs8 2 _, hB1.set2 _⟩
        have hob9 := hk8.blk hob8 o1
        have hkk : Keep (fun k => k = E.b ∨ k = E.rb ∨ k = ob) w (wr.setCell ⟨E.b, 2, none⟩ (.int .i64 ((off1 : Int) + bq))) :=
          hkr.trans ((((hk7.drop (S' := fun k => k = E.rb) (fun k h => h.elim .inl (fun h => .inr (by rw [h]; exact hszn)))).mono (fun _ h => .inr (.inl h))).trans (hkz.mono (fun _ h => .inr (.inr h)))).trans (hk8.mono (fun _ h => .inl h)))
        have HFI := Lib.hid (fill_any E _ hW hSr8 (off1 + bq) 0 buf vb hbr8)
        have HKK := Lib.hid hkk
        clear hkk
        refine HFI.out.mono ?_
        rintro e w9 ⟨rfl, hk9, hb9⟩
        have hb9' := BL.of hW (off := off1 + bq) (bo := 0) hb9
        have hSr9 := hSr8.keepB hW hk9
        have hob10 := hk9.blk hob9 o1
        have hk10 := HKK.out.step hk9 (fun _ h => .inl (.inl h))
        have hkz2 : (k + z + (n - (k + z))) * bits = n * bits := by congr 1; have := HD.out; omega
        rw [Nat.add_mul, Nat.add_mul] at hkz2
        have hlt9 : 8 * (off1 + bq) + 0 + (n - (k + z)) * bits ≤ 8 * E.D.length := by have := HBQL.out.1; omega
        have hp9 : 8 * (off1 + bq) + 0 = 8 * off + bo + (k + z) * bits := by have := HBQL.out.1; rw [Nat.add_mul]; omega
        have hkzn : k + z ≤ n := by have := HD.out; omega
        have HSC := Lib.hid (fun (oo' c' : Nat) (h : oo' + (n - (k + z)) ≤ cs7.size) => scalar_any E w9 hW hSr9 (off1 + bq) 0 (n - (k + z)) bits false hb1 hb20 (by omega) hb9' (by omega) hlt9 ob oo' c' cs7 t hob10 h o1 o2 o3 o4)
        rw [hp9] at HSC
        have HH := Lib.hid (And.intro hk10 (And.intro hsz8 (And.intro hout8 hin8)))
        clear hk9 hb9 hb9' hSr9 hob10 hob9 hob8 hk8 hSr8 hbr8 hk7 hkz hcs8 hc hf HFI hk10 hsz8 hout8 hin8 hkz2 hlt9 hp9 hcs6 hcs7 hob7 hrow7 heof7 hr6
        go_wp2_with fail
        case inl =>
          refine (HSC.out oo 0 (by have := HH.out.2.1; omega)).mono ?_
          rintro e w10 ⟨kk, rfl, hkk, hst, hG⟩
          have hkk2 : kk = n - (k + z) := by
            by_cases e : kk < n - (k + z)
            · cases hst e
            · omega
          subst hkk2
          have hz0 : n - (k + z) = 0 := by omega
          have hG1 := hG.mono (R' := BL E) (fun off bo h => h.2.1 rfl)
          rw [hz0] at hG1
          have HG := Lib.hid (GiRel.comp (k := k + z) (n := 0) HH.out.1 HH.out.2.1 HH.out.2.2.1 HH.out.2.2.2 hG1.zero)
          rw [show k + z + 0 = n by omega] at HG
          have hsum : (k : Int) + (z : Int) = (n : Int) := by omega
          clear hG1
          clear hG HSC HH
          go_wp2_with fail
          go_ret2
          exact ⟨rfl, HG.out⟩
        case inr =>
          refine (HSC.out (oo + (k + z)) (c - (k + z)) (by have := HH.out.2.1; omega)).mono ?_
          rintro e w10 ⟨kk, rfl, hkk, hst, hG⟩
          have hkk2 : kk = n - (k + z) := by
            by_cases e : kk < n - (k + z)
            · cases hst e
            · omega
          subst hkk2
          have HG := Lib.hid ((GiRel.comp (k := k + z) (n := n - (k + z)) HH.out.1 HH.out.2.1 HH.out.2.2.1 HH.out.2.2.2 hG).mono (R' := BL E) (fun off bo h => h.2.1 rfl))
          rw [show k + z + (n - (k + z)) = n by omega] at HG
          have hsum : (k : Int) + (z : Int) + ((n - (k + z) : Nat) : Int) = (n : Int) := by omega
          clear hG HSC HH
          go_wp2_with fail
          go_ret2
          exact ⟨rfl, HG.out⟩
end Go.Proofs.YtdamippibpbjhaaGreatDoor
