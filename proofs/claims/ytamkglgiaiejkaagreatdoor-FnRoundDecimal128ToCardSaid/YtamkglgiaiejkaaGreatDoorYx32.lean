import Derived.Test.YtamkglgiaiejkaaGreatDoorYx30
import Derived.Test.YtamkglgiaiejkaaGreatDoorYx31
/-! The kernel's rounding: its kinds of regions, each once, for whatever slots they write. -/
namespace Go.Proofs.YtamkglgiaiejkaaGreatDoor
open Go.RowKit

/-- The blocks and numbers of a call of the kernel's rounding. -/
structure Kn where
  rb : Nat
  tb : Nat
  ib : Nat
  ob : Nat
  vb : Nat
  qb : Nat
  nb : Nat
  mode : Int
  has : Bool
  lom : Nat
  upm : Int
  lof : Nat
  upf : Int
  lon : Nat
  upn : Int
  lor : Nat
  upr : Int
  loq : Nat
  upq : Int
/-- What is known in every world on the way. -/
structure Env (k : Kn) (C : World → Prop) : Prop where
  keep : ∀ w w', C w → Keep (fun _ => False) w w' → C w'
  c0 : ∀ w, C w → w.cell? ⟨k.rb, 0, none⟩ = some (.iface 47 (.pointer (some ⟨k.tb, 0, none⟩)))
  c1 : ∀ w, C w → w.cell? ⟨k.rb, 1, none⟩ = some (.int .i8 k.mode)
  c2 : ∀ w, C w → w.cell? ⟨k.rb, 2, none⟩ = some (.int .u64 k.lom)
  c3 : ∀ w, C w → w.cell? ⟨k.rb, 3, none⟩ = some (.int .i64 k.upm)
  c4 : ∀ w, C w → w.cell? ⟨k.rb, 4, none⟩ = some (.int .u64 k.lof)
  c5 : ∀ w, C w → w.cell? ⟨k.rb, 5, none⟩ = some (.int .i64 k.upf)
  c6 : ∀ w, C w → w.cell? ⟨k.rb, 6, none⟩ = some (.int .u64 k.lon)
  c7 : ∀ w, C w → w.cell? ⟨k.rb, 7, none⟩ = some (.int .i64 k.upn)
  c8 : ∀ w, C w → w.cell? ⟨k.rb, 8, none⟩ = some (.bool k.has)
  c9 : ∀ w, C w → w.cell? ⟨k.rb, 9, none⟩ = some (.pointer (some ⟨k.ib, 0, none⟩))
  i0 : ∀ w, C w → w.cell? ⟨k.ib, 0, none⟩ = some (.pointer (some ⟨k.ob, 0, none⟩))
  i4 : ∀ w, C w → w.cell? ⟨k.ib, 4, none⟩ = some (.func (.func 47) #[] #[])
  i5 : ∀ w, C w → w.cell? ⟨k.ib, 5, none⟩ = some (.func (.func 49) #[] #[])
  i8 : ∀ w, C w → w.cell? ⟨k.ib, 8, none⟩ = some (.func (.func 55) #[] #[])
  o0 : ∀ w, C w → w.cell? ⟨k.ob, 0, none⟩ = some (.func (.func 72) #[] #[])
  o1 : ∀ w, C w → w.cell? ⟨k.ob, 1, none⟩ = some (.func (.func 74) #[] #[])
  o3 : ∀ w, C w → w.cell? ⟨k.ob, 3, none⟩ = some (.func (.func 76) #[] #[])
  o6 : ∀ w, C w → w.cell? ⟨k.ob, 6, none⟩ = some (.func (.func 83) #[] #[])
  q0 : ∀ w, C w → w.cell? ⟨k.qb, 0, none⟩ = some (.int .u64 k.lor)
  q1 : ∀ w, C w → w.cell? ⟨k.qb, 1, none⟩ = some (.int .i64 k.upr)
  n0 : ∀ w, C w → w.cell? ⟨k.nb, 0, none⟩ = some (.int .u64 1)
  n1 : ∀ w, C w → w.cell? ⟨k.nb, 1, none⟩ = some (.int .i64 0)
  v : ∀ w, C w → w.heap[k.vb]? = some (.cells #[.int .u64 k.loq, .int .i64 k.upq] 42 (0, 0))
theorem Env.v0 {k : Kn} {C : World → Prop} (h : Env k C) (w : World) (hC : C w) : w.cell? ⟨k.vb, 0, none⟩ = some (.int .u64 k.loq) := by rw [blk_cell (h.v w hC)]; rfl
theorem Env.v1 {k : Kn} {C : World → Prop} (h : Env k C) (w : World) (hC : C w) : w.cell? ⟨k.vb, 1, none⟩ = some (.int .i64 k.upq) := by rw [blk_cell (h.v w hC)]; rfl
theorem Env.drew {k : Kn} {C : World → Prop} (h : Env k C) (w : World) (hC : C w) : C w.drew := h.keep _ _ hC ((Keep.refl _ w).drew)
theorem enters83 (args : Array Value) (w : World) : (callFunc 83 args).run Tryz.prog w = .ok (.enter 83 args) w := enters Tryz.func83 (by kernel_rfl) (by kernel_rfl) args w
theorem enters72 (args : Array Value) (w : World) : (callFunc 72 args).run Tryz.prog w = .ok (.enter 72 args) w := enters Tryz.func72 (by kernel_rfl) (by kernel_rfl) args w
theorem enters74 (args : Array Value) (w : World) : (callFunc 74 args).run Tryz.prog w = .ok (.enter 74 args) w := enters Tryz.func74 (by kernel_rfl) (by kernel_rfl) args w
theorem enters55 (args : Array Value) (w : World) : (callFunc 55 args).run Tryz.prog w = .ok (.enter 55 args) w := enters Tryz.func55 (by kernel_rfl) (by kernel_rfl) args w
theorem enters49 (args : Array Value) (w : World) : (callFunc 49 args).run Tryz.prog w = .ok (.enter 49 args) w := enters Tryz.func49 (by kernel_rfl) (by kernel_rfl) args w
def signD (s : Nat) (lss : Bool) : List (Option Tmp × Op × Option (Nat × Bool)) := [(some s, Op.move (.tmp 0), none), (some (s + 1), Op.nilCheck (.tmp s), none), (some (s + 2), Op.fieldAddr 87 (.tmp (s + 1)) 6, none), (some (s + 3), Op.load 68 (.tmp (s + 2)), none), (some (s + 4), Op.nilCheck (.tmp (s + 3)), none), (some (s + 5), Op.fieldAddr 99 (.tmp (s + 4)) 0, none), (some (s + 6), Op.load 88 (.tmp (s + 5)), none), (some (s + 7), Op.nilCheck (.tmp (s + 6)), none), (some (s + 8), Op.fieldAddr 104 (.tmp (s + 7)) 6, none), (some (s + 9), Op.load 102 (.tmp (s + 8)), none), (some (s + 10), Op.load 42 (.tmp 9), none), (some (s + 11), Op.call { callee := .value (.tmp (s + 9)), args := #[.tmp (s + 10)], argTypes := #[42] }, none), (some (s + 12), Op.binOp (if lss then .lss else .geq) 3 (.tmp (s + 11)) (.const (.int .i64 0)) 3, none)]
def signO : List (Nat × Bool) := [(0, true), (1, true), (2, true), (3, true), (4, true), (5, true), (6, true), (7, true), (8, true), (9, true), (10, true), (11, false), (12, false)]
set_option maxRecDepth 100000 in
set_option maxHeartbeats 4000000 in
theorem signR (k : Kn) {C : World → Prop} (hE : Env k C) (r : Int) (HS : ∀ w, Calls Tryz.prog 83 #[.agg #[.int .u64 k.lor, .int .i64 k.upr]] w fun e w' => ∃ z : Int, e = .returned (.int .i64 z) ∧ (z < 0 ↔ r < 0) ∧ (z = 0 ↔ r = 0) ∧ (0 < z ↔ 0 < r) ∧ Keep (fun _ => False) w w')
    (s : Nat) (lss : Bool) {l : List Oper} {id : Nat} {Q : Exit → Act → World → Prop} {A : Act} {w : World} (hD : Desc l (signD s lss)) (hB : lexB .any l.toArray signO (Array.replicate 13 false) = true) (hlen : l.length = 13) (hQ : Blind Q)
    (hs : 10 < s) (hsz : s + 13 ≤ A.tmps.size) (h0 : A.eval (.tmp 0) = .pointer (some ⟨k.rb, 0, none⟩)) (h9 : A.eval (.tmp 9) = .pointer (some ⟨k.qb, 0, none⟩)) (hC : C w)
    (h : ∀ A' w', Fr s A A' → A'.eval (.tmp (s + 12)) = .bool (if lss then decide (r < 0) else decide (0 ≤ r)) → C w' → Q .normal A' w') : (Code.region id l.toArray true).wp Tryz.prog Q A w := by
  unfold signD at hD
  unfold signO at hB
  refine wp_region_takesC C (by kernel_rfl) ?_
  rw [hlen]
  have hC0 := hE.drew w hC
  generalize w.drew = w0 at *
  refine wpC_takeR hD hQ 0 s _ (.pointer (some ⟨k.rb, 0, none⟩)) hB rfl (fun o ρ w' hp hρ hC => ?_) (fun hB => ?_)
  · have e0 : ρ (.tmp 0) = .pointer (some ⟨k.rb, 0, none⟩) := by
      rw [hρ]
      repeat (refine (ev_ne (by omega)).trans ?_)
      exact h0
    clear hρ
    unfold execOp
    rw [hp]
    go_simp
  refine wpC_takeR hD hQ 1 (s + 1) _ (.pointer (some ⟨k.rb, 0, none⟩)) hB rfl (fun o ρ w' hp hρ hC => ?_) (fun hB => ?_)
  · have e0 : ρ (.tmp s) = .pointer (some ⟨k.rb, 0, none⟩) := by
      rw [hρ]
      repeat (refine (ev_ne (by omega)).trans ?_)
      exact ev_eq (by first | omega | (simp only [sz_put]; omega))
    clear hρ
    unfold execOp
    rw [hp]
    go_simp
  refine wpC_takeR hD hQ 2 (s + 2) _ (.pointer (some ⟨k.rb, 9, none⟩)) hB rfl (fun o ρ w' hp hρ hC => ?_) (fun hB => ?_)
  · have e0 : ρ (.tmp (s + 1)) = .pointer (some ⟨k.rb, 0, none⟩) := by
      rw [hρ]
      repeat (refine (ev_ne (by omega)).trans ?_)
      exact ev_eq (by first | omega | (simp only [sz_put]; omega))
    clear hρ
    unfold execOp
    rw [hp]
    go_simp
  refine wpC_takeR hD hQ 3 (s + 3) _ (.pointer (some ⟨k.ib, 0, none⟩)) hB rfl (fun o ρ w' hp hρ hC => ?_) (fun hB => ?_)
  · have e0 : ρ (.tmp (s + 2)) = .pointer (some ⟨k.rb, 9, none⟩) := by
      rw [hρ]
      repeat (refine (ev_ne (by omega)).trans ?_)
      exact ev_eq (by first | omega | (simp only [sz_put]; omega))
    clear hρ
    have d0 := hE.c9 w' hC
    unfold execOp
    rw [hp]
    go_simp
  refine wpC_takeR hD hQ 4 (s + 4) _ (.pointer (some ⟨k.ib, 0, none⟩)) hB rfl (fun o ρ w' hp hρ hC => ?_) (fun hB => ?_)
  · have e0 : ρ (.tmp (s + 3)) = .pointer (some ⟨k.ib, 0, none⟩) := by
      rw [hρ]
      repeat (refine (ev_ne (by omega)).trans ?_)
      exact ev_eq (by first | omega | (simp only [sz_put]; omega))
    clear hρ
    unfold execOp
    rw [hp]
    go_simp
  refine wpC_takeR hD hQ 5 (s + 5) _ (.pointer (some ⟨k.ib, 0, none⟩)) hB rfl (fun o ρ w' hp hρ hC => ?_) (fun hB => ?_)
  · have e0 : ρ (.tmp (s + 4)) = .pointer (some ⟨k.ib, 0, none⟩) := by
      rw [hρ]
      repeat (refine (ev_ne (by omega)).trans ?_)
      exact ev_eq (by first | omega | (simp only [sz_put]; omega))
    clear hρ
    unfold execOp
    rw [hp]
    go_simp
  refine wpC_takeR hD hQ 6 (s + 6) _ (.pointer (some ⟨k.ob, 0, none⟩)) hB rfl (fun o ρ w' hp hρ hC => ?_) (fun hB => ?_)
  · have e0 : ρ (.tmp (s + 5)) = .pointer (some ⟨k.ib, 0, none⟩) := by
      rw [hρ]
      repeat (refine (ev_ne (by omega)).trans ?_)
      exact ev_eq (by first | omega | (simp only [sz_put]; omega))
    clear hρ
    have d0 := hE.i0 w' hC
    unfold execOp
    rw [hp]
    go_simp
  refine wpC_takeR hD hQ 7 (s + 7) _ (.pointer (some ⟨k.ob, 0, none⟩)) hB rfl (fun o ρ w' hp hρ hC => ?_) (fun hB => ?_)
  · have e0 : ρ (.tmp (s + 6)) = .pointer (some ⟨k.ob, 0, none⟩) := by
      rw [hρ]
      repeat (refine (ev_ne (by omega)).trans ?_)
      exact ev_eq (by first | omega | (simp only [sz_put]; omega))
    clear hρ
    unfold execOp
    rw [hp]
    go_simp
  refine wpC_takeR hD hQ 8 (s + 8) _ (.pointer (some ⟨k.ob, 6, none⟩)) hB rfl (fun o ρ w' hp hρ hC => ?_) (fun hB => ?_)
  · have e0 : ρ (.tmp (s + 7)) = .pointer (some ⟨k.ob, 0, none⟩) := by
      rw [hρ]
      repeat (refine (ev_ne (by omega)).trans ?_)
      exact ev_eq (by first | omega | (simp only [sz_put]; omega))
    clear hρ
    unfold execOp
    rw [hp]
    go_simp
  refine wpC_takeR hD hQ 9 (s + 9) _ (.func (.func 83) #[] #[]) hB rfl (fun o ρ w' hp hρ hC => ?_) (fun hB => ?_)
  · have e0 : ρ (.tmp (s + 8)) = .pointer (some ⟨k.ob, 6, none⟩) := by
      rw [hρ]
      repeat (refine (ev_ne (by omega)).trans ?_)
      exact ev_eq (by first | omega | (simp only [sz_put]; omega))
    clear hρ
    have d0 := hE.o6 w' hC
    unfold execOp
    rw [hp]
    go_simp
  refine wpC_takeR hD hQ 10 (s + 10) _ (.agg #[.int .u64 k.lor, .int .i64 k.upr]) hB rfl (fun o ρ w' hp hρ hC => ?_) (fun hB => ?_)
  · have e0 : ρ (.tmp 9) = .pointer (some ⟨k.qb, 0, none⟩) := by
      rw [hρ]
      repeat (refine (ev_ne (by omega)).trans ?_)
      exact h9
    clear hρ
    have d0 := hE.q0 w' hC
    have d1 := hE.q1 w' hC
    unfold execOp
    rw [hp]
    go_simp
  refine wpC_callR hD 11 _ _ hB rfl hC0 (fun o hd hp hg hB => ?_)
  refine wpList_callR hg hd (f := 83) (args := #[.agg #[.int .u64 k.lor, .int .i64 k.upr]]) (fun ρ hρ => ?_) ?_
  · have e0 : ρ (.tmp (s + 9)) = .func (.func 83) #[] #[] := by
      rw [hρ]
      repeat (refine (ev_ne (by omega)).trans ?_)
      exact ev_eq (by first | omega | (simp only [sz_put]; omega))
    have e1 : ρ (.tmp (s + 10)) = .agg #[.int .u64 k.lor, .int .i64 k.upr] := by
      rw [hρ]
      repeat (refine (ev_ne (by omega)).trans ?_)
      exact ev_eq (by first | omega | (simp only [sz_put]; omega))
    clear hρ
    have he := enters83
    unfold execOp
    rw [hp]
    go_simp
  refine (HS w0).mono ?_
  rintro e w1 ⟨z, rfl, g1, g2, g3, hk1⟩
  refine ⟨_, rfl, wpList_then ?_⟩
  have hC1 := hE.keep _ _ hC0 hk1
  refine wpC_callR hD 12 _ _ hB rfl hC1 (fun o hd hp hg hB => ?_)
  refine wpList_valR hg hd (v := .bool (if lss then decide (r < 0) else decide (0 ≤ r))) (fun ρ hρ => ?_) (wpList_then ?_)
  · have e0 : ρ (.tmp (s + 11)) = .int .i64 z := by
      rw [hρ]
      repeat (refine (ev_ne (by omega)).trans ?_)
      exact ev_eq (by first | omega | (simp only [sz_put]; omega))
    have ec : ρ (.const (.int .i64 0)) = .int .i64 0 := by rw [hρ]; rfl
    clear hρ
    unfold execOp
    rw [hp]
    cases lss
    · have e : decide (0 ≤ r) = decide (0 ≤ z) := by by_cases h : 0 ≤ r <;> simp [h] <;> omega
      rw [if_neg (by decide), e]
      go_simp
    · have e : decide (r < 0) = decide (z < 0) := by by_cases h : r < 0 <;> simp [h] <;> omega
      rw [if_pos rfl, e]
      go_simp
  refine wpC_stopR hB hC1 (h _ _ ?_ ?_ hC1)
  · exact ((((((((((((((Fr.refl s A).put (by omega)).put (by omega)).put (by omega)).put (by omega)).put (by omega)).put (by omega)).put (by omega)).put (by omega)).put (by omega)).put (by omega)).put (by omega)).put (by omega)).put (by omega))
  · exact ev_eq (by simp only [sz_put]; omega)
def addRD (s : Nat) : List (Option Tmp × Op × Option (Nat × Bool)) := [(some s, Op.move (.tmp 0), none), (some (s + 1), Op.nilCheck (.tmp s), none), (some (s + 2), Op.fieldAddr 87 (.tmp (s + 1)) 6, none), (some (s + 3), Op.load 68 (.tmp (s + 2)), none), (some (s + 4), Op.nilCheck (.tmp (s + 3)), none), (some (s + 5), Op.fieldAddr 99 (.tmp (s + 4)) 0, none), (some (s + 6), Op.load 88 (.tmp (s + 5)), none), (some (s + 7), Op.nilCheck (.tmp (s + 6)), none), (some (s + 8), Op.fieldAddr 104 (.tmp (s + 7)) 0, none), (some (s + 9), Op.load 100 (.tmp (s + 8)), none), (some (s + 10), Op.load 42 (.tmp 8), none), (some (s + 11), Op.load 42 (.tmp 10), none), (some (s + 12), Op.call { callee := .value (.tmp (s + 9)), args := #[.tmp (s + 10), .tmp (s + 11)], argTypes := #[42, 42] }, none), (none, Op.store 42 (.tmp 8) (.tmp (s + 12)), none)]
def chO : List (Nat × Bool) := [(0, true), (1, true), (2, true), (3, true), (4, true), (5, true), (6, true), (7, true), (8, true), (9, true), (10, true), (11, true), (12, false), (13, false)]
set_option maxRecDepth 100000 in
set_option maxHeartbeats 4000000 in
theorem addR (k : Kn) {C : World → Prop} (hE : Env k C) (l2 : Nat) (h2 : Int) (HS : ∀ w, Calls Tryz.prog 72 #[.agg #[.int .u64 k.loq, .int .i64 k.upq], .agg #[.int .u64 1, .int .i64 0]] w fun e w' => e = .returned (.agg #[.int .u64 l2, .int .i64 h2]) ∧ Keep (fun _ => False) w w')
    (s : Nat) {l : List Oper} {id : Nat} {Q : Exit → Act → World → Prop} {A : Act} {w : World} (hD : Desc l (addRD s)) (hB : lexB .any l.toArray chO (Array.replicate 14 false) = true) (hW0 : ((List.range 12).all fun i => waitsOn .any l.toArray 13 i) = true) (hlen : l.length = 14) (hQ : Blind Q)
    (hs : 10 < s) (hsz : s + 14 ≤ A.tmps.size) (h0 : A.eval (.tmp 0) = .pointer (some ⟨k.rb, 0, none⟩)) (h8 : A.eval (.tmp 8) = .pointer (some ⟨k.vb, 0, none⟩)) (h10 : A.eval (.tmp 10) = .pointer (some ⟨k.nb, 0, none⟩)) (hC : C w)
    (h : ∀ A' w', Fr s A A' → C w' → Q .normal A' ((w'.setCell ⟨k.vb, 0, none⟩ (.int .u64 l2)).setCell ⟨k.vb, 1, none⟩ (.int .i64 h2))) : (Code.region id l.toArray true).wp Tryz.prog Q A w := by
  have hW : ∀ i, i < 12 → waitsOn .any l.toArray 13 i = true := fun i hi => List.all_eq_true.1 hW0 i (List.mem_range.2 hi)
  unfold addRD at hD
  unfold chO at hB
  refine wp_region_takesD C 13 (by kernel_rfl) ?_
  rw [hlen]
  have hC0 := hE.drew w hC
  generalize w.drew = w0 at *
  refine wpD_takeR hD hQ 0 s _ (.pointer (some ⟨k.rb, 0, none⟩)) hB (by rw [hW 0 (by decide)]; rfl) rfl (fun o ρ w' hp hρ hC => ?_) (fun hB => ?_)
  · have e0 : ρ (.tmp 0) = .pointer (some ⟨k.rb, 0, none⟩) := by
      rw [hρ]
      repeat (refine (ev_ne (by omega)).trans ?_)
      exact h0
    clear hρ
    unfold execOp
    rw [hp]
    go_simp
  refine wpD_takeR hD hQ 1 (s + 1) _ (.pointer (some ⟨k.rb, 0, none⟩)) hB (by rw [hW 1 (by decide)]; rfl) rfl (fun o ρ w' hp hρ hC => ?_) (fun hB => ?_)
  · have e0 : ρ (.tmp s) = .pointer (some ⟨k.rb, 0, none⟩) := by
      rw [hρ]
      repeat (refine (ev_ne (by omega)).trans ?_)
      exact ev_eq (by first | omega | (simp only [sz_put]; omega))
    clear hρ
    unfold execOp
    rw [hp]
    go_simp
  refine wpD_takeR hD hQ 2 (s + 2) _ (.pointer (some ⟨k.rb, 9, none⟩)) hB (by rw [hW 2 (by decide)]; rfl) rfl (fun o ρ w' hp hρ hC => ?_) (fun hB => ?_)
  · have e0 : ρ (.tmp (s + 1)) = .pointer (some ⟨k.rb, 0, none⟩) := by
      rw [hρ]
      repeat (refine (ev_ne (by omega)).trans ?_)
      exact ev_eq (by first | omega | (simp only [sz_put]; omega))
    clear hρ
    unfold execOp
    rw [hp]
    go_simp
  refine wpD_takeR hD hQ 3 (s + 3) _ (.pointer (some ⟨k.ib, 0, none⟩)) hB (by rw [hW 3 (by decide)]; rfl) rfl (fun o ρ w' hp hρ hC => ?_) (fun hB => ?_)
  · have e0 : ρ (.tmp (s + 2)) = .pointer (some ⟨k.rb, 9, none⟩) := by
      rw [hρ]
      repeat (refine (ev_ne (by omega)).trans ?_)
      exact ev_eq (by first | omega | (simp only [sz_put]; omega))
    clear hρ
    have d0 := hE.c9 w' hC
    unfold execOp
    rw [hp]
    go_simp
  refine wpD_takeR hD hQ 4 (s + 4) _ (.pointer (some ⟨k.ib, 0, none⟩)) hB (by rw [hW 4 (by decide)]; rfl) rfl (fun o ρ w' hp hρ hC => ?_) (fun hB => ?_)
  · have e0 : ρ (.tmp (s + 3)) = .pointer (some ⟨k.ib, 0, none⟩) := by
      rw [hρ]
      repeat (refine (ev_ne (by omega)).trans ?_)
      exact ev_eq (by first | omega | (simp only [sz_put]; omega))
    clear hρ
    unfold execOp
    rw [hp]
    go_simp
  refine wpD_takeR hD hQ 5 (s + 5) _ (.pointer (some ⟨k.ib, 0, none⟩)) hB (by rw [hW 5 (by decide)]; rfl) rfl (fun o ρ w' hp hρ hC => ?_) (fun hB => ?_)
  · have e0 : ρ (.tmp (s + 4)) = .pointer (some ⟨k.ib, 0, none⟩) := by
      rw [hρ]
      repeat (refine (ev_ne (by omega)).trans ?_)
      exact ev_eq (by first | omega | (simp only [sz_put]; omega))
    clear hρ
    unfold execOp
    rw [hp]
    go_simp
  refine wpD_takeR hD hQ 6 (s + 6) _ (.pointer (some ⟨k.ob, 0, none⟩)) hB (by rw [hW 6 (by decide)]; rfl) rfl (fun o ρ w' hp hρ hC => ?_) (fun hB => ?_)
  · have e0 : ρ (.tmp (s + 5)) = .pointer (some ⟨k.ib, 0, none⟩) := by
      rw [hρ]
      repeat (refine (ev_ne (by omega)).trans ?_)
      exact ev_eq (by first | omega | (simp only [sz_put]; omega))
    clear hρ
    have d0 := hE.i0 w' hC
    unfold execOp
    rw [hp]
    go_simp
  refine wpD_takeR hD hQ 7 (s + 7) _ (.pointer (some ⟨k.ob, 0, none⟩)) hB (by rw [hW 7 (by decide)]; rfl) rfl (fun o ρ w' hp hρ hC => ?_) (fun hB => ?_)
  · have e0 : ρ (.tmp (s + 6)) = .pointer (some ⟨k.ob, 0, none⟩) := by
      rw [hρ]
      repeat (refine (ev_ne (by omega)).trans ?_)
      exact ev_eq (by first | omega | (simp only [sz_put]; omega))
    clear hρ
    unfold execOp
    rw [hp]
    go_simp
  refine wpD_takeR hD hQ 8 (s + 8) _ (.pointer (some ⟨k.ob, 0, none⟩)) hB (by rw [hW 8 (by decide)]; rfl) rfl (fun o ρ w' hp hρ hC => ?_) (fun hB => ?_)
  · have e0 : ρ (.tmp (s + 7)) = .pointer (some ⟨k.ob, 0, none⟩) := by
      rw [hρ]
      repeat (refine (ev_ne (by omega)).trans ?_)
      exact ev_eq (by first | omega | (simp only [sz_put]; omega))
    clear hρ
    unfold execOp
    rw [hp]
    go_simp
  refine wpD_takeR hD hQ 9 (s + 9) _ (.func (.func 72) #[] #[]) hB (by rw [hW 9 (by decide)]; rfl) rfl (fun o ρ w' hp hρ hC => ?_) (fun hB => ?_)
  · have e0 : ρ (.tmp (s + 8)) = .pointer (some ⟨k.ob, 0, none⟩) := by
      rw [hρ]
      repeat (refine (ev_ne (by omega)).trans ?_)
      exact ev_eq (by first | omega | (simp only [sz_put]; omega))
    clear hρ
    have d0 := hE.o0 w' hC
    unfold execOp
    rw [hp]
    go_simp
  refine wpD_takeR hD hQ 10 (s + 10) _ (.agg #[.int .u64 k.loq, .int .i64 k.upq]) hB (by rw [hW 10 (by decide)]; rfl) rfl (fun o ρ w' hp hρ hC => ?_) (fun hB => ?_)
  · have e0 : ρ (.tmp 8) = .pointer (some ⟨k.vb, 0, none⟩) := by
      rw [hρ]
      repeat (refine (ev_ne (by omega)).trans ?_)
      exact h8
    clear hρ
    have d0 := hE.v0 w' hC
    have d1 := hE.v1 w' hC
    unfold execOp
    rw [hp]
    go_simp
  refine wpD_takeR hD hQ 11 (s + 11) _ (.agg #[.int .u64 1, .int .i64 0]) hB (by rw [hW 11 (by decide)]; rfl) rfl (fun o ρ w' hp hρ hC => ?_) (fun hB => ?_)
  · have e0 : ρ (.tmp 10) = .pointer (some ⟨k.nb, 0, none⟩) := by
      rw [hρ]
      repeat (refine (ev_ne (by omega)).trans ?_)
      exact h10
    clear hρ
    have d0 := hE.n0 w' hC
    have d1 := hE.n1 w' hC
    unfold execOp
    rw [hp]
    go_simp
  refine wpD_callR hD 12 _ _ hB rfl (fun _ => hC0) (fun o hd hp hg hB => ?_)
  refine wpList_callR hg hd (f := 72) (args := #[.agg #[.int .u64 k.loq, .int .i64 k.upq], .agg #[.int .u64 1, .int .i64 0]]) (fun ρ hρ => ?_) ?_
  · have e0 : ρ (.tmp (s + 9)) = .func (.func 72) #[] #[] := by
      rw [hρ]
      repeat (refine (ev_ne (by omega)).trans ?_)
      exact ev_eq (by first | omega | (simp only [sz_put]; omega))
    have e1 : ρ (.tmp (s + 10)) = .agg #[.int .u64 k.loq, .int .i64 k.upq] := by
      rw [hρ]
      repeat (refine (ev_ne (by omega)).trans ?_)
      exact ev_eq (by first | omega | (simp only [sz_put]; omega))
    have e2 : ρ (.tmp (s + 11)) = .agg #[.int .u64 1, .int .i64 0] := by
      rw [hρ]
      repeat (refine (ev_ne (by omega)).trans ?_)
      exact ev_eq (by first | omega | (simp only [sz_put]; omega))
    clear hρ
    have he := enters72
    unfold execOp
    rw [hp]
    go_simp
  refine (HS w0).mono ?_
  rintro e w1 ⟨rfl, hk1⟩
  refine ⟨_, rfl, wpList_then ?_⟩
  have hC1 := hE.keep _ _ hC0 hk1
  have hv := hE.v w1 hC1
  have cv0 := blk_cell hv 0
  have cv1 := blk_cell hv 1
  have fv := blk_frozen hv
  simp only [List.getElem?_toArray, List.getElem?_cons_zero, List.getElem?_cons_succ] at cv0 cv1
  refine wpD_callR hD 13 _ _ hB rfl (fun _ => hC1) (fun o hd hp hg hB => ?_)
  refine wpList_storeR hg hd (w' := (w1.setCell ⟨k.vb, 0, none⟩ (.int .u64 l2)).setCell ⟨k.vb, 1, none⟩ (.int .i64 h2)) (fun ρ hρ => ?_) (wpList_then ?_)
  · have e0 : ρ (.tmp 8) = .pointer (some ⟨k.vb, 0, none⟩) := by
      rw [hρ]
      repeat (refine (ev_ne (by omega)).trans ?_)
      exact h8
    have e1 : ρ (.tmp (s + 12)) = .agg #[.int .u64 l2, .int .i64 h2] := by
      rw [hρ]
      repeat (refine (ev_ne (by omega)).trans ?_)
      exact ev_eq (by first | omega | (simp only [sz_put]; omega))
    clear hρ hv
    unfold execOp
    rw [hp]
    go_simp
  refine wpD_stop (by simpa [lexB] using hB) (by rfl) (h _ _ ?_ hC1)
  exact ((((((((((((((Fr.refl s A).put (by omega)).put (by omega)).put (by omega)).put (by omega)).put (by omega)).put (by omega)).put (by omega)).put (by omega)).put (by omega)).put (by omega)).put (by omega)).put (by omega)).put (by omega))
def subRD (s : Nat) : List (Option Tmp × Op × Option (Nat × Bool)) := [(some s, Op.move (.tmp 0), none), (some (s + 1), Op.nilCheck (.tmp s), none), (some (s + 2), Op.fieldAddr 87 (.tmp (s + 1)) 6, none), (some (s + 3), Op.load 68 (.tmp (s + 2)), none), (some (s + 4), Op.nilCheck (.tmp (s + 3)), none), (some (s + 5), Op.fieldAddr 99 (.tmp (s + 4)) 0, none), (some (s + 6), Op.load 88 (.tmp (s + 5)), none), (some (s + 7), Op.nilCheck (.tmp (s + 6)), none), (some (s + 8), Op.fieldAddr 104 (.tmp (s + 7)) 1, none), (some (s + 9), Op.load 100 (.tmp (s + 8)), none), (some (s + 10), Op.load 42 (.tmp 8), none), (some (s + 11), Op.load 42 (.tmp 10), none), (some (s + 12), Op.call { callee := .value (.tmp (s + 9)), args := #[.tmp (s + 10), .tmp (s + 11)], argTypes := #[42, 42] }, none), (none, Op.store 42 (.tmp 8) (.tmp (s + 12)), none)]
set_option maxRecDepth 100000 in
set_option maxHeartbeats 4000000 in
theorem subR (k : Kn) {C : World → Prop} (hE : Env k C) (l2 : Nat) (h2 : Int) (HS : ∀ w, Calls Tryz.prog 74 #[.agg #[.int .u64 k.loq, .int .i64 k.upq], .agg #[.int .u64 1, .int .i64 0]] w fun e w' => e = .returned (.agg #[.int .u64 l2, .int .i64 h2]) ∧ Keep (fun _ => False) w w')
    (s : Nat) {l : List Oper} {id : Nat} {Q : Exit → Act → World → Prop} {A : Act} {w : World} (hD : Desc l (subRD s)) (hB : lexB .any l.toArray chO (Array.replicate 14 false) = true) (hW0 : ((List.range 12).all fun i => waitsOn .any l.toArray 13 i) = true) (hlen : l.length = 14) (hQ : Blind Q)
    (hs : 10 < s) (hsz : s + 14 ≤ A.tmps.size) (h0 : A.eval (.tmp 0) = .pointer (some ⟨k.rb, 0, none⟩)) (h8 : A.eval (.tmp 8) = .pointer (some ⟨k.vb, 0, none⟩)) (h10 : A.eval (.tmp 10) = .pointer (some ⟨k.nb, 0, none⟩)) (hC : C w)
    (h : ∀ A' w', Fr s A A' → C w' → Q .normal A' ((w'.setCell ⟨k.vb, 0, none⟩ (.int .u64 l2)).setCell ⟨k.vb, 1, none⟩ (.int .i64 h2))) : (Code.region id l.toArray true).wp Tryz.prog Q A w := by
  have hW : ∀ i, i < 12 → waitsOn .any l.toArray 13 i = true := fun i hi => List.all_eq_true.1 hW0 i (List.mem_range.2 hi)
  unfold subRD at hD
  unfold chO at hB
  refine wp_region_takesD C 13 (by kernel_rfl) ?_
  rw [hlen]
  have hC0 := hE.drew w hC
  generalize w.drew = w0 at *
  refine wpD_takeR hD hQ 0 s _ (.pointer (some ⟨k.rb, 0, none⟩)) hB (by rw [hW 0 (by decide)]; rfl) rfl (fun o ρ w' hp hρ hC => ?_) (fun hB => ?_)
  · have e0 : ρ (.tmp 0) = .pointer (some ⟨k.rb, 0, none⟩) := by
      rw [hρ]
      repeat (refine (ev_ne (by omega)).trans ?_)
      exact h0
    clear hρ
    unfold execOp
    rw [hp]
    go_simp
  refine wpD_takeR hD hQ 1 (s + 1) _ (.pointer (some ⟨k.rb, 0, none⟩)) hB (by rw [hW 1 (by decide)]; rfl) rfl (fun o ρ w' hp hρ hC => ?_) (fun hB => ?_)
  · have e0 : ρ (.tmp s) = .pointer (some ⟨k.rb, 0, none⟩) := by
      rw [hρ]
      repeat (refine (ev_ne (by omega)).trans ?_)
      exact ev_eq (by first | omega | (simp only [sz_put]; omega))
    clear hρ
    unfold execOp
    rw [hp]
    go_simp
  refine wpD_takeR hD hQ 2 (s + 2) _ (.pointer (some ⟨k.rb, 9, none⟩)) hB (by rw [hW 2 (by decide)]; rfl) rfl (fun o ρ w' hp hρ hC => ?_) (fun hB => ?_)
  · have e0 : ρ (.tmp (s + 1)) = .pointer (some ⟨k.rb, 0, none⟩) := by
      rw [hρ]
      repeat (refine (ev_ne (by omega)).trans ?_)
      exact ev_eq (by first | omega | (simp only [sz_put]; omega))
    clear hρ
    unfold execOp
    rw [hp]
    go_simp
  refine wpD_takeR hD hQ 3 (s + 3) _ (.pointer (some ⟨k.ib, 0, none⟩)) hB (by rw [hW 3 (by decide)]; rfl) rfl (fun o ρ w' hp hρ hC => ?_) (fun hB => ?_)
  · have e0 : ρ (.tmp (s + 2)) = .pointer (some ⟨k.rb, 9, none⟩) := by
      rw [hρ]
      repeat (refine (ev_ne (by omega)).trans ?_)
      exact ev_eq (by first | omega | (simp only [sz_put]; omega))
    clear hρ
    have d0 := hE.c9 w' hC
    unfold execOp
    rw [hp]
    go_simp
  refine wpD_takeR hD hQ 4 (s + 4) _ (.pointer (some ⟨k.ib, 0, none⟩)) hB (by rw [hW 4 (by decide)]; rfl) rfl (fun o ρ w' hp hρ hC => ?_) (fun hB => ?_)
  · have e0 : ρ (.tmp (s + 3)) = .pointer (some ⟨k.ib, 0, none⟩) := by
      rw [hρ]
      repeat (refine (ev_ne (by omega)).trans ?_)
      exact ev_eq (by first | omega | (simp only [sz_put]; omega))
    clear hρ
    unfold execOp
    rw [hp]
    go_simp
  refine wpD_takeR hD hQ 5 (s + 5) _ (.pointer (some ⟨k.ib, 0, none⟩)) hB (by rw [hW 5 (by decide)]; rfl) rfl (fun o ρ w' hp hρ hC => ?_) (fun hB => ?_)
  · have e0 : ρ (.tmp (s + 4)) = .pointer (some ⟨k.ib, 0, none⟩) := by
      rw [hρ]
      repeat (refine (ev_ne (by omega)).trans ?_)
      exact ev_eq (by first | omega | (simp only [sz_put]; omega))
    clear hρ
    unfold execOp
    rw [hp]
    go_simp
  refine wpD_takeR hD hQ 6 (s + 6) _ (.pointer (some ⟨k.ob, 0, none⟩)) hB (by rw [hW 6 (by decide)]; rfl) rfl (fun o ρ w' hp hρ hC => ?_) (fun hB => ?_)
  · have e0 : ρ (.tmp (s + 5)) = .pointer (some ⟨k.ib, 0, none⟩) := by
      rw [hρ]
      repeat (refine (ev_ne (by omega)).trans ?_)
      exact ev_eq (by first | omega | (simp only [sz_put]; omega))
    clear hρ
    have d0 := hE.i0 w' hC
    unfold execOp
    rw [hp]
    go_simp
  refine wpD_takeR hD hQ 7 (s + 7) _ (.pointer (some ⟨k.ob, 0, none⟩)) hB (by rw [hW 7 (by decide)]; rfl) rfl (fun o ρ w' hp hρ hC => ?_) (fun hB => ?_)
  · have e0 : ρ (.tmp (s + 6)) = .pointer (some ⟨k.ob, 0, none⟩) := by
      rw [hρ]
      repeat (refine (ev_ne (by omega)).trans ?_)
      exact ev_eq (by first | omega | (simp only [sz_put]; omega))
    clear hρ
    unfold execOp
    rw [hp]
    go_simp
  refine wpD_takeR hD hQ 8 (s + 8) _ (.pointer (some ⟨k.ob, 1, none⟩)) hB (by rw [hW 8 (by decide)]; rfl) rfl (fun o ρ w' hp hρ hC => ?_) (fun hB => ?_)
  · have e0 : ρ (.tmp (s + 7)) = .pointer (some ⟨k.ob, 0, none⟩) := by
      rw [hρ]
      repeat (refine (ev_ne (by omega)).trans ?_)
      exact ev_eq (by first | omega | (simp only [sz_put]; omega))
    clear hρ
    unfold execOp
    rw [hp]
    go_simp
  refine wpD_takeR hD hQ 9 (s + 9) _ (.func (.func 74) #[] #[]) hB (by rw [hW 9 (by decide)]; rfl) rfl (fun o ρ w' hp hρ hC => ?_) (fun hB => ?_)
  · have e0 : ρ (.tmp (s + 8)) = .pointer (some ⟨k.ob, 1, none⟩) := by
      rw [hρ]
      repeat (refine (ev_ne (by omega)).trans ?_)
      exact ev_eq (by first | omega | (simp only [sz_put]; omega))
    clear hρ
    have d0 := hE.o1 w' hC
    unfold execOp
    rw [hp]
    go_simp
  refine wpD_takeR hD hQ 10 (s + 10) _ (.agg #[.int .u64 k.loq, .int .i64 k.upq]) hB (by rw [hW 10 (by decide)]; rfl) rfl (fun o ρ w' hp hρ hC => ?_) (fun hB => ?_)
  · have e0 : ρ (.tmp 8) = .pointer (some ⟨k.vb, 0, none⟩) := by
      rw [hρ]
      repeat (refine (ev_ne (by omega)).trans ?_)
      exact h8
    clear hρ
    have d0 := hE.v0 w' hC
    have d1 := hE.v1 w' hC
    unfold execOp
    rw [hp]
    go_simp
  refine wpD_takeR hD hQ 11 (s + 11) _ (.agg #[.int .u64 1, .int .i64 0]) hB (by rw [hW 11 (by decide)]; rfl) rfl (fun o ρ w' hp hρ hC => ?_) (fun hB => ?_)
  · have e0 : ρ (.tmp 10) = .pointer (some ⟨k.nb, 0, none⟩) := by
      rw [hρ]
      repeat (refine (ev_ne (by omega)).trans ?_)
      exact h10
    clear hρ
    have d0 := hE.n0 w' hC
    have d1 := hE.n1 w' hC
    unfold execOp
    rw [hp]
    go_simp
  refine wpD_callR hD 12 _ _ hB rfl (fun _ => hC0) (fun o hd hp hg hB => ?_)
  refine wpList_callR hg hd (f := 74) (args := #[.agg #[.int .u64 k.loq, .int .i64 k.upq], .agg #[.int .u64 1, .int .i64 0]]) (fun ρ hρ => ?_) ?_
  · have e0 : ρ (.tmp (s + 9)) = .func (.func 74) #[] #[] := by
      rw [hρ]
      repeat (refine (ev_ne (by omega)).trans ?_)
      exact ev_eq (by first | omega | (simp only [sz_put]; omega))
    have e1 : ρ (.tmp (s + 10)) = .agg #[.int .u64 k.loq, .int .i64 k.upq] := by
      rw [hρ]
      repeat (refine (ev_ne (by omega)).trans ?_)
      exact ev_eq (by first | omega | (simp only [sz_put]; omega))
    have e2 : ρ (.tmp (s + 11)) = .agg #[.int .u64 1, .int .i64 0] := by
      rw [hρ]
      repeat (refine (ev_ne (by omega)).trans ?_)
      exact ev_eq (by first | omega | (simp only [sz_put]; omega))
    clear hρ
    have he := enters74
    unfold execOp
    rw [hp]
    go_simp
  refine (HS w0).mono ?_
  rintro e w1 ⟨rfl, hk1⟩
  refine ⟨_, rfl, wpList_then ?_⟩
  have hC1 := hE.keep _ _ hC0 hk1
  have hv := hE.v w1 hC1
  have cv0 := blk_cell hv 0
  have cv1 := blk_cell hv 1
  have fv := blk_frozen hv
  simp only [List.getElem?_toArray, List.getElem?_cons_zero, List.getElem?_cons_succ] at cv0 cv1
  refine wpD_callR hD 13 _ _ hB rfl (fun _ => hC1) (fun o hd hp hg hB => ?_)
  refine wpList_storeR hg hd (w' := (w1.setCell ⟨k.vb, 0, none⟩ (.int .u64 l2)).setCell ⟨k.vb, 1, none⟩ (.int .i64 h2)) (fun ρ hρ => ?_) (wpList_then ?_)
  · have e0 : ρ (.tmp 8) = .pointer (some ⟨k.vb, 0, none⟩) := by
      rw [hρ]
      repeat (refine (ev_ne (by omega)).trans ?_)
      exact h8
    have e1 : ρ (.tmp (s + 12)) = .agg #[.int .u64 l2, .int .i64 h2] := by
      rw [hρ]
      repeat (refine (ev_ne (by omega)).trans ?_)
      exact ev_eq (by first | omega | (simp only [sz_put]; omega))
    clear hρ hv
    unfold execOp
    rw [hp]
    go_simp
  refine wpD_stop (by simpa [lexB] using hB) (by rfl) (h _ _ ?_ hC1)
  exact ((((((((((((((Fr.refl s A).put (by omega)).put (by omega)).put (by omega)).put (by omega)).put (by omega)).put (by omega)).put (by omega)).put (by omega)).put (by omega)).put (by omega)).put (by omega)).put (by omega)).put (by omega))
def lowD (s : Nat) (ne : Bool) : List (Option Tmp × Op × Option (Nat × Bool)) := [(some s, Op.move (.tmp 0), none), (some (s + 1), Op.nilCheck (.tmp s), none), (some (s + 2), Op.fieldAddr 87 (.tmp (s + 1)) 6, none), (some (s + 3), Op.load 68 (.tmp (s + 2)), none), (some (s + 4), Op.nilCheck (.tmp (s + 3)), none), (some (s + 5), Op.fieldAddr 99 (.tmp (s + 4)) 8, none), (some (s + 6), Op.load 95 (.tmp (s + 5)), none), (some (s + 7), Op.load 42 (.tmp 8), none), (some (s + 8), Op.call { callee := .value (.tmp (s + 6)), args := #[.tmp (s + 7)], argTypes := #[42] }, none), (some (s + 9), Op.binOp .rem 25 (.tmp (s + 8)) (.const (.int .u64 2)) 25, none), (some (s + 10), Op.binOp (if ne then .neq else .eql) 25 (.tmp (s + 9)) (.const (.int .u64 0)) 25, none)]
def lowO : List (Nat × Bool) := [(0, true), (1, true), (2, true), (3, true), (4, true), (5, true), (6, true), (7, true), (8, false), (9, false), (10, false)]
set_option maxRecDepth 100000 in
set_option maxHeartbeats 4000000 in
theorem lowR (k : Kn) {C : World → Prop} (hE : Env k C) (HS : ∀ w, Calls Tryz.prog 55 #[.agg #[.int .u64 k.loq, .int .i64 k.upq]] w fun e w' => e = .returned (.int .u64 k.loq) ∧ Keep (fun _ => False) w w')
    (s : Nat) (ne : Bool) {l : List Oper} {id : Nat} {Q : Exit → Act → World → Prop} {A : Act} {w : World} (hD : Desc l (lowD s ne)) (hB : lexB .any l.toArray lowO (Array.replicate 11 false) = true) (hlen : l.length = 11) (hQ : Blind Q)
    (hs : 10 < s) (hsz : s + 11 ≤ A.tmps.size) (h0 : A.eval (.tmp 0) = .pointer (some ⟨k.rb, 0, none⟩)) (h8 : A.eval (.tmp 8) = .pointer (some ⟨k.vb, 0, none⟩)) (hC : C w)
    (h : ∀ A' w', Fr s A A' → A'.eval (.tmp (s + 10)) = .bool (if ne then decide ((k.loq : Int) % 2 = 1) else decide ((k.loq : Int) % 2 = 0)) → C w' → Q .normal A' w') : (Code.region id l.toArray true).wp Tryz.prog Q A w := by
  unfold lowD at hD
  unfold lowO at hB
  refine wp_region_takesC C (by kernel_rfl) ?_
  rw [hlen]
  have hC0 := hE.drew w hC
  generalize w.drew = w0 at *
  refine wpC_takeR hD hQ 0 s _ (.pointer (some ⟨k.rb, 0, none⟩)) hB rfl (fun o ρ w' hp hρ hC => ?_) (fun hB => ?_)
  · have e0 : ρ (.tmp 0) = .pointer (some ⟨k.rb, 0, none⟩) := by
      rw [hρ]
      repeat (refine (ev_ne (by omega)).trans ?_)
      exact h0
    clear hρ
    unfold execOp
    rw [hp]
    go_simp
  refine wpC_takeR hD hQ 1 (s + 1) _ (.pointer (some ⟨k.rb, 0, none⟩)) hB rfl (fun o ρ w' hp hρ hC => ?_) (fun hB => ?_)
  · have e0 : ρ (.tmp s) = .pointer (some ⟨k.rb, 0, none⟩) := by
      rw [hρ]
      repeat (refine (ev_ne (by omega)).trans ?_)
      exact ev_eq (by first | omega | (simp only [sz_put]; omega))
    clear hρ
    unfold execOp
    rw [hp]
    go_simp
  refine wpC_takeR hD hQ 2 (s + 2) _ (.pointer (some ⟨k.rb, 9, none⟩)) hB rfl (fun o ρ w' hp hρ hC => ?_) (fun hB => ?_)
  · have e0 : ρ (.tmp (s + 1)) = .pointer (some ⟨k.rb, 0, none⟩) := by
      rw [hρ]
      repeat (refine (ev_ne (by omega)).trans ?_)
      exact ev_eq (by first | omega | (simp only [sz_put]; omega))
    clear hρ
    unfold execOp
    rw [hp]
    go_simp
  refine wpC_takeR hD hQ 3 (s + 3) _ (.pointer (some ⟨k.ib, 0, none⟩)) hB rfl (fun o ρ w' hp hρ hC => ?_) (fun hB => ?_)
  · have e0 : ρ (.tmp (s + 2)) = .pointer (some ⟨k.rb, 9, none⟩) := by
      rw [hρ]
      repeat (refine (ev_ne (by omega)).trans ?_)
      exact ev_eq (by first | omega | (simp only [sz_put]; omega))
    clear hρ
    have d0 := hE.c9 w' hC
    unfold execOp
    rw [hp]
    go_simp
  refine wpC_takeR hD hQ 4 (s + 4) _ (.pointer (some ⟨k.ib, 0, none⟩)) hB rfl (fun o ρ w' hp hρ hC => ?_) (fun hB => ?_)
  · have e0 : ρ (.tmp (s + 3)) = .pointer (some ⟨k.ib, 0, none⟩) := by
      rw [hρ]
      repeat (refine (ev_ne (by omega)).trans ?_)
      exact ev_eq (by first | omega | (simp only [sz_put]; omega))
    clear hρ
    unfold execOp
    rw [hp]
    go_simp
  refine wpC_takeR hD hQ 5 (s + 5) _ (.pointer (some ⟨k.ib, 8, none⟩)) hB rfl (fun o ρ w' hp hρ hC => ?_) (fun hB => ?_)
  · have e0 : ρ (.tmp (s + 4)) = .pointer (some ⟨k.ib, 0, none⟩) := by
      rw [hρ]
      repeat (refine (ev_ne (by omega)).trans ?_)
      exact ev_eq (by first | omega | (simp only [sz_put]; omega))
    clear hρ
    unfold execOp
    rw [hp]
    go_simp
  refine wpC_takeR hD hQ 6 (s + 6) _ (.func (.func 55) #[] #[]) hB rfl (fun o ρ w' hp hρ hC => ?_) (fun hB => ?_)
  · have e0 : ρ (.tmp (s + 5)) = .pointer (some ⟨k.ib, 8, none⟩) := by
      rw [hρ]
      repeat (refine (ev_ne (by omega)).trans ?_)
      exact ev_eq (by first | omega | (simp only [sz_put]; omega))
    clear hρ
    have d0 := hE.i8 w' hC
    unfold execOp
    rw [hp]
    go_simp
  refine wpC_takeR hD hQ 7 (s + 7) _ (.agg #[.int .u64 k.loq, .int .i64 k.upq]) hB rfl (fun o ρ w' hp hρ hC => ?_) (fun hB => ?_)
  · have e0 : ρ (.tmp 8) = .pointer (some ⟨k.vb, 0, none⟩) := by
      rw [hρ]
      repeat (refine (ev_ne (by omega)).trans ?_)
      exact h8
    clear hρ
    have d0 := hE.v0 w' hC
    have d1 := hE.v1 w' hC
    unfold execOp
    rw [hp]
    go_simp
  refine wpC_callR hD 8 _ _ hB rfl hC0 (fun o hd hp hg hB => ?_)
  refine wpList_callR hg hd (f := 55) (args := #[.agg #[.int .u64 k.loq, .int .i64 k.upq]]) (fun ρ hρ => ?_) ?_
  · have e0 : ρ (.tmp (s + 6)) = .func (.func 55) #[] #[] := by
      rw [hρ]
      repeat (refine (ev_ne (by omega)).trans ?_)
      exact ev_eq (by first | omega | (simp only [sz_put]; omega))
    have e1 : ρ (.tmp (s + 7)) = .agg #[.int .u64 k.loq, .int .i64 k.upq] := by
      rw [hρ]
      repeat (refine (ev_ne (by omega)).trans ?_)
      exact ev_eq (by first | omega | (simp only [sz_put]; omega))
    clear hρ
    have he := enters55
    unfold execOp
    rw [hp]
    go_simp
  refine (HS w0).mono ?_
  rintro e w1 ⟨rfl, hk1⟩
  refine ⟨_, rfl, wpList_then ?_⟩
  have hC1 := hE.keep _ _ hC0 hk1
  obtain ⟨z, hz⟩ : ∃ z : Nat, z = k.loq % 2 := ⟨_, rfl⟩
  have hz2 : z < 2 := by omega
  refine wpC_callR hD 9 _ _ hB rfl hC1 (fun o hd hp hg hB => ?_)
  refine wpList_valR hg hd (v := .int .u64 z) (fun ρ hρ => ?_) (wpList_then ?_)
  · have e0 : ρ (.tmp (s + 8)) = .int .u64 k.loq := by
      rw [hρ]
      repeat (refine (ev_ne (by omega)).trans ?_)
      exact ev_eq (by first | omega | (simp only [sz_put]; omega))
    have ec : ρ (.const (.int .u64 2)) = .int .u64 2 := by rw [hρ]; rfl
    clear hρ
    unfold execOp
    rw [hp]
    go_simp
    first | done | (rw [Int.tmod_eq_emod_of_nonneg (by omega)]; omega) | exact Int.tmod_eq_emod_of_nonneg (by omega)
  have e : (if ne then decide ((k.loq : Int) % 2 = 1) else decide ((k.loq : Int) % 2 = 0)) = (if ne then decide ((z : Int) ≠ 0) else decide ((z : Int) = 0)) := by
    have h1 : ((k.loq : Int) % 2 = 1) ↔ ((z : Int) ≠ 0) := by omega
    have h2 : ((k.loq : Int) % 2 = 0) ↔ ((z : Int) = 0) := by omega
    simp only [h1, h2]
  refine wpC_callR hD 10 _ _ hB rfl hC1 (fun o hd hp hg hB => ?_)
  refine wpList_valR hg hd (v := .bool (if ne then decide ((z : Int) ≠ 0) else decide ((z : Int) = 0))) (fun ρ hρ => ?_) (wpList_then ?_)
  · have e0 : ρ (.tmp (s + 9)) = .int .u64 z := by
      rw [hρ]
      repeat (refine (ev_ne (by omega)).trans ?_)
      exact ev_eq (by first | omega | (simp only [sz_put]; omega))
    have ec : ρ (.const (.int .u64 0)) = .int .u64 0 := by rw [hρ]; rfl
    clear hρ
    unfold execOp
    rw [hp]
    cases ne
    · rw [if_neg (by decide), if_neg (by decide)]
      go_simp
      exact Bool.eq_iff_iff.2 (by simp)
    · rw [if_pos rfl, if_pos rfl]
      go_simp
      exact Bool.eq_iff_iff.2 (by simp)
  rw [← e]
  refine wpC_stopR hB hC1 (h _ _ ?_ ?_ hC1)
  · exact ((((((((((((Fr.refl s A).put (by omega)).put (by omega)).put (by omega)).put (by omega)).put (by omega)).put (by omega)).put (by omega)).put (by omega)).put (by omega)).put (by omega)).put (by omega))
  · exact ev_eq (by simp only [sz_put]; omega)
def lessAD (s : Nat) : List (Option Tmp × Op × Option (Nat × Bool)) := [(some s, Op.move (.tmp 0), none), (some (s + 1), Op.nilCheck (.tmp s), none), (some (s + 2), Op.fieldAddr 87 (.tmp (s + 1)) 6, none), (some (s + 3), Op.load 68 (.tmp (s + 2)), none), (some (s + 4), Op.nilCheck (.tmp (s + 3)), none), (some (s + 5), Op.fieldAddr 99 (.tmp (s + 4)) 5, none), (some (s + 6), Op.load 92 (.tmp (s + 5)), none), (some (s + 7), Op.move (.tmp 0), none), (some (s + 8), Op.nilCheck (.tmp (s + 7)), none), (some (s + 9), Op.fieldAddr 87 (.tmp (s + 8)) 3, none), (some (s + 10), Op.load 42 (.tmp (s + 9)), none), (some (s + 11), Op.load 42 (.tmp 9), none), (some (s + 12), Op.call { callee := .value (.tmp (s + 6)), args := #[.tmp (s + 10), .tmp (s + 11)], argTypes := #[42, 42] }, none)]
def lessO : List (Nat × Bool) := [(0, true), (1, true), (2, true), (3, true), (4, true), (5, true), (6, true), (7, true), (8, true), (9, true), (10, true), (11, true), (12, false)]
set_option maxRecDepth 100000 in
set_option maxHeartbeats 4000000 in
theorem lessA (k : Kn) {C : World → Prop} (hE : Env k C) (b : Bool) (HS : ∀ w, Calls Tryz.prog 49 #[.agg #[.int .u64 k.lof, .int .i64 k.upf], .agg #[.int .u64 k.lor, .int .i64 k.upr]] w fun e w' => e = .returned (.bool b) ∧ Keep (fun _ => False) w w')
    (s : Nat) {l : List Oper} {id : Nat} {Q : Exit → Act → World → Prop} {A : Act} {w : World} (hD : Desc l (lessAD s)) (hB : lexB .any l.toArray lessO (Array.replicate 13 false) = true) (hlen : l.length = 13) (hQ : Blind Q)
    (hs : 10 < s) (hsz : s + 13 ≤ A.tmps.size) (h0 : A.eval (.tmp 0) = .pointer (some ⟨k.rb, 0, none⟩)) (h9 : A.eval (.tmp 9) = .pointer (some ⟨k.qb, 0, none⟩)) (hC : C w)
    (h : ∀ A' w', Fr s A A' → A'.eval (.tmp (s + 12)) = .bool b → C w' → Q .normal A' w') : (Code.region id l.toArray true).wp Tryz.prog Q A w := by
  unfold lessAD at hD
  unfold lessO at hB
  refine wp_region_takesC C (by kernel_rfl) ?_
  rw [hlen]
  have hC0 := hE.drew w hC
  generalize w.drew = w0 at *
  refine wpC_takeR hD hQ 0 s _ (.pointer (some ⟨k.rb, 0, none⟩)) hB rfl (fun o ρ w' hp hρ hC => ?_) (fun hB => ?_)
  · have e0 : ρ (.tmp 0) = .pointer (some ⟨k.rb, 0, none⟩) := by
      rw [hρ]
      repeat (refine (ev_ne (by omega)).trans ?_)
      exact h0
    clear hρ
    unfold execOp
    rw [hp]
    go_simp
  refine wpC_takeR hD hQ 1 (s + 1) _ (.pointer (some ⟨k.rb, 0, none⟩)) hB rfl (fun o ρ w' hp hρ hC => ?_) (fun hB => ?_)
  · have e0 : ρ (.tmp s) = .pointer (some ⟨k.rb, 0, none⟩) := by
      rw [hρ]
      repeat (refine (ev_ne (by omega)).trans ?_)
      exact ev_eq (by first | omega | (simp only [sz_put]; omega))
    clear hρ
    unfold execOp
    rw [hp]
    go_simp
  refine wpC_takeR hD hQ 2 (s + 2) _ (.pointer (some ⟨k.rb, 9, none⟩)) hB rfl (fun o ρ w' hp hρ hC => ?_) (fun hB => ?_)
  · have e0 : ρ (.tmp (s + 1)) = .pointer (some ⟨k.rb, 0, none⟩) := by
      rw [hρ]
      repeat (refine (ev_ne (by omega)).trans ?_)
      exact ev_eq (by first | omega | (simp only [sz_put]; omega))
    clear hρ
    unfold execOp
    rw [hp]
    go_simp
  refine wpC_takeR hD hQ 3 (s + 3) _ (.pointer (some ⟨k.ib, 0, none⟩)) hB rfl (fun o ρ w' hp hρ hC => ?_) (fun hB => ?_)
  · have e0 : ρ (.tmp (s + 2)) = .pointer (some ⟨k.rb, 9, none⟩) := by
      rw [hρ]
      repeat (refine (ev_ne (by omega)).trans ?_)
      exact ev_eq (by first | omega | (simp only [sz_put]; omega))
    clear hρ
    have d0 := hE.c9 w' hC
    unfold execOp
    rw [hp]
    go_simp
  refine wpC_takeR hD hQ 4 (s + 4) _ (.pointer (some ⟨k.ib, 0, none⟩)) hB rfl (fun o ρ w' hp hρ hC => ?_) (fun hB => ?_)
  · have e0 : ρ (.tmp (s + 3)) = .pointer (some ⟨k.ib, 0, none⟩) := by
      rw [hρ]
      repeat (refine (ev_ne (by omega)).trans ?_)
      exact ev_eq (by first | omega | (simp only [sz_put]; omega))
    clear hρ
    unfold execOp
    rw [hp]
    go_simp
  refine wpC_takeR hD hQ 5 (s + 5) _ (.pointer (some ⟨k.ib, 5, none⟩)) hB rfl (fun o ρ w' hp hρ hC => ?_) (fun hB => ?_)
  · have e0 : ρ (.tmp (s + 4)) = .pointer (some ⟨k.ib, 0, none⟩) := by
      rw [hρ]
      repeat (refine (ev_ne (by omega)).trans ?_)
      exact ev_eq (by first | omega | (simp only [sz_put]; omega))
    clear hρ
    unfold execOp
    rw [hp]
    go_simp
  refine wpC_takeR hD hQ 6 (s + 6) _ (.func (.func 49) #[] #[]) hB rfl (fun o ρ w' hp hρ hC => ?_) (fun hB => ?_)
  · have e0 : ρ (.tmp (s + 5)) = .pointer (some ⟨k.ib, 5, none⟩) := by
      rw [hρ]
      repeat (refine (ev_ne (by omega)).trans ?_)
      exact ev_eq (by first | omega | (simp only [sz_put]; omega))
    clear hρ
    have d0 := hE.i5 w' hC
    unfold execOp
    rw [hp]
    go_simp
  refine wpC_takeR hD hQ 7 (s + 7) _ (.pointer (some ⟨k.rb, 0, none⟩)) hB rfl (fun o ρ w' hp hρ hC => ?_) (fun hB => ?_)
  · have e0 : ρ (.tmp 0) = .pointer (some ⟨k.rb, 0, none⟩) := by
      rw [hρ]
      repeat (refine (ev_ne (by omega)).trans ?_)
      exact h0
    clear hρ
    unfold execOp
    rw [hp]
    go_simp
  refine wpC_takeR hD hQ 8 (s + 8) _ (.pointer (some ⟨k.rb, 0, none⟩)) hB rfl (fun o ρ w' hp hρ hC => ?_) (fun hB => ?_)
  · have e0 : ρ (.tmp (s + 7)) = .pointer (some ⟨k.rb, 0, none⟩) := by
      rw [hρ]
      repeat (refine (ev_ne (by omega)).trans ?_)
      exact ev_eq (by first | omega | (simp only [sz_put]; omega))
    clear hρ
    unfold execOp
    rw [hp]
    go_simp
  refine wpC_takeR hD hQ 9 (s + 9) _ (.pointer (some ⟨k.rb, 4, none⟩)) hB rfl (fun o ρ w' hp hρ hC => ?_) (fun hB => ?_)
  · have e0 : ρ (.tmp (s + 8)) = .pointer (some ⟨k.rb, 0, none⟩) := by
      rw [hρ]
      repeat (refine (ev_ne (by omega)).trans ?_)
      exact ev_eq (by first | omega | (simp only [sz_put]; omega))
    clear hρ
    unfold execOp
    rw [hp]
    go_simp
  refine wpC_takeR hD hQ 10 (s + 10) _ (.agg #[.int .u64 k.lof, .int .i64 k.upf]) hB rfl (fun o ρ w' hp hρ hC => ?_) (fun hB => ?_)
  · have e0 : ρ (.tmp (s + 9)) = .pointer (some ⟨k.rb, 4, none⟩) := by
      rw [hρ]
      repeat (refine (ev_ne (by omega)).trans ?_)
      exact ev_eq (by first | omega | (simp only [sz_put]; omega))
    clear hρ
    have d0 := hE.c4 w' hC
    have d1 := hE.c5 w' hC
    unfold execOp
    rw [hp]
    go_simp
  refine wpC_takeR hD hQ 11 (s + 11) _ (.agg #[.int .u64 k.lor, .int .i64 k.upr]) hB rfl (fun o ρ w' hp hρ hC => ?_) (fun hB => ?_)
  · have e0 : ρ (.tmp 9) = .pointer (some ⟨k.qb, 0, none⟩) := by
      rw [hρ]
      repeat (refine (ev_ne (by omega)).trans ?_)
      exact h9
    clear hρ
    have d0 := hE.q0 w' hC
    have d1 := hE.q1 w' hC
    unfold execOp
    rw [hp]
    go_simp
  refine wpC_callR hD 12 _ _ hB rfl hC0 (fun o hd hp hg hB => ?_)
  refine wpList_callR hg hd (f := 49) (args := #[.agg #[.int .u64 k.lof, .int .i64 k.upf], .agg #[.int .u64 k.lor, .int .i64 k.upr]]) (fun ρ hρ => ?_) ?_
  · have e0 : ρ (.tmp (s + 6)) = .func (.func 49) #[] #[] := by
      rw [hρ]
      repeat (refine (ev_ne (by omega)).trans ?_)
      exact ev_eq (by first | omega | (simp only [sz_put]; omega))
    have e1 : ρ (.tmp (s + 10)) = .agg #[.int .u64 k.lof, .int .i64 k.upf] := by
      rw [hρ]
      repeat (refine (ev_ne (by omega)).trans ?_)
      exact ev_eq (by first | omega | (simp only [sz_put]; omega))
    have e2 : ρ (.tmp (s + 11)) = .agg #[.int .u64 k.lor, .int .i64 k.upr] := by
      rw [hρ]
      repeat (refine (ev_ne (by omega)).trans ?_)
      exact ev_eq (by first | omega | (simp only [sz_put]; omega))
    clear hρ
    have he := enters49
    unfold execOp
    rw [hp]
    go_simp
  refine (HS w0).mono ?_
  rintro e w1 ⟨rfl, hk1⟩
  refine ⟨_, rfl, wpList_then ?_⟩
  have hC1 := hE.keep _ _ hC0 hk1
  refine wpC_stopR hB hC1 (h _ _ ?_ ?_ hC1)
  · exact ((((((((((((((Fr.refl s A).put (by omega)).put (by omega)).put (by omega)).put (by omega)).put (by omega)).put (by omega)).put (by omega)).put (by omega)).put (by omega)).put (by omega)).put (by omega)).put (by omega)).put (by omega))
  · exact ev_eq (by simp only [sz_put]; omega)
def lessBD (s : Nat) : List (Option Tmp × Op × Option (Nat × Bool)) := [(some s, Op.move (.tmp 0), none), (some (s + 1), Op.nilCheck (.tmp s), none), (some (s + 2), Op.fieldAddr 87 (.tmp (s + 1)) 6, none), (some (s + 3), Op.load 68 (.tmp (s + 2)), none), (some (s + 4), Op.nilCheck (.tmp (s + 3)), none), (some (s + 5), Op.fieldAddr 99 (.tmp (s + 4)) 5, none), (some (s + 6), Op.load 92 (.tmp (s + 5)), none), (some (s + 7), Op.load 42 (.tmp 9), none), (some (s + 8), Op.move (.tmp 0), none), (some (s + 9), Op.nilCheck (.tmp (s + 8)), none), (some (s + 10), Op.fieldAddr 87 (.tmp (s + 9)) 4, none), (some (s + 11), Op.load 42 (.tmp (s + 10)), none), (some (s + 12), Op.call { callee := .value (.tmp (s + 6)), args := #[.tmp (s + 7), .tmp (s + 11)], argTypes := #[42, 42] }, none)]
set_option maxRecDepth 100000 in
set_option maxHeartbeats 4000000 in
theorem lessB (k : Kn) {C : World → Prop} (hE : Env k C) (b : Bool) (HS : ∀ w, Calls Tryz.prog 49 #[.agg #[.int .u64 k.lor, .int .i64 k.upr], .agg #[.int .u64 k.lon, .int .i64 k.upn]] w fun e w' => e = .returned (.bool b) ∧ Keep (fun _ => False) w w')
    (s : Nat) {l : List Oper} {id : Nat} {Q : Exit → Act → World → Prop} {A : Act} {w : World} (hD : Desc l (lessBD s)) (hB : lexB .any l.toArray lessO (Array.replicate 13 false) = true) (hlen : l.length = 13) (hQ : Blind Q)
    (hs : 10 < s) (hsz : s + 13 ≤ A.tmps.size) (h0 : A.eval (.tmp 0) = .pointer (some ⟨k.rb, 0, none⟩)) (h9 : A.eval (.tmp 9) = .pointer (some ⟨k.qb, 0, none⟩)) (hC : C w)
    (h : ∀ A' w', Fr s A A' → A'.eval (.tmp (s + 12)) = .bool b → C w' → Q .normal A' w') : (Code.region id l.toArray true).wp Tryz.prog Q A w := by
  unfold lessBD at hD
  unfold lessO at hB
  refine wp_region_takesC C (by kernel_rfl) ?_
  rw [hlen]
  have hC0 := hE.drew w hC
  generalize w.drew = w0 at *
  refine wpC_takeR hD hQ 0 s _ (.pointer (some ⟨k.rb, 0, none⟩)) hB rfl (fun o ρ w' hp hρ hC => ?_) (fun hB => ?_)
  · have e0 : ρ (.tmp 0) = .pointer (some ⟨k.rb, 0, none⟩) := by
      rw [hρ]
      repeat (refine (ev_ne (by omega)).trans ?_)
      exact h0
    clear hρ
    unfold execOp
    rw [hp]
    go_simp
  refine wpC_takeR hD hQ 1 (s + 1) _ (.pointer (some ⟨k.rb, 0, none⟩)) hB rfl (fun o ρ w' hp hρ hC => ?_) (fun hB => ?_)
  · have e0 : ρ (.tmp s) = .pointer (some ⟨k.rb, 0, none⟩) := by
      rw [hρ]
      repeat (refine (ev_ne (by omega)).trans ?_)
      exact ev_eq (by first | omega | (simp only [sz_put]; omega))
    clear hρ
    unfold execOp
    rw [hp]
    go_simp
  refine wpC_takeR hD hQ 2 (s + 2) _ (.pointer (some ⟨k.rb, 9, none⟩)) hB rfl (fun o ρ w' hp hρ hC => ?_) (fun hB => ?_)
  · have e0 : ρ (.tmp (s + 1)) = .pointer (some ⟨k.rb, 0, none⟩) := by
      rw [hρ]
      repeat (refine (ev_ne (by omega)).trans ?_)
      exact ev_eq (by first | omega | (simp only [sz_put]; omega))
    clear hρ
    unfold execOp
    rw [hp]
    go_simp
  refine wpC_takeR hD hQ 3 (s + 3) _ (.pointer (some ⟨k.ib, 0, none⟩)) hB rfl (fun o ρ w' hp hρ hC => ?_) (fun hB => ?_)
  · have e0 : ρ (.tmp (s + 2)) = .pointer (some ⟨k.rb, 9, none⟩) := by
      rw [hρ]
      repeat (refine (ev_ne (by omega)).trans ?_)
      exact ev_eq (by first | omega | (simp only [sz_put]; omega))
    clear hρ
    have d0 := hE.c9 w' hC
    unfold execOp
    rw [hp]
    go_simp
  refine wpC_takeR hD hQ 4 (s + 4) _ (.pointer (some ⟨k.ib, 0, none⟩)) hB rfl (fun o ρ w' hp hρ hC => ?_) (fun hB => ?_)
  · have e0 : ρ (.tmp (s + 3)) = .pointer (some ⟨k.ib, 0, none⟩) := by
      rw [hρ]
      repeat (refine (ev_ne (by omega)).trans ?_)
      exact ev_eq (by first | omega | (simp only [sz_put]; omega))
    clear hρ
    unfold execOp
    rw [hp]
    go_simp
  refine wpC_takeR hD hQ 5 (s + 5) _ (.pointer (some ⟨k.ib, 5, none⟩)) hB rfl (fun o ρ w' hp hρ hC => ?_) (fun hB => ?_)
  · have e0 : ρ (.tmp (s + 4)) = .pointer (some ⟨k.ib, 0, none⟩) := by
      rw [hρ]
      repeat (refine (ev_ne (by omega)).trans ?_)
      exact ev_eq (by first | omega | (simp only [sz_put]; omega))
    clear hρ
    unfold execOp
    rw [hp]
    go_simp
  refine wpC_takeR hD hQ 6 (s + 6) _ (.func (.func 49) #[] #[]) hB rfl (fun o ρ w' hp hρ hC => ?_) (fun hB => ?_)
  · have e0 : ρ (.tmp (s + 5)) = .pointer (some ⟨k.ib, 5, none⟩) := by
      rw [hρ]
      repeat (refine (ev_ne (by omega)).trans ?_)
      exact ev_eq (by first | omega | (simp only [sz_put]; omega))
    clear hρ
    have d0 := hE.i5 w' hC
    unfold execOp
    rw [hp]
    go_simp
  refine wpC_takeR hD hQ 7 (s + 7) _ (.agg #[.int .u64 k.lor, .int .i64 k.upr]) hB rfl (fun o ρ w' hp hρ hC => ?_) (fun hB => ?_)
  · have e0 : ρ (.tmp 9) = .pointer (some ⟨k.qb, 0, none⟩) := by
      rw [hρ]
      repeat (refine (ev_ne (by omega)).trans ?_)
      exact h9
    clear hρ
    have d0 := hE.q0 w' hC
    have d1 := hE.q1 w' hC
    unfold execOp
    rw [hp]
    go_simp
  refine wpC_takeR hD hQ 8 (s + 8) _ (.pointer (some ⟨k.rb, 0, none⟩)) hB rfl (fun o ρ w' hp hρ hC => ?_) (fun hB => ?_)
  · have e0 : ρ (.tmp 0) = .pointer (some ⟨k.rb, 0, none⟩) := by
      rw [hρ]
      repeat (refine (ev_ne (by omega)).trans ?_)
      exact h0
    clear hρ
    unfold execOp
    rw [hp]
    go_simp
  refine wpC_takeR hD hQ 9 (s + 9) _ (.pointer (some ⟨k.rb, 0, none⟩)) hB rfl (fun o ρ w' hp hρ hC => ?_) (fun hB => ?_)
  · have e0 : ρ (.tmp (s + 8)) = .pointer (some ⟨k.rb, 0, none⟩) := by
      rw [hρ]
      repeat (refine (ev_ne (by omega)).trans ?_)
      exact ev_eq (by first | omega | (simp only [sz_put]; omega))
    clear hρ
    unfold execOp
    rw [hp]
    go_simp
  refine wpC_takeR hD hQ 10 (s + 10) _ (.pointer (some ⟨k.rb, 6, none⟩)) hB rfl (fun o ρ w' hp hρ hC => ?_) (fun hB => ?_)
  · have e0 : ρ (.tmp (s + 9)) = .pointer (some ⟨k.rb, 0, none⟩) := by
      rw [hρ]
      repeat (refine (ev_ne (by omega)).trans ?_)
      exact ev_eq (by first | omega | (simp only [sz_put]; omega))
    clear hρ
    unfold execOp
    rw [hp]
    go_simp
  refine wpC_takeR hD hQ 11 (s + 11) _ (.agg #[.int .u64 k.lon, .int .i64 k.upn]) hB rfl (fun o ρ w' hp hρ hC => ?_) (fun hB => ?_)
  · have e0 : ρ (.tmp (s + 10)) = .pointer (some ⟨k.rb, 6, none⟩) := by
      rw [hρ]
      repeat (refine (ev_ne (by omega)).trans ?_)
      exact ev_eq (by first | omega | (simp only [sz_put]; omega))
    clear hρ
    have d0 := hE.c6 w' hC
    have d1 := hE.c7 w' hC
    unfold execOp
    rw [hp]
    go_simp
  refine wpC_callR hD 12 _ _ hB rfl hC0 (fun o hd hp hg hB => ?_)
  refine wpList_callR hg hd (f := 49) (args := #[.agg #[.int .u64 k.lor, .int .i64 k.upr], .agg #[.int .u64 k.lon, .int .i64 k.upn]]) (fun ρ hρ => ?_) ?_
  · have e0 : ρ (.tmp (s + 6)) = .func (.func 49) #[] #[] := by
      rw [hρ]
      repeat (refine (ev_ne (by omega)).trans ?_)
      exact ev_eq (by first | omega | (simp only [sz_put]; omega))
    have e1 : ρ (.tmp (s + 7)) = .agg #[.int .u64 k.lor, .int .i64 k.upr] := by
      rw [hρ]
      repeat (refine (ev_ne (by omega)).trans ?_)
      exact ev_eq (by first | omega | (simp only [sz_put]; omega))
    have e2 : ρ (.tmp (s + 11)) = .agg #[.int .u64 k.lon, .int .i64 k.upn] := by
      rw [hρ]
      repeat (refine (ev_ne (by omega)).trans ?_)
      exact ev_eq (by first | omega | (simp only [sz_put]; omega))
    clear hρ
    have he := enters49
    unfold execOp
    rw [hp]
    go_simp
  refine (HS w0).mono ?_
  rintro e w1 ⟨rfl, hk1⟩
  refine ⟨_, rfl, wpList_then ?_⟩
  have hC1 := hE.keep _ _ hC0 hk1
  refine wpC_stopR hB hC1 (h _ _ ?_ ?_ hC1)
  · exact ((((((((((((((Fr.refl s A).put (by omega)).put (by omega)).put (by omega)).put (by omega)).put (by omega)).put (by omega)).put (by omega)).put (by omega)).put (by omega)).put (by omega)).put (by omega)).put (by omega)).put (by omega))
  · exact ev_eq (by simp only [sz_put]; omega)
def modeD (s : Nat) : List (Option Tmp × Op × Option (Nat × Bool)) := [(some s, Op.move (.tmp 0), none), (some (s + 1), Op.nilCheck (.tmp s), none), (some (s + 2), Op.fieldAddr 87 (.tmp (s + 1)) 1, none), (some (s + 3), Op.load 52 (.tmp (s + 2)), none)]
set_option maxRecDepth 100000 in
set_option maxHeartbeats 4000000 in
theorem modeR (k : Kn) {C : World → Prop} (hE : Env k C) (s : Nat) {l : List Oper} {id : Nat} {Q : Exit → Act → World → Prop} {A : Act} {w : World} (hD : Desc l (modeD s))
    (hsz : s + 4 ≤ A.tmps.size) (h0 : A.eval (.tmp 0) = .pointer (some ⟨k.rb, 0, none⟩)) (hC : C w)
    (h : ∀ A', Fr s A A' → A'.eval (.tmp (s + 3)) = .int .i8 k.mode → Q .normal A' w) : (Code.region id l.toArray false).wp Tryz.prog Q A w := by
  unfold modeD at hD
  obtain ⟨o0, l0, rfl, hd0, hp0, hg0, hD⟩ := hD.cons
  obtain ⟨o1, l1, rfl, hd1, hp1, hg1, hD⟩ := hD.cons
  obtain ⟨o2, l2, rfl, hd2, hp2, hg2, hD⟩ := hD.cons
  obtain ⟨o3, l3, rfl, hd3, hp3, hg3, hD⟩ := hD.cons
  obtain rfl := hD.nil
  refine wp_region_lit ?_
  refine wpList_valR hg0 hd0 (v := .pointer (some ⟨k.rb, 0, none⟩)) (fun ρ hρ => ?_) ?_
  · have e0 : ρ (.tmp 0) = .pointer (some ⟨k.rb, 0, none⟩) := by
      rw [hρ]
      repeat (refine (ev_ne (by omega)).trans ?_)
      exact h0
    clear hρ
    unfold execOp
    rw [hp0]
    go_simp
  refine wpList_valR hg1 hd1 (v := .pointer (some ⟨k.rb, 0, none⟩)) (fun ρ hρ => ?_) ?_
  · have e0 : ρ (.tmp s) = .pointer (some ⟨k.rb, 0, none⟩) := by
      rw [hρ]
      repeat (refine (ev_ne (by omega)).trans ?_)
      exact ev_eq (by first | omega | (simp only [sz_put]; omega))
    clear hρ
    unfold execOp
    rw [hp1]
    go_simp
  refine wpList_valR hg2 hd2 (v := .pointer (some ⟨k.rb, 1, none⟩)) (fun ρ hρ => ?_) ?_
  · have e0 : ρ (.tmp (s + 1)) = .pointer (some ⟨k.rb, 0, none⟩) := by
      rw [hρ]
      repeat (refine (ev_ne (by omega)).trans ?_)
      exact ev_eq (by first | omega | (simp only [sz_put]; omega))
    clear hρ
    unfold execOp
    rw [hp2]
    go_simp
  refine wpList_valR hg3 hd3 (v := .int .i8 k.mode) (fun ρ hρ => ?_) ?_
  · have e0 : ρ (.tmp (s + 2)) = .pointer (some ⟨k.rb, 1, none⟩) := by
      rw [hρ]
      repeat (refine (ev_ne (by omega)).trans ?_)
      exact ev_eq (by first | omega | (simp only [sz_put]; omega))
    have d0 := hE.c1 w hC
    clear hρ
    unfold execOp
    rw [hp3]
    go_simp
  refine wpList_end (h _ ?_ ?_)
  · exact ((((Fr.refl s A).put (by omega)).put (by omega)).put (by omega)).put (by omega)
  · exact ev_eq (by simp only [sz_put]; omega)
def isD (s j : Nat) (c : Int) : List (Option Tmp × Op × Option (Nat × Bool)) := [(some (s + 1), Op.binOp .eql 52 (.tmp j) (.const (.int .i8 c)) 52, none), (some s, Op.assign (.tmp (s + 1)), none)]
set_option maxRecDepth 100000 in
set_option maxHeartbeats 4000000 in
theorem isR (s j : Nat) (c m : Int) {l : List Oper} {id : Nat} {Q : Exit → Act → World → Prop} {A : Act} {w : World} (hD : Desc l (isD s j c)) (hsz : s + 2 ≤ A.tmps.size) (hj : A.eval (.tmp j) = .int .i8 m)
    (h : ∀ A', Fr s A A' → A'.eval (.tmp s) = .bool (decide (m = c)) → Q .normal A' w) : (Code.region id l.toArray false).wp Tryz.prog Q A w := by
  unfold isD at hD
  obtain ⟨o0, l0, rfl, hd0, hp0, hg0, hD⟩ := hD.cons
  obtain ⟨o1, l1, rfl, hd1, hp1, hg1, hD⟩ := hD.cons
  obtain rfl := hD.nil
  refine wp_region_lit ?_
  refine wpList_valR hg0 hd0 (v := .bool (decide (m = c))) (fun ρ hρ => ?_) ?_
  · have e0 : ρ (.tmp j) = .int .i8 m := by
      rw [hρ]
      repeat (refine (ev_ne (by omega)).trans ?_)
      exact hj
    have ec : ρ (.const (.int .i8 c)) = .int .i8 c := by rw [hρ]; rfl
    clear hρ
    unfold execOp
    rw [hp0]
    go_simp
    exact Bool.eq_iff_iff.2 (by simp)
  refine wpList_valR hg1 hd1 (v := .bool (decide (m = c))) (fun ρ hρ => ?_) ?_
  · have e0 : ρ (.tmp (s + 1)) = .bool (decide (m = c)) := by
      rw [hρ]
      repeat (refine (ev_ne (by omega)).trans ?_)
      exact ev_eq (by first | omega | (simp only [sz_put]; omega))
    clear hρ
    unfold execOp
    rw [hp1]
    go_simp
  refine wpList_end (h _ ?_ ?_)
  · exact ((Fr.refl s A).put (by omega)).put (by omega)
  · exact ev_eq (by simp only [sz_put]; omega)
def halfD (s : Nat) : List (Option Tmp × Op × Option (Nat × Bool)) := [(some s, Op.move (.tmp 0), none), (some (s + 1), Op.nilCheck (.tmp s), none), (some (s + 2), Op.fieldAddr 87 (.tmp (s + 1)) 5, none), (some (s + 3), Op.load 4 (.tmp (s + 2)), none), (some (s + 4), Op.move (.tmp (s + 3)), none), (some (s + 5), Op.load 42 (.tmp 9), some (4, true)), (some (s + 6), Op.move (.tmp 0), some (4, true)), (some (s + 7), Op.nilCheck (.tmp (s + 6)), some (4, true)), (some (s + 8), Op.fieldAddr 87 (.tmp (s + 7)) 3, some (4, true)), (some (s + 9), Op.load 42 (.tmp (s + 8)), some (4, true)), (some (s + 10), Op.binOp .eql 42 (.tmp (s + 5)) (.tmp (s + 9)) 42, some (4, true)), (some (s + 11), Op.move (.tmp (s + 10)), some (4, true)), (some (s + 12), Op.load 42 (.tmp 9), some (11, false)), (some (s + 13), Op.move (.tmp 0), some (11, false)), (some (s + 14), Op.nilCheck (.tmp (s + 13)), some (11, false)), (some (s + 15), Op.fieldAddr 87 (.tmp (s + 14)) 4, some (11, false)), (some (s + 16), Op.load 42 (.tmp (s + 15)), some (11, false)), (some (s + 17), Op.binOp .eql 42 (.tmp (s + 12)) (.tmp (s + 16)) 42, some (11, false)), (some (s + 18), Op.pick (.tmp (s + 11)) (.const (.bool true)) (.tmp (s + 17)), some (4, true)), (some (s + 19), Op.pick (.tmp (s + 4)) (.tmp (s + 18)) (.const (.bool false)), none)]
def halfO : List (Nat × Bool) := [(0, true), (1, true), (2, true), (3, true), (4, true), (5, true), (6, true), (7, true), (8, true), (9, true), (10, true), (11, true), (12, true), (13, true), (14, true), (15, true), (16, true), (17, true), (18, true), (19, true)]
set_option maxRecDepth 100000 in
set_option maxHeartbeats 4000000 in
theorem halfR (k : Kn) {C : World → Prop} (hE : Env k C) (e1 e2 : Bool) (h1 : e1 = true → k.lof = k.lor ∧ k.upf = k.upr) (h1' : e1 = false → ¬ k.lor = k.lof ∨ ¬ k.upr = k.upf) (h2 : e2 = true → k.lon = k.lor ∧ k.upn = k.upr) (h2' : e2 = false → ¬ k.lor = k.lon ∨ ¬ k.upr = k.upn)
    (s : Nat) {l : List Oper} {id : Nat} {Q : Exit → Act → World → Prop} {A : Act} {w : World} (hD : Desc l (halfD s)) (hB : lexB .any l.toArray halfO (Array.replicate 20 false) = true) (hlen : l.length = 20) (hQ : Blind Q)
    (hs : 10 < s) (hsz : s + 20 ≤ A.tmps.size) (h0 : A.eval (.tmp 0) = .pointer (some ⟨k.rb, 0, none⟩)) (h9 : A.eval (.tmp 9) = .pointer (some ⟨k.qb, 0, none⟩)) (hC : C w)
    (h : ∀ A' w', Fr s A A' → A'.eval (.tmp (s + 19)) = .bool (k.has && (e1 || e2)) → C w' → Q .normal A' w') : (Code.region id l.toArray true).wp Tryz.prog Q A w := by
  unfold halfD at hD
  unfold halfO at hB
  refine wp_region_takesC C (by kernel_rfl) ?_
  rw [hlen]
  have hC0 := hE.drew w hC
  generalize w.drew = w0 at *
  have hc8 := hE.c8
  generalize k.has = hs0 at *
  refine wpC_takeR hD hQ 0 s _ (.pointer (some ⟨k.rb, 0, none⟩)) hB rfl (fun o ρ w' hp hρ hC => ?_) (fun hB => ?_)
  · have e0 : ρ (.tmp 0) = .pointer (some ⟨k.rb, 0, none⟩) := by
      rw [hρ]
      repeat (refine (ev_ne (by omega)).trans ?_)
      exact h0
    clear hρ
    unfold execOp
    rw [hp]
    go_simp
  refine wpC_takeR hD hQ 1 (s + 1) _ (.pointer (some ⟨k.rb, 0, none⟩)) hB rfl (fun o ρ w' hp hρ hC => ?_) (fun hB => ?_)
  · have e0 : ρ (.tmp s) = .pointer (some ⟨k.rb, 0, none⟩) := by
      rw [hρ]
      repeat (refine (ev_ne (by omega)).trans ?_)
      exact ev_eq (by first | omega | (simp only [sz_put]; omega))
    clear hρ
    unfold execOp
    rw [hp]
    go_simp
  refine wpC_takeR hD hQ 2 (s + 2) _ (.pointer (some ⟨k.rb, 8, none⟩)) hB rfl (fun o ρ w' hp hρ hC => ?_) (fun hB => ?_)
  · have e0 : ρ (.tmp (s + 1)) = .pointer (some ⟨k.rb, 0, none⟩) := by
      rw [hρ]
      repeat (refine (ev_ne (by omega)).trans ?_)
      exact ev_eq (by first | omega | (simp only [sz_put]; omega))
    clear hρ
    unfold execOp
    rw [hp]
    go_simp
  refine wpC_takeR hD hQ 3 (s + 3) _ (.bool hs0) hB rfl (fun o ρ w' hp hρ hC => ?_) (fun hB => ?_)
  · have e0 : ρ (.tmp (s + 2)) = .pointer (some ⟨k.rb, 8, none⟩) := by
      rw [hρ]
      repeat (refine (ev_ne (by omega)).trans ?_)
      exact ev_eq (by first | omega | (simp only [sz_put]; omega))
    clear hρ
    have d0 := hc8 w' hC
    unfold execOp
    rw [hp]
    go_simp
  refine wpC_takeR hD hQ 4 (s + 4) _ (.bool hs0) hB rfl (fun o ρ w' hp hρ hC => ?_) (fun hB => ?_)
  · have e0 : ρ (.tmp (s + 3)) = .bool hs0 := by
      rw [hρ]
      repeat (refine (ev_ne (by omega)).trans ?_)
      exact ev_eq (by first | omega | (simp only [sz_put]; omega))
    clear hρ
    unfold execOp
    rw [hp]
    go_simp
  cases hs0
  · refine wpC_skipGR hD hQ 5 (s + 5) hB rfl (j := 4) (dj := (s + 4)) rfl (by first | omega | (simp only [sz_put]; omega)) ?_ (fun hB => ?_)
    · refine fun hx => ?_
      have e := hx.symm.trans (show _ = .bool false by
        repeat (refine (ev_ne (by omega)).trans ?_)
        exact ev_eq (by first | omega | (simp only [sz_put]; omega)))
      cases e
    refine wpC_skipGR hD hQ 6 (s + 6) hB rfl (j := 4) (dj := (s + 4)) rfl (by first | omega | (simp only [sz_put]; omega)) ?_ (fun hB => ?_)
    · refine fun hx => ?_
      have e := hx.symm.trans (show _ = .bool false by
        repeat (refine (ev_ne (by omega)).trans ?_)
        exact ev_eq (by first | omega | (simp only [sz_put]; omega)))
      cases e
    refine wpC_skipGR hD hQ 7 (s + 7) hB rfl (j := 4) (dj := (s + 4)) rfl (by first | omega | (simp only [sz_put]; omega)) ?_ (fun hB => ?_)
    · refine fun hx => ?_
      have e := hx.symm.trans (show _ = .bool false by
        repeat (refine (ev_ne (by omega)).trans ?_)
        exact ev_eq (by first | omega | (simp only [sz_put]; omega)))
      cases e
    refine wpC_skipGR hD hQ 8 (s + 8) hB rfl (j := 4) (dj := (s + 4)) rfl (by first | omega | (simp only [sz_put]; omega)) ?_ (fun hB => ?_)
    · refine fun hx => ?_
      have e := hx.symm.trans (show _ = .bool false by
        repeat (refine (ev_ne (by omega)).trans ?_)
        exact ev_eq (by first | omega | (simp only [sz_put]; omega)))
      cases e
    refine wpC_skipGR hD hQ 9 (s + 9) hB rfl (j := 4) (dj := (s + 4)) rfl (by first | omega | (simp only [sz_put]; omega)) ?_ (fun hB => ?_)
    · refine fun hx => ?_
      have e := hx.symm.trans (show _ = .bool false by
        repeat (refine (ev_ne (by omega)).trans ?_)
        exact ev_eq (by first | omega | (simp only [sz_put]; omega)))
      cases e
    refine wpC_skipGR hD hQ 10 (s + 10) hB rfl (j := 4) (dj := (s + 4)) rfl (by first | omega | (simp only [sz_put]; omega)) ?_ (fun hB => ?_)
    · refine fun hx => ?_
      have e := hx.symm.trans (show _ = .bool false by
        repeat (refine (ev_ne (by omega)).trans ?_)
        exact ev_eq (by first | omega | (simp only [sz_put]; omega)))
      cases e
    refine wpC_skipGR hD hQ 11 (s + 11) hB rfl (j := 4) (dj := (s + 4)) rfl (by first | omega | (simp only [sz_put]; omega)) ?_ (fun hB => ?_)
    · refine fun hx => ?_
      have e := hx.symm.trans (show _ = .bool false by
        repeat (refine (ev_ne (by omega)).trans ?_)
        exact ev_eq (by first | omega | (simp only [sz_put]; omega)))
      cases e
    refine wpC_skipGR hD hQ 12 (s + 12) hB rfl (j := 11) (dj := (s + 11)) rfl (by first | omega | (simp only [sz_put]; omega)) ?_ (fun hB => ?_)
    · refine fun hx => ?_
      have e := hx.symm.trans (show _ = undef by
        repeat (refine (ev_ne (by omega)).trans ?_)
        exact ev_eq (by first | omega | (simp only [sz_put]; omega)))
      cases e
    refine wpC_skipGR hD hQ 13 (s + 13) hB rfl (j := 11) (dj := (s + 11)) rfl (by first | omega | (simp only [sz_put]; omega)) ?_ (fun hB => ?_)
    · refine fun hx => ?_
      have e := hx.symm.trans (show _ = undef by
        repeat (refine (ev_ne (by omega)).trans ?_)
        exact ev_eq (by first | omega | (simp only [sz_put]; omega)))
      cases e
    refine wpC_skipGR hD hQ 14 (s + 14) hB rfl (j := 11) (dj := (s + 11)) rfl (by first | omega | (simp only [sz_put]; omega)) ?_ (fun hB => ?_)
    · refine fun hx => ?_
      have e := hx.symm.trans (show _ = undef by
        repeat (refine (ev_ne (by omega)).trans ?_)
        exact ev_eq (by first | omega | (simp only [sz_put]; omega)))
      cases e
    refine wpC_skipGR hD hQ 15 (s + 15) hB rfl (j := 11) (dj := (s + 11)) rfl (by first | omega | (simp only [sz_put]; omega)) ?_ (fun hB => ?_)
    · refine fun hx => ?_
      have e := hx.symm.trans (show _ = undef by
        repeat (refine (ev_ne (by omega)).trans ?_)
        exact ev_eq (by first | omega | (simp only [sz_put]; omega)))
      cases e
    refine wpC_skipGR hD hQ 16 (s + 16) hB rfl (j := 11) (dj := (s + 11)) rfl (by first | omega | (simp only [sz_put]; omega)) ?_ (fun hB => ?_)
    · refine fun hx => ?_
      have e := hx.symm.trans (show _ = undef by
        repeat (refine (ev_ne (by omega)).trans ?_)
        exact ev_eq (by first | omega | (simp only [sz_put]; omega)))
      cases e
    refine wpC_skipGR hD hQ 17 (s + 17) hB rfl (j := 11) (dj := (s + 11)) rfl (by first | omega | (simp only [sz_put]; omega)) ?_ (fun hB => ?_)
    · refine fun hx => ?_
      have e := hx.symm.trans (show _ = undef by
        repeat (refine (ev_ne (by omega)).trans ?_)
        exact ev_eq (by first | omega | (simp only [sz_put]; omega)))
      cases e
    refine wpC_skipGR hD hQ 18 (s + 18) hB rfl (j := 4) (dj := (s + 4)) rfl (by first | omega | (simp only [sz_put]; omega)) ?_ (fun hB => ?_)
    · refine fun hx => ?_
      have e := hx.symm.trans (show _ = .bool false by
        repeat (refine (ev_ne (by omega)).trans ?_)
        exact ev_eq (by first | omega | (simp only [sz_put]; omega)))
      cases e
    refine wpC_takeR hD hQ 19 (s + 19) _ (.bool (false && (e1 || e2))) hB rfl (fun o ρ w' hp hρ hC => ?_) (fun hB => ?_)
    · have e0 : ρ (.tmp (s + 4)) = .bool false := by
        rw [hρ]
        repeat (refine (ev_ne (by omega)).trans ?_)
        exact ev_eq (by first | omega | (simp only [sz_put]; omega))
      have ec : ρ (.const (.bool false)) = .bool false := by rw [hρ]; rfl
      clear hρ
      unfold execOp
      rw [hp]
      go_simp
    refine wpC_stopR hB hC0 (h _ _ ?_ ?_ hC0)
    · exact (((((((((((((((((((((Fr.refl s A).put (by omega)).put (by omega)).put (by omega)).put (by omega)).put (by omega)).put (by omega)).put (by omega)).put (by omega)).put (by omega)).put (by omega)).put (by omega)).put (by omega)).put (by omega)).put (by omega)).put (by omega)).put (by omega)).put (by omega)).put (by omega)).put (by omega)).put (by omega))
    · exact ev_eq (by simp only [sz_put]; omega)
  · refine wpC_takeGR hD hQ 5 (s + 5) _ (.agg #[.int .u64 k.lor, .int .i64 k.upr]) hB rfl (j := 4) (dj := (s + 4)) rfl (by first | omega | (simp only [sz_put]; omega)) ?_ (fun o ρ w' hp hρ hC => ?_) (fun hB => ?_)
    · repeat (refine (ev_ne (by omega)).trans ?_)
      exact ev_eq (by first | omega | (simp only [sz_put]; omega))
    · have e0 : ρ (.tmp 9) = .pointer (some ⟨k.qb, 0, none⟩) := by
        rw [hρ]
        repeat (refine (ev_ne (by omega)).trans ?_)
        exact h9
      clear hρ
      have d0 := hE.q0 w' hC
      have d1 := hE.q1 w' hC
      unfold execOp
      rw [hp]
      go_simp
    refine wpC_takeGR hD hQ 6 (s + 6) _ (.pointer (some ⟨k.rb, 0, none⟩)) hB rfl (j := 4) (dj := (s + 4)) rfl (by first | omega | (simp only [sz_put]; omega)) ?_ (fun o ρ w' hp hρ hC => ?_) (fun hB => ?_)
    · repeat (refine (ev_ne (by omega)).trans ?_)
      exact ev_eq (by first | omega | (simp only [sz_put]; omega))
    · have e0 : ρ (.tmp 0) = .pointer (some ⟨k.rb, 0, none⟩) := by
        rw [hρ]
        repeat (refine (ev_ne (by omega)).trans ?_)
        exact h0
      clear hρ
      unfold execOp
      rw [hp]
      go_simp
    refine wpC_takeGR hD hQ 7 (s + 7) _ (.pointer (some ⟨k.rb, 0, none⟩)) hB rfl (j := 4) (dj := (s + 4)) rfl (by first | omega | (simp only [sz_put]; omega)) ?_ (fun o ρ w' hp hρ hC => ?_) (fun hB => ?_)
    · repeat (refine (ev_ne (by omega)).trans ?_)
      exact ev_eq (by first | omega | (simp only [sz_put]; omega))
    · have e0 : ρ (.tmp (s + 6)) = .pointer (some ⟨k.rb, 0, none⟩) := by
        rw [hρ]
        repeat (refine (ev_ne (by omega)).trans ?_)
        exact ev_eq (by first | omega | (simp only [sz_put]; omega))
      clear hρ
      unfold execOp
      rw [hp]
      go_simp
    refine wpC_takeGR hD hQ 8 (s + 8) _ (.pointer (some ⟨k.rb, 4, none⟩)) hB rfl (j := 4) (dj := (s + 4)) rfl (by first | omega | (simp only [sz_put]; omega)) ?_ (fun o ρ w' hp hρ hC => ?_) (fun hB => ?_)
    · repeat (refine (ev_ne (by omega)).trans ?_)
      exact ev_eq (by first | omega | (simp only [sz_put]; omega))
    · have e0 : ρ (.tmp (s + 7)) = .pointer (some ⟨k.rb, 0, none⟩) := by
        rw [hρ]
        repeat (refine (ev_ne (by omega)).trans ?_)
        exact ev_eq (by first | omega | (simp only [sz_put]; omega))
      clear hρ
      unfold execOp
      rw [hp]
      go_simp
    refine wpC_takeGR hD hQ 9 (s + 9) _ (.agg #[.int .u64 k.lof, .int .i64 k.upf]) hB rfl (j := 4) (dj := (s + 4)) rfl (by first | omega | (simp only [sz_put]; omega)) ?_ (fun o ρ w' hp hρ hC => ?_) (fun hB => ?_)
    · repeat (refine (ev_ne (by omega)).trans ?_)
      exact ev_eq (by first | omega | (simp only [sz_put]; omega))
    · have e0 : ρ (.tmp (s + 8)) = .pointer (some ⟨k.rb, 4, none⟩) := by
        rw [hρ]
        repeat (refine (ev_ne (by omega)).trans ?_)
        exact ev_eq (by first | omega | (simp only [sz_put]; omega))
      clear hρ
      have d0 := hE.c4 w' hC
      have d1 := hE.c5 w' hC
      unfold execOp
      rw [hp]
      go_simp
    cases e1
    · refine wpC_takeGR hD hQ 10 (s + 10) _ (.bool false) hB rfl (j := 4) (dj := (s + 4)) rfl (by first | omega | (simp only [sz_put]; omega)) ?_ (fun o ρ w' hp hρ hC => ?_) (fun hB => ?_)
      · repeat (refine (ev_ne (by omega)).trans ?_)
        exact ev_eq (by first | omega | (simp only [sz_put]; omega))
      · have e0 : ρ (.tmp (s + 5)) = .agg #[.int .u64 k.lor, .int .i64 k.upr] := by
          rw [hρ]
          repeat (refine (ev_ne (by omega)).trans ?_)
          exact ev_eq (by first | omega | (simp only [sz_put]; omega))
        have e1 : ρ (.tmp (s + 9)) = .agg #[.int .u64 k.lof, .int .i64 k.upf] := by
          rw [hρ]
          repeat (refine (ev_ne (by omega)).trans ?_)
          exact ev_eq (by first | omega | (simp only [sz_put]; omega))
        clear hρ
        unfold execOp
        rw [hp]
        rcases h1' rfl with hx | hx <;> go_simp
        all_goals (intro hy; omega)
      refine wpC_takeGR hD hQ 11 (s + 11) _ (.bool false) hB rfl (j := 4) (dj := (s + 4)) rfl (by first | omega | (simp only [sz_put]; omega)) ?_ (fun o ρ w' hp hρ hC => ?_) (fun hB => ?_)
      · repeat (refine (ev_ne (by omega)).trans ?_)
        exact ev_eq (by first | omega | (simp only [sz_put]; omega))
      · have e0 : ρ (.tmp (s + 10)) = .bool false := by
          rw [hρ]
          repeat (refine (ev_ne (by omega)).trans ?_)
          exact ev_eq (by first | omega | (simp only [sz_put]; omega))
        clear hρ
        unfold execOp
        rw [hp]
        go_simp
      refine wpC_takeGR hD hQ 12 (s + 12) _ (.agg #[.int .u64 k.lor, .int .i64 k.upr]) hB rfl (j := 11) (dj := (s + 11)) rfl (by first | omega | (simp only [sz_put]; omega)) ?_ (fun o ρ w' hp hρ hC => ?_) (fun hB => ?_)
      · repeat (refine (ev_ne (by omega)).trans ?_)
        exact ev_eq (by first | omega | (simp only [sz_put]; omega))
      · have e0 : ρ (.tmp 9) = .pointer (some ⟨k.qb, 0, none⟩) := by
          rw [hρ]
          repeat (refine (ev_ne (by omega)).trans ?_)
          exact h9
        clear hρ
        have d0 := hE.q0 w' hC
        have d1 := hE.q1 w' hC
        unfold execOp
        rw [hp]
        go_simp
      refine wpC_takeGR hD hQ 13 (s + 13) _ (.pointer (some ⟨k.rb, 0, none⟩)) hB rfl (j := 11) (dj := (s + 11)) rfl (by first | omega | (simp only [sz_put]; omega)) ?_ (fun o ρ w' hp hρ hC => ?_) (fun hB => ?_)
      · repeat (refine (ev_ne (by omega)).trans ?_)
        exact ev_eq (by first | omega | (simp only [sz_put]; omega))
      · have e0 : ρ (.tmp 0) = .pointer (some ⟨k.rb, 0, none⟩) := by
          rw [hρ]
          repeat (refine (ev_ne (by omega)).trans ?_)
          exact h0
        clear hρ
        unfold execOp
        rw [hp]
        go_simp
      refine wpC_takeGR hD hQ 14 (s + 14) _ (.pointer (some ⟨k.rb, 0, none⟩)) hB rfl (j := 11) (dj := (s + 11)) rfl (by first | omega | (simp only [sz_put]; omega)) ?_ (fun o ρ w' hp hρ hC => ?_) (fun hB => ?_)
      · repeat (refine (ev_ne (by omega)).trans ?_)
        exact ev_eq (by first | omega | (simp only [sz_put]; omega))
      · have e0 : ρ (.tmp (s + 13)) = .pointer (some ⟨k.rb, 0, none⟩) := by
          rw [hρ]
          repeat (refine (ev_ne (by omega)).trans ?_)
          exact ev_eq (by first | omega | (simp only [sz_put]; omega))
        clear hρ
        unfold execOp
        rw [hp]
        go_simp
      refine wpC_takeGR hD hQ 15 (s + 15) _ (.pointer (some ⟨k.rb, 6, none⟩)) hB rfl (j := 11) (dj := (s + 11)) rfl (by first | omega | (simp only [sz_put]; omega)) ?_ (fun o ρ w' hp hρ hC => ?_) (fun hB => ?_)
      · repeat (refine (ev_ne (by omega)).trans ?_)
        exact ev_eq (by first | omega | (simp only [sz_put]; omega))
      · have e0 : ρ (.tmp (s + 14)) = .pointer (some ⟨k.rb, 0, none⟩) := by
          rw [hρ]
          repeat (refine (ev_ne (by omega)).trans ?_)
          exact ev_eq (by first | omega | (simp only [sz_put]; omega))
        clear hρ
        unfold execOp
        rw [hp]
        go_simp
      refine wpC_takeGR hD hQ 16 (s + 16) _ (.agg #[.int .u64 k.lon, .int .i64 k.upn]) hB rfl (j := 11) (dj := (s + 11)) rfl (by first | omega | (simp only [sz_put]; omega)) ?_ (fun o ρ w' hp hρ hC => ?_) (fun hB => ?_)
      · repeat (refine (ev_ne (by omega)).trans ?_)
        exact ev_eq (by first | omega | (simp only [sz_put]; omega))
      · have e0 : ρ (.tmp (s + 15)) = .pointer (some ⟨k.rb, 6, none⟩) := by
          rw [hρ]
          repeat (refine (ev_ne (by omega)).trans ?_)
          exact ev_eq (by first | omega | (simp only [sz_put]; omega))
        clear hρ
        have d0 := hE.c6 w' hC
        have d1 := hE.c7 w' hC
        unfold execOp
        rw [hp]
        go_simp
      cases e2
      · refine wpC_takeGR hD hQ 17 (s + 17) _ (.bool false) hB rfl (j := 11) (dj := (s + 11)) rfl (by first | omega | (simp only [sz_put]; omega)) ?_ (fun o ρ w' hp hρ hC => ?_) (fun hB => ?_)
        · repeat (refine (ev_ne (by omega)).trans ?_)
          exact ev_eq (by first | omega | (simp only [sz_put]; omega))
        · have e0 : ρ (.tmp (s + 12)) = .agg #[.int .u64 k.lor, .int .i64 k.upr] := by
            rw [hρ]
            repeat (refine (ev_ne (by omega)).trans ?_)
            exact ev_eq (by first | omega | (simp only [sz_put]; omega))
          have e1 : ρ (.tmp (s + 16)) = .agg #[.int .u64 k.lon, .int .i64 k.upn] := by
            rw [hρ]
            repeat (refine (ev_ne (by omega)).trans ?_)
            exact ev_eq (by first | omega | (simp only [sz_put]; omega))
          clear hρ
          unfold execOp
          rw [hp]
          rcases h2' rfl with hx | hx <;> go_simp
          all_goals (intro hy; omega)
        refine wpC_takeGR hD hQ 18 (s + 18) _ (.bool false) hB rfl (j := 4) (dj := (s + 4)) rfl (by first | omega | (simp only [sz_put]; omega)) ?_ (fun o ρ w' hp hρ hC => ?_) (fun hB => ?_)
        · repeat (refine (ev_ne (by omega)).trans ?_)
          exact ev_eq (by first | omega | (simp only [sz_put]; omega))
        · have e0 : ρ (.tmp (s + 11)) = .bool false := by
            rw [hρ]
            repeat (refine (ev_ne (by omega)).trans ?_)
            exact ev_eq (by first | omega | (simp only [sz_put]; omega))
          have e1 : ρ (.tmp (s + 17)) = .bool false := by
            rw [hρ]
            repeat (refine (ev_ne (by omega)).trans ?_)
            exact ev_eq (by first | omega | (simp only [sz_put]; omega))
          have ec : ρ (.const (.bool true)) = .bool true := by rw [hρ]; rfl
          clear hρ
          unfold execOp
          rw [hp]
          go_simp
        refine wpC_takeR hD hQ 19 (s + 19) _ (.bool (true && (false || false))) hB rfl (fun o ρ w' hp hρ hC => ?_) (fun hB => ?_)
        · have e0 : ρ (.tmp (s + 4)) = .bool true := by
            rw [hρ]
            repeat (refine (ev_ne (by omega)).trans ?_)
            exact ev_eq (by first | omega | (simp only [sz_put]; omega))
          have e1 : ρ (.tmp (s + 18)) = .bool false := by
            rw [hρ]
            repeat (refine (ev_ne (by omega)).trans ?_)
            exact ev_eq (by first | omega | (simp only [sz_put]; omega))
          have ec : ρ (.const (.bool false)) = .bool false := by rw [hρ]; rfl
          clear hρ
          unfold execOp
          rw [hp]
          go_simp
        refine wpC_stopR hB hC0 (h _ _ ?_ ?_ hC0)
        · exact (((((((((((((((((((((Fr.refl s A).put (by omega)).put (by omega)).put (by omega)).put (by omega)).put (by omega)).put (by omega)).put (by omega)).put (by omega)).put (by omega)).put (by omega)).put (by omega)).put (by omega)).put (by omega)).put (by omega)).put (by omega)).put (by omega)).put (by omega)).put (by omega)).put (by omega)).put (by omega))
        · exact ev_eq (by simp only [sz_put]; omega)
      · refine wpC_takeGR hD hQ 17 (s + 17) _ (.bool true) hB rfl (j := 11) (dj := (s + 11)) rfl (by first | omega | (simp only [sz_put]; omega)) ?_ (fun o ρ w' hp hρ hC => ?_) (fun hB => ?_)
        · repeat (refine (ev_ne (by omega)).trans ?_)
          exact ev_eq (by first | omega | (simp only [sz_put]; omega))
        · have e0 : ρ (.tmp (s + 12)) = .agg #[.int .u64 k.lor, .int .i64 k.upr] := by
            rw [hρ]
            repeat (refine (ev_ne (by omega)).trans ?_)
            exact ev_eq (by first | omega | (simp only [sz_put]; omega))
          have e1 : ρ (.tmp (s + 16)) = .agg #[.int .u64 k.lon, .int .i64 k.upn] := by
            rw [hρ]
            repeat (refine (ev_ne (by omega)).trans ?_)
            exact ev_eq (by first | omega | (simp only [sz_put]; omega))
          rw [(h2 rfl).1, (h2 rfl).2] at e1
          clear hρ
          unfold execOp
          rw [hp]
          go_simp
        refine wpC_takeGR hD hQ 18 (s + 18) _ (.bool true) hB rfl (j := 4) (dj := (s + 4)) rfl (by first | omega | (simp only [sz_put]; omega)) ?_ (fun o ρ w' hp hρ hC => ?_) (fun hB => ?_)
        · repeat (refine (ev_ne (by omega)).trans ?_)
          exact ev_eq (by first | omega | (simp only [sz_put]; omega))
        · have e0 : ρ (.tmp (s + 11)) = .bool false := by
            rw [hρ]
            repeat (refine (ev_ne (by omega)).trans ?_)
            exact ev_eq (by first | omega | (simp only [sz_put]; omega))
          have e1 : ρ (.tmp (s + 17)) = .bool true := by
            rw [hρ]
            repeat (refine (ev_ne (by omega)).trans ?_)
            exact ev_eq (by first | omega | (simp only [sz_put]; omega))
          have ec : ρ (.const (.bool true)) = .bool true := by rw [hρ]; rfl
          clear hρ
          unfold execOp
          rw [hp]
          go_simp
        refine wpC_takeR hD hQ 19 (s + 19) _ (.bool (true && (false || true))) hB rfl (fun o ρ w' hp hρ hC => ?_) (fun hB => ?_)
        · have e0 : ρ (.tmp (s + 4)) = .bool true := by
            rw [hρ]
            repeat (refine (ev_ne (by omega)).trans ?_)
            exact ev_eq (by first | omega | (simp only [sz_put]; omega))
          have e1 : ρ (.tmp (s + 18)) = .bool true := by
            rw [hρ]
            repeat (refine (ev_ne (by omega)).trans ?_)
            exact ev_eq (by first | omega | (simp only [sz_put]; omega))
          have ec : ρ (.const (.bool false)) = .bool false := by rw [hρ]; rfl
          clear hρ
          unfold execOp
          rw [hp]
          go_simp
        refine wpC_stopR hB hC0 (h _ _ ?_ ?_ hC0)
        · exact (((((((((((((((((((((Fr.refl s A).put (by omega)).put (by omega)).put (by omega)).put (by omega)).put (by omega)).put (by omega)).put (by omega)).put (by omega)).put (by omega)).put (by omega)).put (by omega)).put (by omega)).put (by omega)).put (by omega)).put (by omega)).put (by omega)).put (by omega)).put (by omega)).put (by omega)).put (by omega))
        · exact ev_eq (by simp only [sz_put]; omega)
    · refine wpC_takeGR hD hQ 10 (s + 10) _ (.bool true) hB rfl (j := 4) (dj := (s + 4)) rfl (by first | omega | (simp only [sz_put]; omega)) ?_ (fun o ρ w' hp hρ hC => ?_) (fun hB => ?_)
      · repeat (refine (ev_ne (by omega)).trans ?_)
        exact ev_eq (by first | omega | (simp only [sz_put]; omega))
      · have e0 : ρ (.tmp (s + 5)) = .agg #[.int .u64 k.lor, .int .i64 k.upr] := by
          rw [hρ]
          repeat (refine (ev_ne (by omega)).trans ?_)
          exact ev_eq (by first | omega | (simp only [sz_put]; omega))
        have e1 : ρ (.tmp (s + 9)) = .agg #[.int .u64 k.lof, .int .i64 k.upf] := by
          rw [hρ]
          repeat (refine (ev_ne (by omega)).trans ?_)
          exact ev_eq (by first | omega | (simp only [sz_put]; omega))
        rw [(h1 rfl).1, (h1 rfl).2] at e1
        clear hρ
        unfold execOp
        rw [hp]
        go_simp
      refine wpC_takeGR hD hQ 11 (s + 11) _ (.bool true) hB rfl (j := 4) (dj := (s + 4)) rfl (by first | omega | (simp only [sz_put]; omega)) ?_ (fun o ρ w' hp hρ hC => ?_) (fun hB => ?_)
      · repeat (refine (ev_ne (by omega)).trans ?_)
        exact ev_eq (by first | omega | (simp only [sz_put]; omega))
      · have e0 : ρ (.tmp (s + 10)) = .bool true := by
          rw [hρ]
          repeat (refine (ev_ne (by omega)).trans ?_)
          exact ev_eq (by first | omega | (simp only [sz_put]; omega))
        clear hρ
        unfold execOp
        rw [hp]
        go_simp
      refine wpC_skipGR hD hQ 12 (s + 12) hB rfl (j := 11) (dj := (s + 11)) rfl (by first | omega | (simp only [sz_put]; omega)) ?_ (fun hB => ?_)
      · refine fun hx => ?_
        have e := hx.symm.trans (show _ = .bool true by
          repeat (refine (ev_ne (by omega)).trans ?_)
          exact ev_eq (by first | omega | (simp only [sz_put]; omega)))
        cases e
      refine wpC_skipGR hD hQ 13 (s + 13) hB rfl (j := 11) (dj := (s + 11)) rfl (by first | omega | (simp only [sz_put]; omega)) ?_ (fun hB => ?_)
      · refine fun hx => ?_
        have e := hx.symm.trans (show _ = .bool true by
          repeat (refine (ev_ne (by omega)).trans ?_)
          exact ev_eq (by first | omega | (simp only [sz_put]; omega)))
        cases e
      refine wpC_skipGR hD hQ 14 (s + 14) hB rfl (j := 11) (dj := (s + 11)) rfl (by first | omega | (simp only [sz_put]; omega)) ?_ (fun hB => ?_)
      · refine fun hx => ?_
        have e := hx.symm.trans (show _ = .bool true by
          repeat (refine (ev_ne (by omega)).trans ?_)
          exact ev_eq (by first | omega | (simp only [sz_put]; omega)))
        cases e
      refine wpC_skipGR hD hQ 15 (s + 15) hB rfl (j := 11) (dj := (s + 11)) rfl (by first | omega | (simp only [sz_put]; omega)) ?_ (fun hB => ?_)
      · refine fun hx => ?_
        have e := hx.symm.trans (show _ = .bool true by
          repeat (refine (ev_ne (by omega)).trans ?_)
          exact ev_eq (by first | omega | (simp only [sz_put]; omega)))
        cases e
      refine wpC_skipGR hD hQ 16 (s + 16) hB rfl (j := 11) (dj := (s + 11)) rfl (by first | omega | (simp only [sz_put]; omega)) ?_ (fun hB => ?_)
      · refine fun hx => ?_
        have e := hx.symm.trans (show _ = .bool true by
          repeat (refine (ev_ne (by omega)).trans ?_)
          exact ev_eq (by first | omega | (simp only [sz_put]; omega)))
        cases e
      refine wpC_skipGR hD hQ 17 (s + 17) hB rfl (j := 11) (dj := (s + 11)) rfl (by first | omega | (simp only [sz_put]; omega)) ?_ (fun hB => ?_)
      · refine fun hx => ?_
        have e := hx.symm.trans (show _ = .bool true by
          repeat (refine (ev_ne (by omega)).trans ?_)
          exact ev_eq (by first | omega | (simp only [sz_put]; omega)))
        cases e
      refine wpC_takeGR hD hQ 18 (s + 18) _ (.bool true) hB rfl (j := 4) (dj := (s + 4)) rfl (by first | omega | (simp only [sz_put]; omega)) ?_ (fun o ρ w' hp hρ hC => ?_) (fun hB => ?_)
      · repeat (refine (ev_ne (by omega)).trans ?_)
        exact ev_eq (by first | omega | (simp only [sz_put]; omega))
      · have e0 : ρ (.tmp (s + 11)) = .bool true := by
          rw [hρ]
          repeat (refine (ev_ne (by omega)).trans ?_)
          exact ev_eq (by first | omega | (simp only [sz_put]; omega))
        have ec : ρ (.const (.bool true)) = .bool true := by rw [hρ]; rfl
        clear hρ
        unfold execOp
        rw [hp]
        go_simp
      refine wpC_takeR hD hQ 19 (s + 19) _ (.bool (true && (true || e2))) hB rfl (fun o ρ w' hp hρ hC => ?_) (fun hB => ?_)
      · have e0 : ρ (.tmp (s + 4)) = .bool true := by
          rw [hρ]
          repeat (refine (ev_ne (by omega)).trans ?_)
          exact ev_eq (by first | omega | (simp only [sz_put]; omega))
        have e1 : ρ (.tmp (s + 18)) = .bool true := by
          rw [hρ]
          repeat (refine (ev_ne (by omega)).trans ?_)
          exact ev_eq (by first | omega | (simp only [sz_put]; omega))
        have ec : ρ (.const (.bool false)) = .bool false := by rw [hρ]; rfl
        clear hρ
        unfold execOp
        rw [hp]
        go_simp
      refine wpC_stopR hB hC0 (h _ _ ?_ ?_ hC0)
      · exact (((((((((((((((((((((Fr.refl s A).put (by omega)).put (by omega)).put (by omega)).put (by omega)).put (by omega)).put (by omega)).put (by omega)).put (by omega)).put (by omega)).put (by omega)).put (by omega)).put (by omega)).put (by omega)).put (by omega)).put (by omega)).put (by omega)).put (by omega)).put (by omega)).put (by omega)).put (by omega))
      · exact ev_eq (by simp only [sz_put]; omega)
end Go.Proofs.YtamkglgiaiejkaaGreatDoor
