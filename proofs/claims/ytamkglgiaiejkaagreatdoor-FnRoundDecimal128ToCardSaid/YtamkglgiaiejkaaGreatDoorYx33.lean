import Derived.Test.YtamkglgiaiejkaaGreatDoorYx32
/-! The kernel's rounding: the product, and whether it fits. -/
namespace Go.Proofs.YtamkglgiaiejkaaGreatDoor
open Go.RowKit

theorem enters76 (args : Array Value) (w : World) : (callFunc 76 args).run Tryz.prog w = .ok (.enter 76 args) w := enters Tryz.func76 (by kernel_rfl) (by kernel_rfl) args w
theorem enters47 (args : Array Value) (w : World) : (callFunc 47 args).run Tryz.prog w = .ok (.enter 47 args) w := enters Tryz.func47 (by kernel_rfl) (by kernel_rfl) args w
theorem enters310 (args : Array Value) (w : World) : (callFunc 310 args).run Tryz.prog w = .ok (.enter 310 args) w := enters Tryz.func310 (by kernel_rfl) (by kernel_rfl) args w
@[go_sem] theorem method_GetPrecision (a : Addr) (w : World) : (method 435 47 (.pointer (some a)) "GetPrecision").run Tryz.prog w = .ok (310, .pointer (some a)) w := by kernel_rfl
def mulK (md : Region.Mode) (ops : Array Oper) (L : Array Bool) : Bool :=
  (Region.ready md ops L == [15, 16]) && (Region.ready md ops (L.setIfInBounds 15 true) == [16]) && (Region.ready md ops (L.setIfInBounds 16 true) == [15]) && (Region.ready md ops ((L.setIfInBounds 15 true).setIfInBounds 16 true) == [17]) && (Region.ready md ops (((L.setIfInBounds 15 true).setIfInBounds 16 true).setIfInBounds 17 true)).isEmpty
def mulD (s : Nat) : List (Option Tmp × Op × Option (Nat × Bool)) := [(some s, Op.move (.tmp 0), none), (some (s + 1), Op.nilCheck (.tmp s), none), (some (s + 2), Op.fieldAddr 87 (.tmp (s + 1)) 6, none), (some (s + 3), Op.load 68 (.tmp (s + 2)), none), (some (s + 4), Op.nilCheck (.tmp (s + 3)), none), (some (s + 5), Op.fieldAddr 99 (.tmp (s + 4)) 0, none), (some (s + 6), Op.load 88 (.tmp (s + 5)), none), (some (s + 7), Op.nilCheck (.tmp (s + 6)), none), (some (s + 8), Op.fieldAddr 104 (.tmp (s + 7)) 3, none), (some (s + 9), Op.load 100 (.tmp (s + 8)), none), (some (s + 10), Op.load 42 (.tmp 8), none), (some (s + 11), Op.move (.tmp 0), none), (some (s + 12), Op.nilCheck (.tmp (s + 11)), none), (some (s + 13), Op.fieldAddr 87 (.tmp (s + 12)) 2, none), (some (s + 14), Op.load 42 (.tmp (s + 13)), none), (some (s + 15), Op.call { callee := .value (.tmp (s + 9)), args := #[.tmp (s + 10), .tmp (s + 14)], argTypes := #[42, 42] }, none), (some 11, Op.alloc 42, none), (none, Op.store 42 (.tmp 11) (.tmp (s + 15)), none)]
def mulO : List (Nat × Bool) := [(0, true), (1, true), (2, true), (3, true), (4, true), (5, true), (6, true), (7, true), (8, true), (9, true), (10, true), (11, true), (12, true), (13, true), (14, true)]
set_option maxRecDepth 100000 in
set_option maxHeartbeats 4000000 in
theorem mulR (k : Kn) {C : World → Prop} (hE : Env k C) (l2 : Nat) (h2 : Int) (HS : ∀ w, Calls Tryz.prog 76 #[.agg #[.int .u64 k.loq, .int .i64 k.upq], .agg #[.int .u64 k.lom, .int .i64 k.upm]] w fun e w' => e = .returned (.agg #[.int .u64 l2, .int .i64 h2]) ∧ Keep (fun _ => False) w w')
    (s : Nat) {l : List Oper} {id : Nat} {Q : Exit → Act → World → Prop} {A : Act} {w : World} (hD : Desc l (mulD s)) (hB : lexK .any l.toArray (mulK .any l.toArray) mulO (Array.replicate 18 false) = true) (hlen : l.length = 18) (hQ : Blind Q)
    (hs : 11 < s) (hsz : s + 18 ≤ A.tmps.size) (h0 : A.eval (.tmp 0) = .pointer (some ⟨k.rb, 0, none⟩)) (h8 : A.eval (.tmp 8) = .pointer (some ⟨k.vb, 0, none⟩)) (hC : C w)
    (h : ∀ A' w' zb, Fr 11 A A' → A'.eval (.tmp 11) = .pointer (some ⟨zb, 0, none⟩) → w.heap.size ≤ zb → w'.heap[zb]? = some (.cells #[.int .u64 l2, .int .i64 h2] 42 (0, 0)) → Keep (fun _ => False) w w' → Q .normal A' w') : (Code.region id l.toArray true).wp Tryz.prog Q A w := by
  unfold mulD at hD
  unfold mulO at hB
  refine wp_region_takesC C (by kernel_rfl) ?_
  rw [hlen]
  have hC0 := hE.drew w hC
  have hkd : Keep (fun _ => False) w w.drew := (Keep.refl _ w).drew
  have hsd : w.heap.size ≤ w.drew.heap.size := Nat.le_refl _
  generalize w.drew = w0 at *
  refine wpC_takeK hD hQ 0 s _ (.pointer (some ⟨k.rb, 0, none⟩)) hB rfl (fun o ρ w' hp hρ hC => ?_) (fun hB => ?_)
  · have e0 : ρ (.tmp 0) = .pointer (some ⟨k.rb, 0, none⟩) := by
      rw [hρ]
      repeat (refine (ev_ne (by omega)).trans ?_)
      exact h0
    clear hρ
    unfold execOp
    rw [hp]
    go_simp
  refine wpC_takeK hD hQ 1 (s + 1) _ (.pointer (some ⟨k.rb, 0, none⟩)) hB rfl (fun o ρ w' hp hρ hC => ?_) (fun hB => ?_)
  · have e0 : ρ (.tmp s) = .pointer (some ⟨k.rb, 0, none⟩) := by
      rw [hρ]
      repeat (refine (ev_ne (by omega)).trans ?_)
      exact ev_eq (by first | omega | (simp only [sz_put]; omega))
    clear hρ
    unfold execOp
    rw [hp]
    go_simp
  refine wpC_takeK hD hQ 2 (s + 2) _ (.pointer (some ⟨k.rb, 9, none⟩)) hB rfl (fun o ρ w' hp hρ hC => ?_) (fun hB => ?_)
  · have e0 : ρ (.tmp (s + 1)) = .pointer (some ⟨k.rb, 0, none⟩) := by
      rw [hρ]
      repeat (refine (ev_ne (by omega)).trans ?_)
      exact ev_eq (by first | omega | (simp only [sz_put]; omega))
    clear hρ
    unfold execOp
    rw [hp]
    go_simp
  refine wpC_takeK hD hQ 3 (s + 3) _ (.pointer (some ⟨k.ib, 0, none⟩)) hB rfl (fun o ρ w' hp hρ hC => ?_) (fun hB => ?_)
  · have e0 : ρ (.tmp (s + 2)) = .pointer (some ⟨k.rb, 9, none⟩) := by
      rw [hρ]
      repeat (refine (ev_ne (by omega)).trans ?_)
      exact ev_eq (by first | omega | (simp only [sz_put]; omega))
    clear hρ
    have d0 := hE.c9 w' hC
    unfold execOp
    rw [hp]
    go_simp
  refine wpC_takeK hD hQ 4 (s + 4) _ (.pointer (some ⟨k.ib, 0, none⟩)) hB rfl (fun o ρ w' hp hρ hC => ?_) (fun hB => ?_)
  · have e0 : ρ (.tmp (s + 3)) = .pointer (some ⟨k.ib, 0, none⟩) := by
      rw [hρ]
      repeat (refine (ev_ne (by omega)).trans ?_)
      exact ev_eq (by first | omega | (simp only [sz_put]; omega))
    clear hρ
    unfold execOp
    rw [hp]
    go_simp
  refine wpC_takeK hD hQ 5 (s + 5) _ (.pointer (some ⟨k.ib, 0, none⟩)) hB rfl (fun o ρ w' hp hρ hC => ?_) (fun hB => ?_)
  · have e0 : ρ (.tmp (s + 4)) = .pointer (some ⟨k.ib, 0, none⟩) := by
      rw [hρ]
      repeat (refine (ev_ne (by omega)).trans ?_)
      exact ev_eq (by first | omega | (simp only [sz_put]; omega))
    clear hρ
    unfold execOp
    rw [hp]
    go_simp
  refine wpC_takeK hD hQ 6 (s + 6) _ (.pointer (some ⟨k.ob, 0, none⟩)) hB rfl (fun o ρ w' hp hρ hC => ?_) (fun hB => ?_)
  · have e0 : ρ (.tmp (s + 5)) = .pointer (some ⟨k.ib, 0, none⟩) := by
      rw [hρ]
      repeat (refine (ev_ne (by omega)).trans ?_)
      exact ev_eq (by first | omega | (simp only [sz_put]; omega))
    clear hρ
    have d0 := hE.i0 w' hC
    unfold execOp
    rw [hp]
    go_simp
  refine wpC_takeK hD hQ 7 (s + 7) _ (.pointer (some ⟨k.ob, 0, none⟩)) hB rfl (fun o ρ w' hp hρ hC => ?_) (fun hB => ?_)
  · have e0 : ρ (.tmp (s + 6)) = .pointer (some ⟨k.ob, 0, none⟩) := by
      rw [hρ]
      repeat (refine (ev_ne (by omega)).trans ?_)
      exact ev_eq (by first | omega | (simp only [sz_put]; omega))
    clear hρ
    unfold execOp
    rw [hp]
    go_simp
  refine wpC_takeK hD hQ 8 (s + 8) _ (.pointer (some ⟨k.ob, 3, none⟩)) hB rfl (fun o ρ w' hp hρ hC => ?_) (fun hB => ?_)
  · have e0 : ρ (.tmp (s + 7)) = .pointer (some ⟨k.ob, 0, none⟩) := by
      rw [hρ]
      repeat (refine (ev_ne (by omega)).trans ?_)
      exact ev_eq (by first | omega | (simp only [sz_put]; omega))
    clear hρ
    unfold execOp
    rw [hp]
    go_simp
  refine wpC_takeK hD hQ 9 (s + 9) _ (.func (.func 76) #[] #[]) hB rfl (fun o ρ w' hp hρ hC => ?_) (fun hB => ?_)
  · have e0 : ρ (.tmp (s + 8)) = .pointer (some ⟨k.ob, 3, none⟩) := by
      rw [hρ]
      repeat (refine (ev_ne (by omega)).trans ?_)
      exact ev_eq (by first | omega | (simp only [sz_put]; omega))
    clear hρ
    have d0 := hE.o3 w' hC
    unfold execOp
    rw [hp]
    go_simp
  refine wpC_takeK hD hQ 10 (s + 10) _ (.agg #[.int .u64 k.loq, .int .i64 k.upq]) hB rfl (fun o ρ w' hp hρ hC => ?_) (fun hB => ?_)
  · have e0 : ρ (.tmp 8) = .pointer (some ⟨k.vb, 0, none⟩) := by
      rw [hρ]
      repeat (refine (ev_ne (by omega)).trans ?_)
      exact h8
    clear hρ
    have d0 := hE.v0 w' hC
    have d1 := hE.v1 w' hC
    unfold execOp
    rw [hp]
    go_simp
  refine wpC_takeK hD hQ 11 (s + 11) _ (.pointer (some ⟨k.rb, 0, none⟩)) hB rfl (fun o ρ w' hp hρ hC => ?_) (fun hB => ?_)
  · have e0 : ρ (.tmp 0) = .pointer (some ⟨k.rb, 0, none⟩) := by
      rw [hρ]
      repeat (refine (ev_ne (by omega)).trans ?_)
      exact h0
    clear hρ
    unfold execOp
    rw [hp]
    go_simp
  refine wpC_takeK hD hQ 12 (s + 12) _ (.pointer (some ⟨k.rb, 0, none⟩)) hB rfl (fun o ρ w' hp hρ hC => ?_) (fun hB => ?_)
  · have e0 : ρ (.tmp (s + 11)) = .pointer (some ⟨k.rb, 0, none⟩) := by
      rw [hρ]
      repeat (refine (ev_ne (by omega)).trans ?_)
      exact ev_eq (by first | omega | (simp only [sz_put]; omega))
    clear hρ
    unfold execOp
    rw [hp]
    go_simp
  refine wpC_takeK hD hQ 13 (s + 13) _ (.pointer (some ⟨k.rb, 2, none⟩)) hB rfl (fun o ρ w' hp hρ hC => ?_) (fun hB => ?_)
  · have e0 : ρ (.tmp (s + 12)) = .pointer (some ⟨k.rb, 0, none⟩) := by
      rw [hρ]
      repeat (refine (ev_ne (by omega)).trans ?_)
      exact ev_eq (by first | omega | (simp only [sz_put]; omega))
    clear hρ
    unfold execOp
    rw [hp]
    go_simp
  refine wpC_takeK hD hQ 14 (s + 14) _ (.agg #[.int .u64 k.lom, .int .i64 k.upm]) hB rfl (fun o ρ w' hp hρ hC => ?_) (fun hB => ?_)
  · have e0 : ρ (.tmp (s + 13)) = .pointer (some ⟨k.rb, 2, none⟩) := by
      rw [hρ]
      repeat (refine (ev_ne (by omega)).trans ?_)
      exact ev_eq (by first | omega | (simp only [sz_put]; omega))
    clear hρ
    have d0 := hE.c2 w' hC
    have d1 := hE.c3 w' hC
    unfold execOp
    rw [hp]
    go_simp
  simp only [lexK, mulK, Bool.and_eq_true, beq_iff_eq] at hB
  obtain ⟨⟨⟨⟨r1, r2⟩, r3⟩, r4⟩, r5⟩ := hB
  obtain ⟨o15, ho15, hd15, hp15, hg15⟩ := hD.at 15 rfl
  obtain ⟨o16, ho16, hd16, hp16, hg16⟩ := hD.at 16 rfl
  obtain ⟨o17, ho17, hd17, hp17, hg17⟩ := hD.at 17 rfl
  refine wpC_two 15 16 r1 hC0 ho15 ho16 ?_ ?_
  · refine wpList_callR hg15 hd15 (f := 76) (args := #[.agg #[.int .u64 k.loq, .int .i64 k.upq], .agg #[.int .u64 k.lom, .int .i64 k.upm]]) (fun ρ hρ => ?_) ?_
    · have e0 : ρ (.tmp (s + 9)) = .func (.func 76) #[] #[] := by
        rw [hρ]
        repeat (refine (ev_ne (by omega)).trans ?_)
        exact ev_eq (by first | omega | (simp only [sz_put]; omega))
      have e1 : ρ (.tmp (s + 10)) = .agg #[.int .u64 k.loq, .int .i64 k.upq] := by
        rw [hρ]
        repeat (refine (ev_ne (by omega)).trans ?_)
        exact ev_eq (by first | omega | (simp only [sz_put]; omega))
      have e2 : ρ (.tmp (s + 14)) = .agg #[.int .u64 k.lom, .int .i64 k.upm] := by
        rw [hρ]
        repeat (refine (ev_ne (by omega)).trans ?_)
        exact ev_eq (by first | omega | (simp only [sz_put]; omega))
      clear hρ
      have he := enters76
      unfold execOp
      rw [hp15]
      go_simp
    refine (HS w0).mono ?_
    rintro e w1 ⟨rfl, hk1⟩
    refine ⟨_, rfl, wpList_then ?_⟩
    have hC1 := hE.keep _ _ hC0 hk1
    have hs1 := hk1.size
    refine wpC_only 16 r2 hC1 ho16 ?_
    refine wpList_valW hg16 hd16 (v := .pointer (some ⟨w1.heap.size, 0, none⟩)) (w' := w1.alloc (.cells #[.int .u64 0, .int .i64 0] 42)) (fun ρ hρ => ?_) (wpList_then ?_)
    · clear hρ
      unfold execOp
      rw [hp16]
      go_simp
    have hz := blk_new w1 (.cells #[.int .u64 0, .int .i64 0] 42)
    have hka := (hkd.trans hk1).alloc (.cells #[.int .u64 0, .int .i64 0] 42)
    refine wpC_only 17 r4 (hE.keep _ _ hC hka) ho17 ?_
    have z0 := blk_cell hz 0
    have z1 := blk_cell hz 1
    have zf := blk_frozen hz
    simp only [List.getElem?_toArray, List.getElem?_cons_zero, List.getElem?_cons_succ] at z0 z1
    refine wpList_storeR hg17 hd17 (w' := ((w1.alloc (.cells #[.int .u64 0, .int .i64 0] 42)).setCell ⟨w1.heap.size, 0, none⟩ (.int .u64 l2)).setCell ⟨w1.heap.size, 1, none⟩ (.int .i64 h2)) (fun ρ hρ => ?_) (wpList_then ?_)
    · have e0 : ρ (.tmp 11) = .pointer (some ⟨w1.heap.size, 0, none⟩) := by
        rw [hρ]
        repeat (refine (ev_ne (by omega)).trans ?_)
        exact ev_eq (by first | omega | (simp only [sz_put]; omega))
      have e1 : ρ (.tmp (s + 15)) = .agg #[.int .u64 l2, .int .i64 h2] := by
        rw [hρ]
        repeat (refine (ev_ne (by omega)).trans ?_)
        exact ev_eq (by first | omega | (simp only [sz_put]; omega))
      clear hρ
      unfold execOp
      rw [hp17]
      go_simp
    have hkE : Keep (fun _ => False) w (((w1.alloc (.cells #[.int .u64 0, .int .i64 0] 42)).setCell ⟨w1.heap.size, 0, none⟩ (.int .u64 l2)).setCell ⟨w1.heap.size, 1, none⟩ (.int .i64 h2)) := ((hka).setCell (.inr (by dsimp only; omega)) _).setCell (.inr (by dsimp only; omega)) _
    have hzE : (((w1.alloc (.cells #[.int .u64 0, .int .i64 0] 42)).setCell ⟨w1.heap.size, 0, none⟩ (.int .u64 l2)).setCell ⟨w1.heap.size, 1, none⟩ (.int .i64 h2)).heap[w1.heap.size]? = some (.cells #[.int .u64 l2, .int .i64 h2] 42 (0, 0)) := blk_set (blk_set hz 0 (.int .u64 l2)) 1 (.int .i64 h2)
    refine wpC_stop (by simpa using r5) (hE.keep _ _ hC hkE) (h _ _ (w1.heap.size) ?_ ?_ (by omega) hzE hkE)
    · exact ((((((((((((((((((Fr.refl 11 A).put (by omega)).put (by omega)).put (by omega)).put (by omega)).put (by omega)).put (by omega)).put (by omega)).put (by omega)).put (by omega)).put (by omega)).put (by omega)).put (by omega)).put (by omega)).put (by omega)).put (by omega)).put (by omega)).put (by omega))
    · exact ev_eq (by simp only [sz_put]; omega)
  · refine wpList_valW hg16 hd16 (v := .pointer (some ⟨w0.heap.size, 0, none⟩)) (w' := w0.alloc (.cells #[.int .u64 0, .int .i64 0] 42)) (fun ρ hρ => ?_) (wpList_then ?_)
    · clear hρ
      unfold execOp
      rw [hp16]
      go_simp
    have hz := blk_new w0 (.cells #[.int .u64 0, .int .i64 0] 42)
    have hka := hkd.alloc (.cells #[.int .u64 0, .int .i64 0] 42)
    have hCa := hE.keep _ _ hC hka
    have hlz := blk_lt hz
    refine wpC_only 15 r3 hCa ho15 ?_
    refine wpList_callR hg15 hd15 (f := 76) (args := #[.agg #[.int .u64 k.loq, .int .i64 k.upq], .agg #[.int .u64 k.lom, .int .i64 k.upm]]) (fun ρ hρ => ?_) ?_
    · have e0 : ρ (.tmp (s + 9)) = .func (.func 76) #[] #[] := by
        rw [hρ]
        repeat (refine (ev_ne (by omega)).trans ?_)
        exact ev_eq (by first | omega | (simp only [sz_put]; omega))
      have e1 : ρ (.tmp (s + 10)) = .agg #[.int .u64 k.loq, .int .i64 k.upq] := by
        rw [hρ]
        repeat (refine (ev_ne (by omega)).trans ?_)
        exact ev_eq (by first | omega | (simp only [sz_put]; omega))
      have e2 : ρ (.tmp (s + 14)) = .agg #[.int .u64 k.lom, .int .i64 k.upm] := by
        rw [hρ]
        repeat (refine (ev_ne (by omega)).trans ?_)
        exact ev_eq (by first | omega | (simp only [sz_put]; omega))
      clear hρ
      have he := enters76
      unfold execOp
      rw [hp15]
      go_simp
    refine (HS (w0.alloc (.cells #[.int .u64 0, .int .i64 0] 42))).mono ?_
    rintro e w1 ⟨rfl, hk1⟩
    refine ⟨_, rfl, wpList_then ?_⟩
    have hz1 := hk1.blk hz (fun h => h)
    have hC1 := hE.keep _ _ hCa hk1
    rw [Array.setIfInBounds_comm _ _ (by decide)]
    refine wpC_only 17 r4 hC1 ho17 ?_
    have z0 := blk_cell hz1 0
    have z1 := blk_cell hz1 1
    have zf := blk_frozen hz1
    simp only [List.getElem?_toArray, List.getElem?_cons_zero, List.getElem?_cons_succ] at z0 z1
    refine wpList_storeR hg17 hd17 (w' := (w1.setCell ⟨w0.heap.size, 0, none⟩ (.int .u64 l2)).setCell ⟨w0.heap.size, 1, none⟩ (.int .i64 h2)) (fun ρ hρ => ?_) (wpList_then ?_)
    · have e0 : ρ (.tmp 11) = .pointer (some ⟨w0.heap.size, 0, none⟩) := by
        rw [hρ]
        repeat (refine (ev_ne (by omega)).trans ?_)
        exact ev_eq (by first | omega | (simp only [sz_put]; omega))
      have e1 : ρ (.tmp (s + 15)) = .agg #[.int .u64 l2, .int .i64 h2] := by
        rw [hρ]
        repeat (refine (ev_ne (by omega)).trans ?_)
        exact ev_eq (by first | omega | (simp only [sz_put]; omega))
      clear hρ
      unfold execOp
      rw [hp17]
      go_simp
    have hkE : Keep (fun _ => False) w ((w1.setCell ⟨w0.heap.size, 0, none⟩ (.int .u64 l2)).setCell ⟨w0.heap.size, 1, none⟩ (.int .i64 h2)) := (((hka.trans hk1)).setCell (.inr (by dsimp only; omega)) _).setCell (.inr (by dsimp only; omega)) _
    have hzE : ((w1.setCell ⟨w0.heap.size, 0, none⟩ (.int .u64 l2)).setCell ⟨w0.heap.size, 1, none⟩ (.int .i64 h2)).heap[w0.heap.size]? = some (.cells #[.int .u64 l2, .int .i64 h2] 42 (0, 0)) := blk_set (blk_set hz1 0 (.int .u64 l2)) 1 (.int .i64 h2)
    refine wpC_stop (by simpa using r5) (hE.keep _ _ hC hkE) (h _ _ (w0.heap.size) ?_ ?_ (by omega) hzE hkE)
    · exact ((((((((((((((((((Fr.refl 11 A).put (by omega)).put (by omega)).put (by omega)).put (by omega)).put (by omega)).put (by omega)).put (by omega)).put (by omega)).put (by omega)).put (by omega)).put (by omega)).put (by omega)).put (by omega)).put (by omega)).put (by omega)).put (by omega)).put (by omega))
    · exact (ev_ne (by omega)).trans (ev_eq (by simp only [sz_put]; omega))
def fitsD (s : Nat) : List (Option Tmp × Op × Option (Nat × Bool)) := [(some s, Op.move (.tmp 0), none), (some (s + 1), Op.nilCheck (.tmp s), none), (some (s + 2), Op.fieldAddr 87 (.tmp (s + 1)) 6, none), (some (s + 3), Op.load 68 (.tmp (s + 2)), none), (some (s + 4), Op.nilCheck (.tmp (s + 3)), none), (some (s + 5), Op.fieldAddr 99 (.tmp (s + 4)) 4, none), (some (s + 6), Op.load 91 (.tmp (s + 5)), none), (some (s + 7), Op.load 42 (.tmp 11), none), (some (s + 8), Op.move (.tmp 0), none), (some (s + 9), Op.nilCheck (.tmp (s + 8)), none), (some (s + 10), Op.fieldAddr 87 (.tmp (s + 9)) 0, none), (some (s + 11), Op.load 83 (.tmp (s + 10)), none), (some (s + 12), Op.call { callee := .invoke (.tmp (s + 11)) "GetPrecision", args := #[], argTypes := #[] }, none), (some (s + 13), Op.call { callee := .value (.tmp (s + 6)), args := #[.tmp (s + 7), .tmp (s + 12)], argTypes := #[42, 21] }, none), (some (s + 14), Op.unOp .not 4 (.tmp (s + 13)), none)]
def fitsO : List (Nat × Bool) := [(0, true), (1, true), (2, true), (3, true), (4, true), (5, true), (6, true), (7, true), (8, true), (9, true), (10, true), (11, true), (12, false), (13, false), (14, false)]
set_option maxRecDepth 100000 in
set_option maxHeartbeats 4000000 in
theorem fitsR (k : Kn) {C : World → Prop} (hE : Env k C) (l2 : Nat) (h2 : Int) (zb : Nat) (p : Int) (b : Bool) (hz0 : ∀ w, C w → w.cell? ⟨zb, 0, none⟩ = some (.int .u64 l2)) (hz1 : ∀ w, C w → w.cell? ⟨zb, 1, none⟩ = some (.int .i64 h2))
    (HP : ∀ w, C w → Calls Tryz.prog 310 #[.pointer (some ⟨k.tb, 0, none⟩)] w fun e w' => e = .returned (.int .i32 p) ∧ w' = w) (HF : ∀ w, C w → Calls Tryz.prog 47 #[.agg #[.int .u64 l2, .int .i64 h2], .int .i32 p] w fun e w' => e = .returned (.bool b) ∧ Keep (fun _ => False) w w')
    (s : Nat) {l : List Oper} {id : Nat} {Q : Exit → Act → World → Prop} {A : Act} {w : World} (hD : Desc l (fitsD s)) (hB : lexB .any l.toArray fitsO (Array.replicate 15 false) = true) (hlen : l.length = 15) (hQ : Blind Q)
    (hs : 11 < s) (hsz : s + 15 ≤ A.tmps.size) (h0 : A.eval (.tmp 0) = .pointer (some ⟨k.rb, 0, none⟩)) (h11 : A.eval (.tmp 11) = .pointer (some ⟨zb, 0, none⟩)) (hC : C w)
    (h : ∀ A' w', Fr s A A' → A'.eval (.tmp (s + 14)) = .bool (!b) → C w' → Keep (fun _ => False) w w' → Q .normal A' w') : (Code.region id l.toArray true).wp Tryz.prog Q A w := by
  unfold fitsD at hD
  unfold fitsO at hB
  refine wp_region_takesC C (by kernel_rfl) ?_
  rw [hlen]
  have hC0 := hE.drew w hC
  have hkd : Keep (fun _ => False) w w.drew := (Keep.refl _ w).drew
  generalize w.drew = w0 at *
  refine wpC_takeR hD hQ 0 s _ (.pointer (some ⟨k.rb, 0, none⟩)) hB rfl (fun o ρ w' hp hρ hC => ?_) (fun hB => ?_)
  · have e0 : ρ (.tmp 0) = .pointer (some ⟨k.rb, 0, none⟩) := by
      rw [hρ]
      repeat (refine (ev_ne (by omega)).trans ?_)
      exact h0
    clear hρ
    unfold execOp
    rw [hp]
    go_simp
  refine wpC_takeR hD hQ 1 (s + 1) _ (.pointer (some ⟨k.rb, 0, none⟩)) hB rfl (fun o ρ w' hp hρ hC => ?_) (fun hB => ?_)
  · have e0 : ρ (.tmp s) = .pointer (some ⟨k.rb, 0, none⟩) := by
      rw [hρ]
      repeat (refine (ev_ne (by omega)).trans ?_)
      exact ev_eq (by first | omega | (simp only [sz_put]; omega))
    clear hρ
    unfold execOp
    rw [hp]
    go_simp
  refine wpC_takeR hD hQ 2 (s + 2) _ (.pointer (some ⟨k.rb, 9, none⟩)) hB rfl (fun o ρ w' hp hρ hC => ?_) (fun hB => ?_)
  · have e0 : ρ (.tmp (s + 1)) = .pointer (some ⟨k.rb, 0, none⟩) := by
      rw [hρ]
      repeat (refine (ev_ne (by omega)).trans ?_)
      exact ev_eq (by first | omega | (simp only [sz_put]; omega))
    clear hρ
    unfold execOp
    rw [hp]
    go_simp
  refine wpC_takeR hD hQ 3 (s + 3) _ (.pointer (some ⟨k.ib, 0, none⟩)) hB rfl (fun o ρ w' hp hρ hC => ?_) (fun hB => ?_)
  · have e0 : ρ (.tmp (s + 2)) = .pointer (some ⟨k.rb, 9, none⟩) := by
      rw [hρ]
      repeat (refine (ev_ne (by omega)).trans ?_)
      exact ev_eq (by first | omega | (simp only [sz_put]; omega))
    clear hρ
    have d0 := hE.c9 w' hC
    unfold execOp
    rw [hp]
    go_simp
  refine wpC_takeR hD hQ 4 (s + 4) _ (.pointer (some ⟨k.ib, 0, none⟩)) hB rfl (fun o ρ w' hp hρ hC => ?_) (fun hB => ?_)
  · have e0 : ρ (.tmp (s + 3)) = .pointer (some ⟨k.ib, 0, none⟩) := by
      rw [hρ]
      repeat (refine (ev_ne (by omega)).trans ?_)
      exact ev_eq (by first | omega | (simp only [sz_put]; omega))
    clear hρ
    unfold execOp
    rw [hp]
    go_simp
  refine wpC_takeR hD hQ 5 (s + 5) _ (.pointer (some ⟨k.ib, 4, none⟩)) hB rfl (fun o ρ w' hp hρ hC => ?_) (fun hB => ?_)
  · have e0 : ρ (.tmp (s + 4)) = .pointer (some ⟨k.ib, 0, none⟩) := by
      rw [hρ]
      repeat (refine (ev_ne (by omega)).trans ?_)
      exact ev_eq (by first | omega | (simp only [sz_put]; omega))
    clear hρ
    unfold execOp
    rw [hp]
    go_simp
  refine wpC_takeR hD hQ 6 (s + 6) _ (.func (.func 47) #[] #[]) hB rfl (fun o ρ w' hp hρ hC => ?_) (fun hB => ?_)
  · have e0 : ρ (.tmp (s + 5)) = .pointer (some ⟨k.ib, 4, none⟩) := by
      rw [hρ]
      repeat (refine (ev_ne (by omega)).trans ?_)
      exact ev_eq (by first | omega | (simp only [sz_put]; omega))
    clear hρ
    have d0 := hE.i4 w' hC
    unfold execOp
    rw [hp]
    go_simp
  refine wpC_takeR hD hQ 7 (s + 7) _ (.agg #[.int .u64 l2, .int .i64 h2]) hB rfl (fun o ρ w' hp hρ hC => ?_) (fun hB => ?_)
  · have e0 : ρ (.tmp 11) = .pointer (some ⟨zb, 0, none⟩) := by
      rw [hρ]
      repeat (refine (ev_ne (by omega)).trans ?_)
      exact h11
    clear hρ
    have d0 := hz0 w' hC
    have d1 := hz1 w' hC
    unfold execOp
    rw [hp]
    go_simp
  refine wpC_takeR hD hQ 8 (s + 8) _ (.pointer (some ⟨k.rb, 0, none⟩)) hB rfl (fun o ρ w' hp hρ hC => ?_) (fun hB => ?_)
  · have e0 : ρ (.tmp 0) = .pointer (some ⟨k.rb, 0, none⟩) := by
      rw [hρ]
      repeat (refine (ev_ne (by omega)).trans ?_)
      exact h0
    clear hρ
    unfold execOp
    rw [hp]
    go_simp
  refine wpC_takeR hD hQ 9 (s + 9) _ (.pointer (some ⟨k.rb, 0, none⟩)) hB rfl (fun o ρ w' hp hρ hC => ?_) (fun hB => ?_)
  · have e0 : ρ (.tmp (s + 8)) = .pointer (some ⟨k.rb, 0, none⟩) := by
      rw [hρ]
      repeat (refine (ev_ne (by omega)).trans ?_)
      exact ev_eq (by first | omega | (simp only [sz_put]; omega))
    clear hρ
    unfold execOp
    rw [hp]
    go_simp
  refine wpC_takeR hD hQ 10 (s + 10) _ (.pointer (some ⟨k.rb, 0, none⟩)) hB rfl (fun o ρ w' hp hρ hC => ?_) (fun hB => ?_)
  · have e0 : ρ (.tmp (s + 9)) = .pointer (some ⟨k.rb, 0, none⟩) := by
      rw [hρ]
      repeat (refine (ev_ne (by omega)).trans ?_)
      exact ev_eq (by first | omega | (simp only [sz_put]; omega))
    clear hρ
    unfold execOp
    rw [hp]
    go_simp
  refine wpC_takeR hD hQ 11 (s + 11) _ (.iface 47 (.pointer (some ⟨k.tb, 0, none⟩))) hB rfl (fun o ρ w' hp hρ hC => ?_) (fun hB => ?_)
  · have e0 : ρ (.tmp (s + 10)) = .pointer (some ⟨k.rb, 0, none⟩) := by
      rw [hρ]
      repeat (refine (ev_ne (by omega)).trans ?_)
      exact ev_eq (by first | omega | (simp only [sz_put]; omega))
    clear hρ
    have d0 := hE.c0 w' hC
    unfold execOp
    rw [hp]
    go_simp
  refine wpC_callR hD 12 _ _ hB rfl hC0 (fun o hd hp hg hB => ?_)
  refine wpList_callR hg hd (f := 310) (args := #[.pointer (some ⟨k.tb, 0, none⟩)]) (fun ρ hρ => ?_) ?_
  · have e0 : ρ (.tmp (s + 11)) = .iface 47 (.pointer (some ⟨k.tb, 0, none⟩)) := by
      rw [hρ]
      repeat (refine (ev_ne (by omega)).trans ?_)
      exact ev_eq (by first | omega | (simp only [sz_put]; omega))
    clear hρ
    have he := enters310
    unfold execOp
    rw [hp]
    go_simp
  refine (HP w0 hC0).mono ?_
  rintro e w1 ⟨rfl, rfl⟩
  refine ⟨_, rfl, wpList_then ?_⟩
  refine wpC_callR hD 13 _ _ hB rfl hC0 (fun o hd hp hg hB => ?_)
  refine wpList_callR hg hd (f := 47) (args := #[.agg #[.int .u64 l2, .int .i64 h2], .int .i32 p]) (fun ρ hρ => ?_) ?_
  · have e0 : ρ (.tmp (s + 6)) = .func (.func 47) #[] #[] := by
      rw [hρ]
      repeat (refine (ev_ne (by omega)).trans ?_)
      exact ev_eq (by first | omega | (simp only [sz_put]; omega))
    have e1 : ρ (.tmp (s + 7)) = .agg #[.int .u64 l2, .int .i64 h2] := by
      rw [hρ]
      repeat (refine (ev_ne (by omega)).trans ?_)
      exact ev_eq (by first | omega | (simp only [sz_put]; omega))
    have e2 : ρ (.tmp (s + 12)) = .int .i32 p := by
      rw [hρ]
      repeat (refine (ev_ne (by omega)).trans ?_)
      exact ev_eq (by first | omega | (simp only [sz_put]; omega))
    clear hρ
    have he := enters47
    unfold execOp
    rw [hp]
    go_simp
  refine (HF w1 hC0).mono ?_
  rintro e w2 ⟨rfl, hk2⟩
  refine ⟨_, rfl, wpList_then ?_⟩
  have hC1 := hE.keep _ _ hC0 hk2
  refine wpC_callR hD 14 _ _ hB rfl hC1 (fun o hd hp hg hB => ?_)
  refine wpList_valR hg hd (v := .bool (!b)) (fun ρ hρ => ?_) (wpList_then ?_)
  · have e0 : ρ (.tmp (s + 13)) = .bool b := by
      rw [hρ]
      repeat (refine (ev_ne (by omega)).trans ?_)
      exact ev_eq (by first | omega | (simp only [sz_put]; omega))
    clear hρ
    unfold execOp
    rw [hp]
    go_simp
  refine wpC_stopR hB hC1 (h _ _ ?_ ?_ hC1 (hkd.trans hk2))
  · exact ((((((((((((((((Fr.refl s A).put (by omega)).put (by omega)).put (by omega)).put (by omega)).put (by omega)).put (by omega)).put (by omega)).put (by omega)).put (by omega)).put (by omega)).put (by omega)).put (by omega)).put (by omega)).put (by omega)).put (by omega))
  · exact ev_eq (by simp only [sz_put]; omega)
theorem Env.from {k : Kn} {C : World → Prop} (h : Env k C) (w : World) (hC : C w) : Env k (fun w' => Keep (fun _ => False) w w') :=
  have g : ∀ w', Keep (fun _ => False) w w' → C w' := fun _ hk => h.keep _ _ hC hk
  ⟨fun _ _ h1 h2 => h1.trans h2, fun w' hk => h.c0 _ (g w' hk), fun w' hk => h.c1 _ (g w' hk), fun w' hk => h.c2 _ (g w' hk), fun w' hk => h.c3 _ (g w' hk), fun w' hk => h.c4 _ (g w' hk), fun w' hk => h.c5 _ (g w' hk), fun w' hk => h.c6 _ (g w' hk), fun w' hk => h.c7 _ (g w' hk), fun w' hk => h.c8 _ (g w' hk), fun w' hk => h.c9 _ (g w' hk), fun w' hk => h.i0 _ (g w' hk), fun w' hk => h.i4 _ (g w' hk), fun w' hk => h.i5 _ (g w' hk), fun w' hk => h.i8 _ (g w' hk), fun w' hk => h.o0 _ (g w' hk), fun w' hk => h.o1 _ (g w' hk), fun w' hk => h.o3 _ (g w' hk), fun w' hk => h.o6 _ (g w' hk), fun w' hk => h.q0 _ (g w' hk), fun w' hk => h.q1 _ (g w' hk), fun w' hk => h.n0 _ (g w' hk), fun w' hk => h.n1 _ (g w' hk), fun w' hk => h.v _ (g w' hk)⟩
def copyD (s j : Nat) : List (Option Tmp × Op × Option (Nat × Bool)) := [(some s, Op.load 42 (.tmp j), none), (none, Op.store 42 (.tmp 6) (.tmp s), none)]
set_option maxRecDepth 100000 in
set_option maxHeartbeats 4000000 in
theorem copyR (s j src dst : Nat) (l2 : Nat) (h2 l0 h0 : Value) {l : List Oper} {id : Nat} {Q : Exit → Act → World → Prop} {A : Act} {w : World} (hD : Desc l (copyD s j)) (hs : 6 < s) (hsz : s + 1 ≤ A.tmps.size) (hj : A.eval (.tmp j) = .pointer (some ⟨src, 0, none⟩)) (h6 : A.eval (.tmp 6) = .pointer (some ⟨dst, 0, none⟩)) (u2 : Int) (e2 : h2 = .int .i64 u2)
    (c0 : w.cell? ⟨src, 0, none⟩ = some (.int .u64 l2)) (c1 : w.cell? ⟨src, 1, none⟩ = some h2) (hd : w.heap[dst]? = some (.cells #[l0, h0] 42 (0, 0)))
    (h : ∀ A', Fr s A A' → Q .normal A' ((w.setCell ⟨dst, 0, none⟩ (.int .u64 l2)).setCell ⟨dst, 1, none⟩ h2)) : (Code.region id l.toArray false).wp Tryz.prog Q A w := by
  subst e2
  unfold copyD at hD
  obtain ⟨o0, l0, rfl, hd0, hp0, hg0, hD⟩ := hD.cons
  obtain ⟨o1, l1, rfl, hd1, hp1, hg1, hD⟩ := hD.cons
  obtain rfl := hD.nil
  have d0 := blk_cell hd 0
  have d1 := blk_cell hd 1
  have df := blk_frozen hd
  simp only [List.getElem?_toArray, List.getElem?_cons_zero, List.getElem?_cons_succ] at d0 d1
  clear hd
  refine wp_region_lit ?_
  refine wpList_valR hg0 hd0 (v := .agg #[.int .u64 l2, .int .i64 u2]) (fun ρ hρ => ?_) ?_
  · have e0 : ρ (.tmp j) = .pointer (some ⟨src, 0, none⟩) := by
      rw [hρ]
      repeat (refine (ev_ne (by omega)).trans ?_)
      exact hj
    clear hρ
    unfold execOp
    rw [hp0]
    go_simp
  refine wpList_storeR hg1 hd1 (w' := (w.setCell ⟨dst, 0, none⟩ (.int .u64 l2)).setCell ⟨dst, 1, none⟩ (.int .i64 u2)) (fun ρ hρ => ?_) ?_
  · have e0 : ρ (.tmp 6) = .pointer (some ⟨dst, 0, none⟩) := by
      rw [hρ]
      repeat (refine (ev_ne (by omega)).trans ?_)
      exact h6
    have e1 : ρ (.tmp s) = .agg #[.int .u64 l2, .int .i64 u2] := by
      rw [hρ]
      repeat (refine (ev_ne (by omega)).trans ?_)
      exact ev_eq (by first | omega | (simp only [sz_put]; omega))
    clear hρ
    unfold execOp
    rw [hp1]
    go_simp
  exact wpList_end (h _ ((Fr.refl s A).put (by omega)))
def errD (s : Nat) (t : ByteArray) : List (Option Tmp × Op × Option (Nat × Bool)) := [(some s, Op.move (.tmp 2), none), (some (s + 1), Op.call { callee := .value (.func 71), args := #[.const (.string t)], argTypes := #[9] }, none), (some (s + 2), Op.nilCheck (.tmp s), none), (none, Op.store 44 (.tmp (s + 2)) (.tmp (s + 1)), none)]
set_option maxRecDepth 100000 in
set_option maxHeartbeats 4000000 in
theorem errR (s eb : Nat) (t : ByteArray) (HN : ∀ w, Calls Tryz.prog 71 #[.string t] w fun e w' => e = .returned (.iface 140 (.pointer (some ⟨w.heap.size, 0, none⟩))) ∧ Keep (fun _ => False) w w') {l : List Oper} {id : Nat} {Q : Exit → Act → World → Prop} {A : Act} {w : World} (hD : Desc l (errD s t)) (hsz : s + 3 ≤ A.tmps.size) (h2 : A.eval (.tmp 2) = .pointer (some ⟨eb, 0, none⟩)) (v0 : Value)
    (he : w.heap[eb]? = some (.cells #[v0] 44 (0, 0)))
    (h : ∀ A' w1, Fr s A A' → Keep (fun _ => False) w w1 → Q .normal A' (w1.setCell ⟨eb, 0, none⟩ (.iface 140 (.pointer (some ⟨w.heap.size, 0, none⟩))))) : (Code.region id l.toArray false).wp Tryz.prog Q A w := by
  unfold errD at hD
  obtain ⟨o0, l0, rfl, hd0, hp0, hg0, hD⟩ := hD.cons
  obtain ⟨o1, l1, rfl, hd1, hp1, hg1, hD⟩ := hD.cons
  obtain ⟨o2, l2, rfl, hd2, hp2, hg2, hD⟩ := hD.cons
  obtain ⟨o3, l3, rfl, hd3, hp3, hg3, hD⟩ := hD.cons
  obtain rfl := hD.nil
  have hen : ∀ (args : Array Value) (w : World), (callFunc 71 args).run Tryz.prog w = .ok (.enter 71 args) w := fun args w => enters Tryz.func71 (by kernel_rfl) (by kernel_rfl) args w
  refine wp_region_lit ?_
  refine wpList_valR hg0 hd0 (v := .pointer (some ⟨eb, 0, none⟩)) (fun ρ hρ => ?_) ?_
  · have e0 : ρ (.tmp 2) = .pointer (some ⟨eb, 0, none⟩) := by
      rw [hρ]
      repeat (refine (ev_ne (by omega)).trans ?_)
      exact h2
    clear hρ
    unfold execOp
    rw [hp0]
    go_simp
  refine wpList_callR hg1 hd1 (f := 71) (args := #[.string t]) (fun ρ hρ => ?_) ?_
  · have ec : ρ (.const (.string t)) = .string t := by rw [hρ]; rfl
    have ef : ρ (.func 71) = .func (.func 71) #[] #[] := by rw [hρ]; rfl
    clear hρ
    unfold execOp
    rw [hp1]
    go_simp
  refine (HN w).mono ?_
  rintro e w1 ⟨rfl, hk1⟩
  refine ⟨_, rfl, ?_⟩
  have he1 := hk1.blk he (fun h => h)
  have d0 := blk_cell he1 0
  have df := blk_frozen he1
  simp only [List.getElem?_toArray, List.getElem?_cons_zero] at d0
  clear he he1
  refine wpList_valR hg2 hd2 (v := .pointer (some ⟨eb, 0, none⟩)) (fun ρ hρ => ?_) ?_
  · have e0 : ρ (.tmp s) = .pointer (some ⟨eb, 0, none⟩) := by
      rw [hρ]
      repeat (refine (ev_ne (by omega)).trans ?_)
      exact ev_eq (by first | omega | (simp only [sz_put]; omega))
    clear hρ
    unfold execOp
    rw [hp2]
    go_simp
  refine wpList_storeR hg3 hd3 (w' := w1.setCell ⟨eb, 0, none⟩ (.iface 140 (.pointer (some ⟨w.heap.size, 0, none⟩)))) (fun ρ hρ => ?_) ?_
  · have e0 : ρ (.tmp (s + 2)) = .pointer (some ⟨eb, 0, none⟩) := by
      rw [hρ]
      repeat (refine (ev_ne (by omega)).trans ?_)
      exact ev_eq (by first | omega | (simp only [sz_put]; omega))
    have e1 : ρ (.tmp (s + 1)) = .iface 140 (.pointer (some ⟨w.heap.size, 0, none⟩)) := by
      rw [hρ]
      repeat (refine (ev_ne (by omega)).trans ?_)
      exact ev_eq (by first | omega | (simp only [sz_put]; omega))
    clear hρ
    unfold execOp
    rw [hp3]
    go_simp
  exact wpList_end (h _ _ ((((Fr.refl s A).put (by omega)).put (by omega)).put (by omega)) hk1)
end Go.Proofs.YtamkglgiaiejkaaGreatDoor
