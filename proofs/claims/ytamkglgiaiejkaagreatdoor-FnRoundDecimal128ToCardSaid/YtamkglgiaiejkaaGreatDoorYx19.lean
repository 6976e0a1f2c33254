import Derived.Test.YtamkglgiaiejkaaGreatDoorYx18
import Derived.Laws.IdiomCopy
/-! Natural numbers of words: copied, set. -/
namespace Go.Proofs.YtamkglgiaiejkaaGreatDoor
open Go.RowKit

theorem und126 : Tryz.prog.underlying 126 = some (.slice 150) := by kernel_rfl
theorem size150 : (Tryz.prog.info? 150).map (·.size) = some 1 := by kernel_rfl
theorem NV.nil (w : World) (A : Option Addr) (c : Nat) : NV w (.slice A 0 c) 0 := ⟨A, c, rfl, Nat.zero_le _, fun h => absurd h (by decide)⟩
theorem NV.one {w : World} {g c n : Nat} (h0 : 0 < n) (h9 : n < 18446744073709551616) (hc : 1 ≤ c) (h : w.cell? ⟨g, 0, none⟩ = some (.int .u64 (n : Nat))) : NV w (.slice (some ⟨g, 0, none⟩) 1 c) n := by
  have e := wlen_one h0 h9
  refine ⟨_, c, by rw [e], by omega, fun _ => ⟨g, rfl, by rw [Nat.mod_eq_of_lt h9]; exact h, fun h2 => by omega⟩⟩
theorem NV.two {w : World} {g c n : Nat} (h1 : 18446744073709551616 ≤ n) (hc : 2 ≤ c) (h : w.cell? ⟨g, 0, none⟩ = some (.int .u64 (n % 18446744073709551616 : Nat))) (h' : w.cell? ⟨g, 1, none⟩ = some (.int .u64 (n / 18446744073709551616 : Nat))) : NV w (.slice (some ⟨g, 0, none⟩) 2 c) n := by
  have e := wlen_two h1
  exact ⟨_, c, by rw [e], by omega, fun _ => ⟨g, rfl, h, fun _ => h'⟩⟩
/-- What a number of words is: nothing, one word, two words. -/
theorem NV.cases {w : World} {v : Value} {n : Nat} (h : NV w v n) : (n = 0 ∧ ∃ A c, v = .slice A 0 c) ∨ (0 < n ∧ n < 18446744073709551616 ∧ ∃ g c, v = .slice (some ⟨g, 0, none⟩) 1 c ∧ 1 ≤ c ∧ w.cell? ⟨g, 0, none⟩ = some (.int .u64 (n : Nat))) ∨
    (18446744073709551616 ≤ n ∧ ∃ g c, v = .slice (some ⟨g, 0, none⟩) 2 c ∧ 2 ≤ c ∧ w.cell? ⟨g, 0, none⟩ = some (.int .u64 (n % 18446744073709551616 : Nat)) ∧ w.cell? ⟨g, 1, none⟩ = some (.int .u64 (n / 18446744073709551616 : Nat))) := by
  obtain ⟨A, c, rfl, h1, h2⟩ := h
  by_cases h0 : n = 0
  · subst h0
    exact .inl ⟨rfl, A, c, rfl⟩
  by_cases h9 : n < 18446744073709551616
  · have e := wlen_one (by omega) h9
    rw [e] at h1 h2 ⊢
    obtain ⟨g, rfl, h3, _⟩ := h2 (by decide)
    rw [Nat.mod_eq_of_lt h9] at h3
    exact .inr (.inl ⟨by omega, h9, g, c, rfl, h1, h3⟩)
  · have e := wlen_two (n := n) (by omega)
    rw [e] at h1 h2 ⊢
    obtain ⟨g, rfl, h3, h4⟩ := h2 (by decide)
    exact .inr (.inr ⟨by omega, g, c, rfl, h1, h3, h4 rfl⟩)
set_option maxRecDepth 100000 in
set_option maxHeartbeats 4000000 in
/-- A number is copied. -/
theorem set127_nil (v : Value) (n : Nat) (w : World) (h : NV w v n) : Calls Tryz.prog 127 #[.slice none 0 0, v] w fun e w' => ∃ v', e = .returned v' ∧ NV w' v' n ∧ Keep (fun _ => False) w w' := by
  rcases h.cases with ⟨rfl, A, c, rfl⟩ | ⟨h0, h9, g, c, rfl, hc, hw⟩ | ⟨h1, g, c, rfl, hc, hw, hw'⟩
  · have HM : Calls Tryz.prog 132 #[.slice none 0 0, .int .i64 0] w fun e w' => e = .returned (.slice none 0 0) ∧ w' = w := make132_reuse none 0 0 0 w (by omega)
    have HC := run_copy_none (P := Tryz.prog) w 126 126 3 150 none A 0 0 0 c und126 size150 rfl
    go_enter Tryz.func127, Tryz.ntmps127
    go_wp2_with fail
    refine HM.mono ?_
    rintro e w1 ⟨rfl, rfl⟩
    go_wp2_with fail
    go_ret
    exact ⟨_, rfl, NV.nil _ _ _, Keep.refl _ _⟩
  · have HM := make132_one w
    have hk0 : Keep (fun _ => False) w (w.alloc (.cells #[.int .u64 0] 150)) := (Keep.refl _ w).alloc _
    have hb0 := blk_new w (.cells #[.int .u64 0] 150)
    have hcw := hk0.cell hw (fun h => h)
    go_enter Tryz.func127, Tryz.ntmps127
    go_wp2_with fail
    refine HM.mono ?_
    rintro e w1 ⟨rfl, rfl⟩
    have HC := run_copy_row (P := Tryz.prog) _ 126 126 3 150 w.heap.size 0 1 1 ⟨g, 0, none⟩ 1 c _ 150 [.int .u64 n] und126 size150 hb0 rfl (by
      intro j v hj
      match j, hj with
      | 0, hj => simp at hj; subst hj; exact hcw) (by simp) (by intro v hv; simp at hv; subst hv; rfl)
    have hb1 := setRow_heap _ w.heap.size _ (((#[.int .u64 0] : Array Value).toList.take 0 ++ [Value.int .u64 (n : Nat)] ++ (#[.int .u64 0] : Array Value).toList.drop (0 + 1)).toArray) 150 (0, 0) hb0
    have hk1 : Keep (fun _ => False) w (World.setRow _ w.heap.size (((#[.int .u64 0] : Array Value).toList.take 0 ++ [Value.int .u64 (n : Nat)] ++ (#[.int .u64 0] : Array Value).toList.drop (0 + 1)).toArray)) := hk0.setRow (.inr (Nat.le_refl _)) _
    have hN := blk_cell hb1 0
    generalize World.setRow _ w.heap.size _ = w2 at *
    go_wp2_with fail
    go_ret
    exact ⟨_, rfl, NV.one h0 h9 (by omega) hN, hk1⟩
  · have HM := make132_two w
    have hk0 : Keep (fun _ => False) w (w.alloc (.cells #[.int .u64 0, .int .u64 0, .int .u64 0, .int .u64 0, .int .u64 0, .int .u64 0] 150)) := (Keep.refl _ w).alloc _
    have hb0 := blk_new w (.cells #[.int .u64 0, .int .u64 0, .int .u64 0, .int .u64 0, .int .u64 0, .int .u64 0] 150)
    have hcw := hk0.cell hw (fun h => h)
    have hcw' := hk0.cell hw' (fun h => h)
    have hQ := Lib.hid h1
    obtain ⟨lo, hlo⟩ : ∃ z, z = n % 18446744073709551616 := ⟨_, rfl⟩
    obtain ⟨hi, hhi⟩ : ∃ z, z = n / 18446744073709551616 := ⟨_, rfl⟩
    rw [← hlo] at hcw
    rw [← hhi] at hcw'
    have HE := Lib.hid (And.intro hlo hhi)
    clear hw hw' h hlo hhi
    go_enter Tryz.func127, Tryz.ntmps127
    go_wp2_with fail
    refine HM.mono ?_
    rintro e w1 ⟨rfl, rfl⟩
    have HC := run_copy_row (P := Tryz.prog) _ 126 126 3 150 w.heap.size 0 2 6 ⟨g, 0, none⟩ 2 c _ 150 [.int .u64 lo, .int .u64 hi] und126 size150 hb0 rfl (by
      intro j v hj
      match j, hj with
      | 0, hj => simp at hj; subst hj; exact hcw
      | 1, hj => simp at hj; subst hj; exact hcw') (by simp) (by intro v hv; simp at hv; rcases hv with rfl | rfl <;> rfl)
    have hb1 := setRow_heap _ w.heap.size _ (((#[.int .u64 0, .int .u64 0, .int .u64 0, .int .u64 0, .int .u64 0, .int .u64 0] : Array Value).toList.take 0 ++ [Value.int .u64 (lo : Nat), .int .u64 (hi : Nat)] ++ (#[.int .u64 0, .int .u64 0, .int .u64 0, .int .u64 0, .int .u64 0, .int .u64 0] : Array Value).toList.drop (0 + 2)).toArray) 150 (0, 0) hb0
    have hk1 : Keep (fun _ => False) w (World.setRow _ w.heap.size (((#[.int .u64 0, .int .u64 0, .int .u64 0, .int .u64 0, .int .u64 0, .int .u64 0] : Array Value).toList.take 0 ++ [Value.int .u64 (lo : Nat), .int .u64 (hi : Nat)] ++ (#[.int .u64 0, .int .u64 0, .int .u64 0, .int .u64 0, .int .u64 0, .int .u64 0] : Array Value).toList.drop (0 + 2)).toArray)) := hk0.setRow (.inr (Nat.le_refl _)) _
    have hN := blk_cell hb1 0
    have hN' := blk_cell hb1 1
    generalize World.setRow _ w.heap.size _ = w2 at *
    go_wp2_with fail
    go_ret
    exact ⟨_, rfl, NV.two hQ.out (by omega) (by rw [← HE.out.1]; exact hN) (by rw [← HE.out.2]; exact hN'), hk1⟩
set_option maxRecDepth 100000 in
set_option maxHeartbeats 4000000 in
/-- A word is made a number. -/
theorem setWord126_nil (n : Nat) (h9 : n < 18446744073709551616) (w : World) : Calls Tryz.prog 126 #[.slice none 0 0, .int .u64 n] w fun e w' => ∃ v', e = .returned v' ∧ NV w' v' n ∧ Keep (fun _ => False) w w' := by
  by_cases h0 : n = 0
  · subst h0
    go_enter Tryz.func126, Tryz.ntmps126
    go_wp2_with fail
    go_ret
    exact ⟨_, rfl, NV.nil _ _ _, Keep.refl _ _⟩
  · have HM := make132_one w
    have hne : ((n : Int) == 0) = false := beq_eq_false_iff_ne.2 (by omega)
    have hk0 : Keep (fun _ => False) w (w.alloc (.cells #[.int .u64 0] 150)) := (Keep.refl _ w).alloc _
    have hb0 := blk_new w (.cells #[.int .u64 0] 150)
    have hc0 := blk_cell hb0 0
    have hf0 := blk_frozen hb0 0
    have hc0 : _ = some (Value.int .u64 0) := hc0
    go_enter Tryz.func126, Tryz.ntmps126
    go_wp2_with fail
    refine HM.mono ?_
    rintro e w1 ⟨rfl, rfl⟩
    have hb1 := blk_set hb0 0 (.int .u64 n)
    have hk1 := hk0.setCell (p := ⟨w.heap.size, 0, none⟩) (.inr (Nat.le_refl _)) (.int .u64 n)
    have hN := blk_cell hb1 0
    generalize (w.alloc (.cells #[.int .u64 0] 150)) = w2 at *
    go_wp2_with fail
    go_ret
    exact ⟨_, rfl, NV.one (by omega) h9 (by omega) (by rw [hN]; rfl), hk1⟩
end Go.Proofs.YtamkglgiaiejkaaGreatDoor

/-! Natural numbers of words: the scratch room, thin wrappers, held against each other. -/
namespace Go.Proofs.YtamkglgiaiejkaaGreatDoor
open Go.RowKit

set_option maxRecDepth 100000 in
set_option maxHeartbeats 4000000 in
theorem getStack128 (w : World) : Calls Tryz.prog 128 #[] w fun e w' => e = .returned (.pointer (some ⟨w.heap.size, 0, none⟩)) ∧ w' = w.alloc (.cells #[.pointer none] 209) := by
  go_enter Tryz.func128, Tryz.ntmps128
  go_wp2_with fail
  go_ret
  exact ⟨rfl, rfl⟩
set_option maxRecDepth 100000 in
set_option maxHeartbeats 4000000 in
theorem restore161 (k : Nat) (n : Int) (w : World) (hb : w.heap[k]? = some (.cells #[.pointer none] 209 (0, 0))) : Calls Tryz.prog 161 #[.pointer (some ⟨k, 0, none⟩), .int .i64 n] w fun e w' => e = .returned (.tuple #[]) ∧ w' = w := by
  have hc := blk_cell hb 0
  have hf := blk_frozen hb
  go_enter Tryz.func161, Tryz.ntmps161
  go_wp2_with fail
  (try simp only [Exit.inBlock, Exit.then])
  refine bodyPost_ret (results_none rfl _ _ _) rfl ?_
  exact ⟨rfl, rfl⟩
set_option maxRecDepth 100000 in
set_option maxHeartbeats 4000000 in
theorem save162 (k : Nat) (w : World) (hb : w.heap[k]? = some (.cells #[.pointer none] 209 (0, 0))) : Calls Tryz.prog 162 #[.pointer (some ⟨k, 0, none⟩)] w fun e w' => e = .returned (.int .i64 0) ∧ w' = w := by
  have hc := blk_cell hb 0
  have hf := blk_frozen hb
  go_enter Tryz.func162, Tryz.ntmps162
  go_wp2_with fail
  go_ret
  exact ⟨rfl, rfl⟩
set_option maxRecDepth 100000 in
set_option maxHeartbeats 4000000 in
theorem free129 (k : Nat) (w : World) (hb : w.heap[k]? = some (.cells #[.pointer none] 209 (0, 0))) : Calls Tryz.prog 129 #[.pointer (some ⟨k, 0, none⟩)] w fun e w' => e = .returned (.tuple #[]) ∧ w' = w := by
  have hc := blk_cell hb 0
  have hf := blk_frozen hb
  go_enter Tryz.func129, Tryz.ntmps129
  go_wp2_with fail
  go_end0
  exact ⟨rfl, rfl⟩
set_option maxRecDepth 100000 in
set_option maxHeartbeats 4000000 in
theorem subVV136 (a b c : Value) (w : World) (R : Nat → World → Prop) (h : Calls Tryz.prog 173 #[a, b, c] w fun e w' => ∃ n : Nat, e = .returned (.int .u64 n) ∧ R n w') : Calls Tryz.prog 136 #[a, b, c] w fun e w' => ∃ n : Nat, e = .returned (.int .u64 n) ∧ R n w' := by
  have H := Lib.hid h
  clear h
  go_enter Tryz.func136, Tryz.ntmps136
  go_wp2_with fail
  refine H.out.mono ?_
  rintro e w1 ⟨n, rfl, hR⟩
  have HR := Lib.hid hR
  clear hR H
  go_wp2_with fail
  go_ret
  exact ⟨n, rfl, HR.out⟩
set_option maxRecDepth 100000 in
set_option maxHeartbeats 4000000 in
theorem mulAdd216 (a b c d : Value) (w : World) (R : Nat → World → Prop) (h : Calls Tryz.prog 239 #[a, b, c, d] w fun e w' => ∃ n : Nat, e = .returned (.int .u64 n) ∧ R n w') : Calls Tryz.prog 216 #[a, b, c, d] w fun e w' => ∃ n : Nat, e = .returned (.int .u64 n) ∧ R n w' := by
  have H := Lib.hid h
  clear h
  go_enter Tryz.func216, Tryz.ntmps216
  go_wp2_with fail
  refine H.out.mono ?_
  rintro e w1 ⟨n, rfl, hR⟩
  have HR := Lib.hid hR
  clear hR H
  go_wp2_with fail
  go_ret
  exact ⟨n, rfl, HR.out⟩
set_option maxRecDepth 100000 in
set_option maxHeartbeats 4000000 in
theorem lshVU165 (a b c : Value) (w : World) (R : Nat → World → Prop) (h : Calls Tryz.prog 214 #[a, b, c] w fun e w' => ∃ n : Nat, e = .returned (.int .u64 n) ∧ R n w') : Calls Tryz.prog 165 #[a, b, c] w fun e w' => ∃ n : Nat, e = .returned (.int .u64 n) ∧ R n w' := by
  have H := Lib.hid h
  clear h
  go_enter Tryz.func165, Tryz.ntmps165
  go_wp2_with fail
  refine H.out.mono ?_
  rintro e w1 ⟨n, rfl, hR⟩
  have HR := Lib.hid hR
  clear hR H
  go_wp2_with fail
  go_ret
  exact ⟨n, rfl, HR.out⟩
set_option maxRecDepth 100000 in
set_option maxHeartbeats 4000000 in
theorem rshVU169 (a b c : Value) (w : World) (R : Nat → World → Prop) (h : Calls Tryz.prog 218 #[a, b, c] w fun e w' => ∃ n : Nat, e = .returned (.int .u64 n) ∧ R n w') : Calls Tryz.prog 169 #[a, b, c] w fun e w' => ∃ n : Nat, e = .returned (.int .u64 n) ∧ R n w' := by
  have H := Lib.hid h
  clear h
  go_enter Tryz.func169, Tryz.ntmps169
  go_wp2_with fail
  refine H.out.mono ?_
  rintro e w1 ⟨n, rfl, hR⟩
  have HR := Lib.hid hR
  clear hR H
  go_wp2_with fail
  go_ret
  exact ⟨n, rfl, HR.out⟩
theorem und3 : Tryz.prog.underlying 3 = some (.int .i64) := by kernel_rfl
theorem run_append_zeros (n : Nat) (h0 : 0 < n) (h9 : n ≤ 1000) (ty : TypeId) (w : World) :
    (Builtin.append_ #[126, 3] ty #[.slice none 0 0, .int .i64 n]).run Tryz.prog w =
      .ok (.slice (some ⟨w.heap.size, 0, none⟩) n (grownCap w n 0 150)) (w.drew.alloc (.cells (Builtin.zeroCells #[.int .u64 0] n ++ Builtin.zeroCells #[.int .u64 0] (grownCap w n 0 150 - n)) 150)) := by
  obtain ⟨i, hi, hzz⟩ := Option.map_eq_some_iff.1 info150
  simp only [Prod.mk.injEq] at hzz
  obtain ⟨hz, hs, hb'⟩ := hzz
  have hn : n ≠ 0 := by omega
  have hw : IntKind.i64.wrap (n : Int) = n := by rw [IntKind.wrap_i64]; omega
  have h0' : ¬ ((n : Int) < 0) := by omega
  have h48a : ¬ (281474976710656 < (n : Int) * 8) := by omega
  have h63' : ¬ (9223372036854775807 < (n : Int)) := by omega
  have h48' : ¬ (281474976710656 < Builtin.nextslicecap n 0 * 8) := by rw [nextslicecap_zero h0]; omega
  have hc : (Value.int .u64 0).cells = #[.int .u64 0] := rfl
  simp [Builtin.append_, run_underlying und126, run_underlying und3, sizeOf, typeInfo, zeroValue, hi, hz, hs, hb', hw, asInt, asIntOf, hn, h0', h48a, h63', h48', Question.forced, run_firstCells_none, newRow, grownCap, hc]
/-- An append whose run is known. -/
theorem wpList_append_zeros {P : Program} {w w2 : World} {ops : Array Oper} {rest : List Oper} {o : Oper} {a : Act} {Q : Exit → Act → World → Prop} (hgd : o.guard = none) (d s : Operand)
    (ho : o.op = .call { callee := .builtin .append, args := #[d, s], argTypes := #[126, 3] }) {x y v : Value} (hR : ∀ ty, (Builtin.append_ #[126, 3] ty #[x, y]).run P w = .ok v w2) (hd : a.eval d = x) (hs : a.eval s = y)
    (h : wpList P ops Q rest (a.put o.dst v) w2) : wpList P ops Q (o :: rest) a w := by
  refine wpList_plain hgd fun K hK => ?_
  have hrun := hR o.type
  unfold Oper.wp
  simp [execOp, ho, resolve, invoke, builtin, hd, hs, hrun, Result.andThen]
  exact hK _ _ h
set_option maxRecDepth 100000 in
set_option maxHeartbeats 4000000 in
theorem grow212 (n : Nat) (h0 : 0 < n) (h9 : n ≤ 4) (w : World) : Calls Tryz.prog 212 #[.slice none 0 0, .int .i64 n] w fun e w' => ∃ c : Nat, e = .returned (.slice (some ⟨w.heap.size, 0, none⟩) 0 c) ∧ n ≤ c ∧ w'.heap[w.heap.size]? = some (.cells (Builtin.zeroCells #[.int .u64 0] n ++ Builtin.zeroCells #[.int .u64 0] (c - n)) 150 (0, 0)) ∧ Keep (fun _ => False) w w' := by
  have hR := fun ty => run_append_zeros n h0 (by omega) ty w
  have hnc : n ≤ grownCap w n 0 150 := grownCap_ge w n 0 150
  have hk : Keep (fun _ => False) w (w.drew.alloc (.cells (Builtin.zeroCells #[.int .u64 0] n ++ Builtin.zeroCells #[.int .u64 0] (grownCap w n 0 150 - n)) 150)) := (Keep.refl _ w).drew.alloc _
  have hb := blk_new w.drew (.cells (Builtin.zeroCells #[.int .u64 0] n ++ Builtin.zeroCells #[.int .u64 0] (grownCap w n 0 150 - n)) 150)
  have hb : (w.drew.alloc (.cells (Builtin.zeroCells #[.int .u64 0] n ++ Builtin.zeroCells #[.int .u64 0] (grownCap w n 0 150 - n)) 150)).heap[w.heap.size]? = _ := hb
  have HB := Lib.hid hb
  generalize grownCap w n 0 150 = c at *
  generalize (w.drew.alloc (.cells (Builtin.zeroCells #[.int .u64 0] n ++ Builtin.zeroCells #[.int .u64 0] (c - n)) 150)) = w2 at *
  clear hb
  have hn0 : (0 : Int) < (n : Int) := by omega
  have hn0' : ¬ ((n : Int) < 0) := by omega
  go_enter Tryz.func212, Tryz.ntmps212
  go_wp2_with (at_builtin; refine wpList_append_zeros rfl _ _ rfl hR rfl rfl ?_)
  go_ret
  exact ⟨c, rfl, hnc, HB.out, hk⟩
set_option maxRecDepth 100000 in
set_option maxHeartbeats 4000000 in
theorem nat164 (k n : Nat) (h0 : 0 < n) (h9 : n ≤ 4) (w : World) (hb : w.heap[k]? = some (.cells #[.pointer none] 209 (0, 0))) : Calls Tryz.prog 164 #[.pointer (some ⟨k, 0, none⟩), .int .i64 n] w fun e w' => ∃ (c : Nat) (cs : Array Value), e = .returned (.slice (some ⟨w.heap.size, 0, none⟩) n c) ∧ n ≤ c ∧ n ≤ cs.size ∧ w'.heap[w.heap.size]? = some (.cells cs 150 (0, 0)) ∧ Keep (fun _ => False) w w' := by
  have hc := blk_cell hb 0
  have hf := blk_frozen hb
  have HG := Lib.hid (grow212 n h0 h9 w)
  have hn0 : (0 : Int) < (n : Int) := by omega
  have hn4 : (n : Int) ≤ 4 := by omega
  go_enter Tryz.func164, Tryz.ntmps164
  go_wp2_with fail
  refine HG.out.mono ?_
  rintro e w1 ⟨c, rfl, hnc, hcs, hk⟩
  have hsz : n ≤ (Builtin.zeroCells #[Value.int .u64 0] n ++ Builtin.zeroCells #[.int .u64 0] (c - n)).size := by simp [Builtin.zeroCells]
  generalize (Builtin.zeroCells #[Value.int .u64 0] n ++ Builtin.zeroCells #[.int .u64 0] (c - n)) = cs at *
  have hc0 := blk_cell hcs 0
  have hf0 := blk_frozen hcs 0
  rw [Array.getElem?_eq_getElem (by omega)] at hc0
  have hset := blk_set hcs 0 (.int .u64 11259375)
  have hk2 := hk.setCell (p := ⟨w.heap.size, 0, none⟩) (.inr (Nat.le_refl _)) (.int .u64 11259375)
  have HS := Lib.hid hset
  clear hset
  go_wp2_with fail
  go_ret
  exact ⟨c, _, rfl, hnc, by rw [Array.size_setIfInBounds]; exact hsz, HS.out, hk2⟩
end Go.Proofs.YtamkglgiaiejkaaGreatDoor

/-! Natural numbers of words: held against each other; divided by a word. -/
namespace Go.Proofs.YtamkglgiaiejkaaGreatDoor
open Go.RowKit

theorem two_lt {m n : Nat} : m < n ↔ m / 18446744073709551616 < n / 18446744073709551616 ∨ (m / 18446744073709551616 = n / 18446744073709551616 ∧ m % 18446744073709551616 < n % 18446744073709551616) := by omega
set_option maxRecDepth 100000 in
set_option maxHeartbeats 4000000 in
theorem cmp108 (vx vy : Value) (m n : Nat) (w : World) (hx : NV w vx m) (hy : NV w vy n) (h1 : 18446744073709551616 ≤ n) : Calls Tryz.prog 108 #[vx, vy] w fun e w' => ∃ c : Int, e = .returned (.int .i64 c) ∧ (c < 0 ↔ m < n) ∧ Keep (fun _ => False) w w' := by
  rcases hy.cases with ⟨rfl, _⟩ | ⟨_, _, _⟩ | ⟨_, gy, cy, rfl, hcy, y0, y1⟩
  · omega
  · omega
  have HN := Lib.hid h1
  rcases hx.cases with ⟨rfl, A, c, rfl⟩ | ⟨h0, h9, g, c, rfl, hc, hw⟩ | ⟨h2, g, c, rfl, hc, x0, x1⟩
  · clear y0 y1 hy hx h1
    go_enter Tryz.func108, Tryz.ntmps108
    go_wp2_with fail
    go_ret
    exact ⟨-1, rfl, by have := HN.out; omega, Keep.refl _ _⟩
  · clear y0 y1 hy hx h1
    have HM := Lib.hid h9
    clear h9 h0
    go_enter Tryz.func108, Tryz.ntmps108
    go_wp2_with fail
    go_ret
    exact ⟨-1, rfl, by have := HN.out; have := HM.out; omega, Keep.refl _ _⟩
  · have HL := Lib.hid (@two_lt m n)
    obtain ⟨p0, hp0⟩ : ∃ z, z = m % 18446744073709551616 := ⟨_, rfl⟩
    obtain ⟨p1, hp1⟩ : ∃ z, z = m / 18446744073709551616 := ⟨_, rfl⟩
    obtain ⟨q0, hq0⟩ : ∃ z, z = n % 18446744073709551616 := ⟨_, rfl⟩
    obtain ⟨q1, hq1⟩ : ∃ z, z = n / 18446744073709551616 := ⟨_, rfl⟩
    rw [← hp0, ← hp1, ← hq0, ← hq1] at HL
    rw [← hp0] at x0
    rw [← hp1] at x1
    rw [← hq0] at y0
    rw [← hq1] at y1
    clear hp0 hp1 hq0 hq1 hx hy h1 h2 HN
    go_enter Tryz.func108, Tryz.ntmps108
    go_wp2_with fail
    go_loopw [7] (fun i wr => ∃ k : Nat, k ≤ 1 ∧ i = .int .i64 k ∧ (k = 0 → p1 = q1) ∧ ∃ N, wr = w.drewN N) (fun i _ => (intOf i).toNat)
    case atStart => exact ⟨1, by omega, rfl, fun h => by omega, 0, rfl⟩
    case round =>
      obtain ⟨k, hk1, rfl, hpq, N, rfl⟩ := hrel
      have x0 : (w.drewN N).cell? _ = _ := x0
      have x1 : (w.drewN N).cell? _ = _ := x1
      have y0 : (w.drewN N).cell? _ = _ := y0
      have y1 : (w.drewN N).cell? _ = _ := y1
      rcases (show k = 1 ∨ k = 0 by omega) with rfl | rfl
      · by_cases he : p1 = q1
        · have hd : decide ((p1 : Int) = (q1 : Int)) = true := by simpa using by omega
          subst he
          go_wp2_with fail
          go_quiet (fail)
          go_wp2_with fail
          go_roundw
          case rel => exact ⟨0, by omega, by go_num, fun _ => by first | rfl | trivial, _, rfl⟩
          case measure => simp [intOf]
        · have hd : ((p1 : Int) == (q1 : Int)) = false := beq_eq_false_iff_ne.2 (by omega)
          by_cases hl : p1 < q1
          · have hl' : (p1 : Int) < (q1 : Int) := by omega
            go_wp2_with fail
            go_quiet (fail)
            go_wp2_with fail
            go_quiet (fail)
            go_wp2_with fail
            go_ret
            exact ⟨-1, rfl, by have := HL.out; omega, by repeat (first | exact Keep.refl _ _ | refine Keep.drewN ?_ _)⟩
          · have hl' : ¬ ((p1 : Int) < (q1 : Int)) := by omega
            have hl2 : (q1 : Int) < (p1 : Int) := by omega
            go_wp2_with fail
            go_quiet (fail)
            go_wp2_with fail
            go_quiet (fail)
            go_wp2_with fail
            go_quiet (fail)
            go_wp2_with fail
            go_ret
            exact ⟨1, rfl, by have := HL.out; omega, by repeat (first | exact Keep.refl _ _ | refine Keep.drewN ?_ _)⟩
      · have he := hpq rfl
        have HE := Lib.hid he
        clear hpq he
        by_cases hl : p0 < q0
        · have hl' : (p0 : Int) < (q0 : Int) := by omega
          go_wp2_with fail
          go_quiet (fail)
          go_wp2_with fail
          go_quiet (fail)
          go_wp2_with fail
          go_ret
          exact ⟨-1, rfl, by have := HL.out; have := HE.out; omega, by repeat (first | exact Keep.refl _ _ | refine Keep.drewN ?_ _)⟩
        · have hl' : ¬ ((p0 : Int) < (q0 : Int)) := by omega
          by_cases hl2 : (q0 : Int) < (p0 : Int)
          · go_wp2_with fail
            go_quiet (fail)
            go_wp2_with fail
            go_quiet (fail)
            go_wp2_with fail
            go_quiet (fail)
            go_wp2_with fail
            go_ret
            exact ⟨1, rfl, by have := HL.out; have := HE.out; omega, by repeat (first | exact Keep.refl _ _ | refine Keep.drewN ?_ _)⟩
          · go_wp2_with fail
            go_quiet (fail)
            go_wp2_with fail
            go_quiet (fail)
            go_wp2_with fail
            go_quiet (fail)
            go_wp2_with fail
            go_ret
            exact ⟨0, rfl, by have := HL.out; have := HE.out; omega, by repeat (first | exact Keep.refl _ _ | refine Keep.drewN ?_ _)⟩
end Go.Proofs.YtamkglgiaiejkaaGreatDoor

/-! Natural numbers of words: divided by a word. -/
namespace Go.Proofs.YtamkglgiaiejkaaGreatDoor
open Go.RowKit

theorem two_div {x0 x1 y q1 r1 q0 r : Nat} (hy : 0 < y) (h0 : x0 < 18446744073709551616) (e1 : q1 = x1 / y) (e2 : r1 = x1 % y) (e3 : q0 = (r1 * 18446744073709551616 + x0) / y) (e4 : r = (r1 * 18446744073709551616 + x0) % y) :
    q0 < 18446744073709551616 ∧ q0 + 18446744073709551616 * q1 = (x0 + 18446744073709551616 * x1) / y ∧ r = (x0 + 18446744073709551616 * x1) % y := by
  have hr1 : r1 < y := by rw [e2]; exact Nat.mod_lt _ hy
  have hq0 : q0 < 18446744073709551616 := by
    rw [e3]
    refine Nat.div_lt_of_lt_mul ?_
    have : (r1 + 1) * 18446744073709551616 ≤ y * 18446744073709551616 := Nat.mul_le_mul_right _ hr1
    omega
  have d1 := Nat.div_add_mod x1 y
  rw [← e1, ← e2] at d1
  have d0 := Nat.div_add_mod (r1 * 18446744073709551616 + x0) y
  rw [← e3, ← e4] at d0
  have hr : r < y := by rw [e4]; exact Nat.mod_lt _ hy
  have hN : x0 + 18446744073709551616 * x1 = y * (q0 + 18446744073709551616 * q1) + r := by
    rw [← d1, Nat.mul_add y, Nat.mul_left_comm y]
    generalize y * q1 = A at *
    generalize y * q0 = C at *
    omega
  refine ⟨hq0, ?_, ?_⟩
  · rw [hN, Nat.mul_add_div hy, Nat.div_eq_of_lt hr, Nat.add_zero]
  · rw [hN, Nat.mul_add_mod, Nat.mod_eq_of_lt hr]
set_option maxRecDepth 100000 in
set_option maxHeartbeats 4000000 in
theorem divWVW159_1 (g c x0 y : Nat) (zr : List Value) (w : World) (hz : w.heap[g]? = some (.cells (.int .u64 x0 :: zr).toArray 150 (0, 0))) (h0 : x0 < 18446744073709551616) (hy0 : 0 < y) (hy : y < 18446744073709551616) :
    Calls Tryz.prog 159 #[.slice (some ⟨g, 0, none⟩) 1 c, .int .u64 0, .slice (some ⟨g, 0, none⟩) 1 c, .int .u64 y] w fun e w' => e = .returned (.int .u64 (x0 % y : Nat)) ∧ w'.heap[g]? = some (.cells (.int .u64 (x0 / y : Nat) :: zr).toArray 150 (0, 0)) ∧ Keep (fun b => b = g) w w' := by
  have c0 := blk_cell hz 0
  simp only [List.getElem?_toArray, List.getElem?_cons_zero] at c0
  have HD := div206 0 x0 y h0 hy0 hy w
  rw [Nat.zero_mul, Nat.zero_add] at HD
  obtain ⟨q, hq⟩ : ∃ z, z = x0 / y := ⟨_, rfl⟩
  obtain ⟨r, hr⟩ : ∃ z, z = x0 % y := ⟨_, rfl⟩
  rw [← hq, ← hr] at HD ⊢
  have HD := Lib.hid HD
  clear hq hr
  go_enter Tryz.func159, Tryz.ntmps159
  go_wp2_with fail
  refine HD.out.mono ?_
  rintro e w1 ⟨rfl, hk⟩
  have hz1 := hk.blk hz (fun h => h)
  have c1 := hk.cell c0 (fun h => h)
  have hf1 := blk_frozen hz1
  have hs1 := blk_set hz1 0 (.int .u64 q)
  have hk1 := (hk.mono (S' := fun b => b = g) (fun _ h => h.elim)).setCell (p := ⟨g, 0, none⟩) (.inl rfl) (.int .u64 q)
  have HS := Lib.hid hs1
  clear hs1
  go_wp2_with fail
  go_ret
  exact ⟨rfl, by have := HS.out; simpa using this, hk1⟩
set_option maxRecDepth 100000 in
set_option maxHeartbeats 4000000 in
theorem divWVW159_2 (g c x0 x1 y : Nat) (zr : List Value) (w : World) (hz : w.heap[g]? = some (.cells (.int .u64 x0 :: .int .u64 x1 :: zr).toArray 150 (0, 0))) (h0 : x0 < 18446744073709551616) (h1 : x1 < 18446744073709551616) (hy0 : 0 < y) (hy : y < 18446744073709551616) :
    Calls Tryz.prog 159 #[.slice (some ⟨g, 0, none⟩) 2 c, .int .u64 0, .slice (some ⟨g, 0, none⟩) 2 c, .int .u64 y] w fun e w' => ∃ q0 q1 : Nat, e = .returned (.int .u64 ((x0 + 18446744073709551616 * x1) % y : Nat)) ∧ q0 < 18446744073709551616 ∧ q1 < 18446744073709551616 ∧ q0 + 18446744073709551616 * q1 = (x0 + 18446744073709551616 * x1) / y ∧ w'.heap[g]? = some (.cells (.int .u64 q0 :: .int .u64 q1 :: zr).toArray 150 (0, 0)) ∧ Keep (fun b => b = g) w w' := by
  have c0 := blk_cell hz 0
  have c1 := blk_cell hz 1
  simp only [List.getElem?_toArray, List.getElem?_cons_zero, List.getElem?_cons_succ] at c0 c1
  obtain ⟨q1, hq1⟩ : ∃ z, z = x1 / y := ⟨_, rfl⟩
  obtain ⟨r1, hr1⟩ : ∃ z, z = x1 % y := ⟨_, rfl⟩
  obtain ⟨q0, hq0⟩ : ∃ z, z = (r1 * 18446744073709551616 + x0) / y := ⟨_, rfl⟩
  obtain ⟨r0, hr0⟩ : ∃ z, z = (r1 * 18446744073709551616 + x0) % y := ⟨_, rfl⟩
  obtain ⟨hq9, hQ, hR⟩ := two_div hy0 h0 hq1 hr1 hq0 hr0
  have hq19 : q1 < 18446744073709551616 := by rw [hq1]; exact Nat.lt_of_le_of_lt (Nat.div_le_self _ _) h1
  rw [← hR, ← hQ]
  have hr1y : r1 < y := by rw [hr1]; exact Nat.mod_lt _ hy0
  have HR := Lib.hid (fun w => recip207 y hy0 hy w)
  have HW1 := Lib.hid (show ∀ (m s : Nat) (w : World), Scale y s → Recip (y * 2 ^ s) m → Calls Tryz.prog 208 #[.int .u64 0, .int .u64 x1, .int .u64 y, .int .u64 m] w fun e w' => e = .returned (.tuple #[.int .u64 q1, .int .u64 r1]) ∧ Keep (fun _ => False) w w' from fun m s w hs hm => by
    have := divWW208 0 x1 y m s hy0 h1 hy hs hm w
    rw [Nat.zero_mul, Nat.zero_add, ← hq1, ← hr1] at this
    exact this)
  have HW0 := Lib.hid (show ∀ (m s : Nat) (w : World), Scale y s → Recip (y * 2 ^ s) m → Calls Tryz.prog 208 #[.int .u64 r1, .int .u64 x0, .int .u64 y, .int .u64 m] w fun e w' => e = .returned (.tuple #[.int .u64 q0, .int .u64 r0]) ∧ Keep (fun _ => False) w w' from fun m s w hs hm => by
    have := divWW208 r1 x0 y m s hr1y h0 hy hs hm w
    rw [← hq0, ← hr0] at this
    exact this)
  have HF := Lib.hid (And.intro hq9 hq19)
  have HSET1 := Lib.hid (show (Value.int .u64 (x0 : Nat) :: .int .u64 (x1 : Nat) :: zr).toArray.setIfInBounds 1 (.int .u64 (q1 : Nat)) = (.int .u64 (x0 : Nat) :: .int .u64 (q1 : Nat) :: zr).toArray by simp)
  have HSET0 := Lib.hid (show (Value.int .u64 (x0 : Nat) :: .int .u64 (q1 : Nat) :: zr).toArray.setIfInBounds 0 (.int .u64 (q0 : Nat)) = (.int .u64 (q0 : Nat) :: .int .u64 (q1 : Nat) :: zr).toArray by simp)
  clear hq1 hr1 hq0 hr0 hQ hR hr1y hq9 hq19
  go_enter Tryz.func159, Tryz.ntmps159
  go_wp2_with fail
  refine (HR.out _).mono ?_
  rintro e w1 ⟨s, m, rfl, hs, hm, hk⟩
  have HS := Lib.hid (And.intro hs hm)
  clear hs hm
  have hz1 := hk.blk hz (fun h => h)
  have hk := hk.mono (S' := fun b => b = g) (fun _ h => h.elim)
  go_wp2_with fail
  go_loopw [8, 12] (fun r i wr => ∃ a b : Nat, wr.heap[g]? = some (.cells (.int .u64 a :: .int .u64 b :: zr).toArray 150 (0, 0)) ∧ Keep (fun b => b = g) w wr ∧ ((i = .int .i64 1 ∧ r = .int .u64 0 ∧ a = x0 ∧ b = x1) ∨ (i = .int .i64 0 ∧ r = .int .u64 r1 ∧ a = x0 ∧ b = q1) ∨ (i = .int .i64 (-1) ∧ r = .int .u64 r0 ∧ a = q0 ∧ b = q1))) (fun _ i _ => (intOf i + 1).toNat)
  case atStart => exact ⟨x0, x1, hz1, hk, .inl ⟨rfl, rfl, rfl, rfl⟩⟩
  case round =>
    obtain ⟨a, b, hzk, hkk, hcase⟩ := hrel
    have b0 := blk_cell hzk 0
    have b1 := blk_cell hzk 1
    have hf := blk_frozen hzk
    simp only [List.getElem?_toArray, List.getElem?_cons_zero, List.getElem?_cons_succ] at b0 b1
    rcases hcase with ⟨rfl, rfl, rfl, rfl⟩ | ⟨rfl, rfl, rfl, rfl⟩ | ⟨rfl, rfl, rfl, rfl⟩
    · go_wp2_with fail
      refine (HW1.out m s _ HS.out.1 HS.out.2).mono ?_
      rintro e w2 ⟨rfl, hk2⟩
      have hz2 := hk2.blk hzk (fun h => h)
      have b0 := blk_cell hz2 0
      have b1 := blk_cell hz2 1
      have hf := blk_frozen hz2
      simp only [List.getElem?_toArray, List.getElem?_cons_zero, List.getElem?_cons_succ] at b0 b1
      have hk3 := hkk.trans (hk2.mono (S' := fun b => b = g) (fun _ h => h.elim))
      go_wp2_with fail
      go_roundw
      case rel => exact ⟨a, q1, by rw [← HSET1.out]; exact blk_set hz2 1 (.int .u64 q1), hk3.setCell (p := ⟨g, 1, none⟩) (.inl rfl) _, .inr (.inl ⟨by first | rfl | trivial, by first | rfl | trivial, rfl, rfl⟩)⟩
      case measure => simp [intOf]
    · go_wp2_with fail
      refine (HW0.out m s _ HS.out.1 HS.out.2).mono ?_
      rintro e w2 ⟨rfl, hk2⟩
      have hz2 := hk2.blk hzk (fun h => h)
      have b0 := blk_cell hz2 0
      have b1 := blk_cell hz2 1
      have hf := blk_frozen hz2
      simp only [List.getElem?_toArray, List.getElem?_cons_zero, List.getElem?_cons_succ] at b0 b1
      have hk3 := hkk.trans (hk2.mono (S' := fun b => b = g) (fun _ h => h.elim))
      go_wp2_with fail
      go_roundw
      case rel => exact ⟨q0, b, by rw [← HSET0.out]; exact blk_set hz2 0 (.int .u64 q0), hk3.setCell (p := ⟨g, 0, none⟩) (.inl rfl) _, .inr (.inr ⟨by first | rfl | trivial, by first | rfl | trivial, rfl, rfl⟩)⟩
      case measure => simp [intOf]
    · go_wp2_with fail
      go_ret
      exact ⟨a, b, rfl, HF.out.1, HF.out.2, rfl, hzk, hkk⟩
end Go.Proofs.YtamkglgiaiejkaaGreatDoor

/-! Natural numbers of words: divided by a word, in place. -/
namespace Go.Proofs.YtamkglgiaiejkaaGreatDoor
open Go.RowKit

set_option maxRecDepth 100000 in
set_option maxHeartbeats 4000000 in
theorem set127_self (g k lo hi : Nat) (w : World) (hz : w.heap[g]? = some (.cells #[.int .u64 lo, .int .u64 hi] 150 (0, 0))) (hk : k ≤ 2) : Calls Tryz.prog 127 #[.slice (some ⟨g, 0, none⟩) k 2, .slice (some ⟨g, 0, none⟩) k 2] w fun e w' => e = .returned (.slice (some ⟨g, 0, none⟩) k 2) ∧ w' = w := by
  have HM := make132_reuse (some ⟨g, 0, none⟩) k 2 k w hk
  have HC := run_copy_row (P := Tryz.prog) w 126 126 3 150 g 0 k 2 ⟨g, 0, none⟩ k 2 _ 150 ([.int .u64 lo, .int .u64 hi].take k) und126 size150 hz (by simp [hk]) (by
      intro j v hj
      have hj2 : ([.int .u64 lo, .int .u64 hi] : List Value)[j]? = some v := by
        rw [List.getElem?_take] at hj
        split at hj
        · exact hj
        · cases hj
      rw [Addr.add_lit, Nat.zero_add, blk_cell hz]
      simpa using hj2) (by simp; omega) (by
      intro v hv
      have hv := List.mem_of_mem_take hv
      simp at hv
      rcases hv with rfl | rfl <;> rfl)
  have hself : w.setRow g (((#[.int .u64 lo, .int .u64 hi] : Array Value).toList.take 0 ++ ([.int .u64 lo, .int .u64 hi] : List Value).take k ++ (#[.int .u64 lo, .int .u64 hi] : Array Value).toList.drop (0 + (([.int .u64 lo, .int .u64 hi] : List Value).take k).length)).toArray) = w := by
    have : (((#[.int .u64 lo, .int .u64 hi] : Array Value).toList.take 0 ++ ([.int .u64 lo, .int .u64 hi] : List Value).take k ++ (#[.int .u64 lo, .int .u64 hi] : Array Value).toList.drop (0 + (([.int .u64 lo, .int .u64 hi] : List Value).take k).length)).toArray) = #[.int .u64 lo, .int .u64 hi] := by
      rcases (show k = 0 ∨ k = 1 ∨ k = 2 by omega) with rfl | rfl | rfl <;> rfl
    rw [this]
    exact setRow_self w g _ _ _ hz
  rw [hself] at HC
  generalize goInt (([.int .u64 lo, .int .u64 hi] : List Value).take k).length = u at HC
  go_enter Tryz.func127, Tryz.ntmps127
  go_wp2_with fail
  refine HM.mono ?_
  rintro e w1 ⟨rfl, rfl⟩
  go_wp2_with fail
  go_ret
  exact ⟨rfl, rfl⟩
/-- A number that lies in a row of two words of its own. -/
def BV (w : World) (g n : Nat) : Prop := ∃ lo hi : Nat, n = lo + 18446744073709551616 * hi ∧ lo < 18446744073709551616 ∧ hi < 18446744073709551616 ∧ w.heap[g]? = some (.cells #[.int .u64 lo, .int .u64 hi] 150 (0, 0))
theorem BV.nv {w : World} {g n : Nat} (h : BV w g n) : NV w (.slice (some ⟨g, 0, none⟩) (wlen n) 2) n := by
  obtain ⟨lo, hi, rfl, h1, h2, hb⟩ := h
  refine ⟨_, 2, rfl, wlen_le _, fun _ => ⟨g, rfl, ?_, fun _ => ?_⟩⟩
  · rw [blk_cell hb, show (lo + 18446744073709551616 * hi) % 18446744073709551616 = lo by omega]; rfl
  · rw [blk_cell hb, show (lo + 18446744073709551616 * hi) / 18446744073709551616 = hi by omega]; rfl
set_option maxRecDepth 100000 in
set_option maxHeartbeats 4000000 in
theorem divW125 (g n y : Nat) (w : World) (hz : BV w g n) (hy0 : 0 < y) (hy : y < 18446744073709551616) :
    Calls Tryz.prog 125 #[.slice (some ⟨g, 0, none⟩) (wlen n) 2, .slice (some ⟨g, 0, none⟩) (wlen n) 2, .int .u64 y] w fun e w' => ∃ v, e = .returned (.tuple #[v, .int .u64 (n % y : Nat)]) ∧ NV w' v (n / y) ∧ Keep (fun b => b = g) w w' := by
  have hnv := hz.nv
  obtain ⟨lo, hi, hn, h1, h2, hb⟩ := hz
  by_cases hy1 : y = 1
  · subst hy1
    have HS := Lib.hid (set127_self g (wlen n) lo hi w hb (wlen_le n))
    rw [show n / 1 = n by omega, show n % 1 = 0 by omega]
    generalize wlen n = k at *
    have HV := Lib.hid hnv
    clear hnv hn
    go_enter Tryz.func125, Tryz.ntmps125
    go_wp2_with fail
    refine HS.out.mono ?_
    rintro e w1 ⟨rfl, rfl⟩
    go_wp2_with fail
    go_ret2
    exact ⟨_, rfl, HV.out, Keep.refl _ _⟩
  · have hyb : ((y : Int) == 1) = false := beq_eq_false_iff_ne.2 (by omega)
    have hyb0 : ((y : Int) == 0) = false := beq_eq_false_iff_ne.2 (by omega)
    rcases (show wlen n = 0 ∨ wlen n = 1 ∨ wlen n = 2 by have := wlen_le n; omega) with hk | hk | hk
    · have hn0 : n = 0 := by
        unfold wlen at hk
        split at hk
        · assumption
        · split at hk <;> omega
      subst hn0
      rw [show wlen 0 = 0 from rfl, Nat.zero_div, Nat.zero_mod]
      clear hn hnv
      go_enter Tryz.func125, Tryz.ntmps125
      go_wp2_with fail
      go_ret2
      exact ⟨_, rfl, NV.nil _ _ _, Keep.refl _ _⟩
    · have hhi : hi = 0 := by
        unfold wlen at hk
        split at hk
        · omega
        · split at hk <;> omega
      subst hhi
      obtain rfl : n = lo := by omega
      rw [hk]
      have HM := make132_reuse (some ⟨g, 0, none⟩) 1 2 1 w (by omega)
      have HD := Lib.hid (divWVW159_1 g 2 n y [.int .u64 (0 : Nat)] w hb h1 hy0 hy)
      have hq9 : n / y < 18446744073709551616 := Nat.lt_of_le_of_lt (Nat.div_le_self _ _) h1
      have HQ := Lib.hid hq9
      generalize n % y = r at *
      generalize n / y = q at *
      clear hnv hn hk hq9
      go_enter Tryz.func125, Tryz.ntmps125
      go_wp2_with fail
      refine HM.mono ?_
      rintro e w1 ⟨rfl, rfl⟩
      go_wp2_with fail
      refine HD.out.mono ?_
      rintro e w2 ⟨rfl, hb2, hk2⟩
      have HN := Lib.hid (normV g 1 2 [q] w2 rfl (by omega) (by omega) (fun k hk => by
        have hk : k < 1 := hk
        obtain rfl : k = 0 := by omega
        rw [blk_cell hb2]; rfl) (fun d hd => by simp at hd; subst hd; exact HQ.out) (by have := HQ.out; simp [wv]; omega))
      go_wp2_with fail
      refine HN.out.mono ?_
      rintro e w3 ⟨rfl, hv, rfl⟩
      have HV := Lib.hid hv
      clear hv
      generalize wlen (wv [q]) = k at *
      go_wp2_with fail
      go_ret2
      exact ⟨_, rfl, by have := HV.out; simpa [wv] using this, hk2⟩
    · rw [hk]
      have HM := make132_reuse (some ⟨g, 0, none⟩) 2 2 2 w (by omega)
      have HD := Lib.hid (divWVW159_2 g 2 lo hi y [] w hb h1 h2 hy0 hy)
      rw [← hn] at HD
      have hq9 : n / y < 18446744073709551616 * 18446744073709551616 := Nat.lt_of_le_of_lt (Nat.div_le_self _ _) (by omega)
      have HQ := Lib.hid hq9
      generalize n % y = r at *
      generalize n / y = q at *
      clear hnv hn hk hq9
      go_enter Tryz.func125, Tryz.ntmps125
      go_wp2_with fail
      refine HM.mono ?_
      rintro e w1 ⟨rfl, rfl⟩
      go_wp2_with fail
      refine HD.out.mono ?_
      rintro e w2 ⟨q0, q1, rfl, g0, g1, hq, hb2, hk2⟩
      have hwv : wv [q0, q1] = q := by rw [← hq]; simp [wv]
      have HN := normV g 2 2 [q0, q1] w2 rfl (by omega) (by omega) (fun k hk => by
        have hk : k < 2 := hk
        rw [blk_cell hb2]
        rcases (show k = 0 ∨ k = 1 by omega) with rfl | rfl <;> rfl) (fun d hd => by simp at hd; rcases hd with rfl | rfl <;> assumption) (by rw [hwv]; exact HQ.out)
      rw [hwv] at HN
      have HN := Lib.hid HN
      generalize wlen q = k at *
      clear hq hwv g0 g1
      go_wp2_with fail
      refine HN.out.mono ?_
      rintro e w3 ⟨rfl, hv, rfl⟩
      have HV := Lib.hid hv
      clear hv
      go_wp2_with fail
      go_ret2
      exact ⟨_, rfl, HV.out, hk2⟩
end Go.Proofs.YtamkglgiaiejkaaGreatDoor
