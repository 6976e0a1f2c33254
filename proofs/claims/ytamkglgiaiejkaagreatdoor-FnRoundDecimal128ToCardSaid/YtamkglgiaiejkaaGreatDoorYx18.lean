import Derived.Test.YtamkglgiaiejkaaGreatDoorYx11
import Derived.Test.YtamkglgiaiejkaaGreatDoorYx17
/-! Natural numbers of words: their length, cut, made, copied. -/
namespace Go.Proofs.YtamkglgiaiejkaaGreatDoor
open Go.RowKit

/-- How many words a number below the square of the base has. -/
def wlen (n : Nat) : Nat := if n = 0 then 0 else if n < 18446744073709551616 then 1 else 2
theorem wlen_le (n : Nat) : wlen n ≤ 2 := by unfold wlen; split <;> (try split) <;> omega
theorem wlen_zero {n : Nat} (h : n = 0) : wlen n = 0 := by unfold wlen; rw [if_pos h]
theorem wlen_one {n : Nat} (h : 0 < n) (h' : n < 18446744073709551616) : wlen n = 1 := by unfold wlen; rw [if_neg (by omega), if_pos h']
theorem wlen_two {n : Nat} (h : 18446744073709551616 ≤ n) : wlen n = 2 := by unfold wlen; rw [if_neg (by omega), if_neg (by omega)]
/-- What words are worth. -/
def wv : List Nat → Nat
  | [] => 0
  | d :: l => d + 18446744073709551616 * wv l
/-- A natural number that lies where a slice says. -/
def NV (w : World) (v : Value) (n : Nat) : Prop := ∃ A c, v = .slice A (wlen n) c ∧ wlen n ≤ c ∧ (0 < wlen n → ∃ g, A = some ⟨g, 0, none⟩ ∧ w.cell? ⟨g, 0, none⟩ = some (.int .u64 (n % 18446744073709551616 : Nat)) ∧ (wlen n = 2 → w.cell? ⟨g, 1, none⟩ = some (.int .u64 (n / 18446744073709551616 : Nat))))
theorem NV.keep {w w' : World} {v : Value} {n : Nat} (h : NV w v n) (hk : Keep (fun _ => False) w w') : NV w' v n := by
  obtain ⟨A, c, rfl, h1, h2⟩ := h
  refine ⟨A, c, rfl, h1, fun h0 => ?_⟩
  obtain ⟨g, rfl, h3, h4⟩ := h2 h0
  exact ⟨g, rfl, hk.cell h3 (fun h => h), fun h => hk.cell (h4 h) (fun h => h)⟩
/-- Words without zeros at the end are as many as the number has. -/
theorem wlen_of {l : List Nat} {k : Nat} (hl : l.length ≤ 3) (h9 : ∀ d ∈ l, d < 18446744073709551616) (hN : wv l < 18446744073709551616 * 18446744073709551616) (hk : k ≤ l.length) (hz : ∀ j, k ≤ j → j < l.length → l.getD j 0 = 0) (ht : k = 0 ∨ l.getD (k - 1) 0 ≠ 0) : k = wlen (wv l) := by
  match l, hl with
  | [], _ =>
    have : k = 0 := by simpa using hk
    subst this
    exact (wlen_zero (by simp [wv])).symm
  | [a], _ =>
    have ha := h9 a (by simp)
    have e : wv [a] = a := by simp [wv]
    rw [e] at hN ⊢
    have z0 := hz 0
    simp at z0 ht hk
    match k, hk with
    | 0, _ => exact (wlen_zero (by have := z0; omega)).symm
    | 1, _ =>
      simp at ht
      exact (wlen_one (by omega) (by omega)).symm
  | [a, b], _ =>
    have ha := h9 a (by simp)
    have hb := h9 b (by simp)
    have e : wv [a, b] = a + 18446744073709551616 * b := by simp [wv]
    rw [e] at hN ⊢
    have z0 := hz 0
    have z1 := hz 1
    simp at z0 z1 ht hk
    match k, hk with
    | 0, _ => 
      simp at z0 z1
      exact (wlen_zero (by omega)).symm
    | 1, _ =>
      simp at ht z1
      exact (wlen_one (by omega) (by omega)).symm
    | 2, _ =>
      simp at ht
      exact (wlen_two (by omega)).symm
  | [a, b, c], _ =>
    have ha := h9 a (by simp)
    have hb := h9 b (by simp)
    have hc := h9 c (by simp)
    have e : wv [a, b, c] = a + 18446744073709551616 * (b + 18446744073709551616 * c) := by simp [wv]
    rw [e] at hN ⊢
    have z0 := hz 0
    have z1 := hz 1
    have z2 := hz 2
    simp at z0 z1 z2 ht hk
    match k, hk with
    | 0, _ => 
      simp at z0 z1 z2
      exact (wlen_zero (by omega)).symm
    | 1, _ =>
      simp at ht z1 z2
      exact (wlen_one (by omega) (by omega)).symm
    | 2, _ =>
      simp at ht z2
      exact (wlen_two (by omega)).symm
    | 3, _ =>
      simp at ht
      omega
theorem wv_words {l : List Nat} (h9 : ∀ d ∈ l, d < 18446744073709551616) (h0 : 0 < l.length) : l.getD 0 0 = wv l % 18446744073709551616 := by
  match l, h0 with
  | a :: l, _ =>
    have := h9 a (by simp)
    simp only [wv, List.getD_cons_zero]
    omega
theorem wv_words1 {a b : Nat} {l : List Nat} (ha : a < 18446744073709551616) (hb : wv (a :: b :: l) < 18446744073709551616 * 18446744073709551616) : b = wv (a :: b :: l) / 18446744073709551616 := by
  simp only [wv] at *
  omega
/-- Words are normed. -/
theorem normV (g n c : Nat) (l : List Nat) (w : World) (hl : l.length = n) (hn3 : n ≤ 3) (hnc : n ≤ c) (hw : Words w g 0 l) (h9 : ∀ d ∈ l, d < 18446744073709551616) (hN : wv l < 18446744073709551616 * 18446744073709551616) :
    Calls Tryz.prog 135 #[.slice (some ⟨g, 0, none⟩) n c] w fun e w' => e = .returned (.slice (some ⟨g, 0, none⟩) (wlen (wv l)) c) ∧ NV w (.slice (some ⟨g, 0, none⟩) (wlen (wv l)) c) (wv l) ∧ w' = w := by
  refine (norm135 g n c l w hl (by omega) hnc hw).mono ?_
  rintro e w' ⟨k, rfl, hk, hz, ht, rfl⟩
  have hkw := wlen_of (by omega) h9 hN (by omega) (by rw [hl]; exact hz) ht
  subst hkw
  refine ⟨rfl, ⟨some ⟨g, 0, none⟩, c, rfl, by omega, fun h0 => ⟨g, rfl, ?_, fun h2 => ?_⟩⟩, rfl⟩
  · have := hw 0 (by omega)
    rw [wv_words h9 (by omega)] at this
    exact this
  · match l, hl with
    | [], hl => simp [wv, wlen] at h2
    | [a], hl =>
      simp at hl
      omega
    | a :: b :: l, hl =>
      have := hw 1 (by simp)
      simp only [List.getD_cons_succ, List.getD_cons_zero, Nat.zero_add] at this
      rw [this, ← wv_words1 (h9 a (by simp)) hN]
set_option maxRecDepth 100000 in
set_option maxHeartbeats 4000000 in
theorem make132_reuse (A : Option Addr) (n c k : Nat) (w : World) (hk : k ≤ c) : Calls Tryz.prog 132 #[.slice A n c, .int .i64 k] w fun e w' => e = .returned (.slice A k c) ∧ w' = w := by
  go_enter Tryz.func132, Tryz.ntmps132
  go_wp2_with fail
  go_ret
  exact ⟨rfl, rfl⟩
theorem info150 : (Tryz.prog.info? 150).map (fun i => (i.zero, i.size, i.bytes)) = some (some (.int .u64 0), 1, 8) := by kernel_rfl
theorem make_cap (n c : Nat) (hn : n ≤ c) (hc : c ≤ 1000) (w : World) :
    (Instr.makeSlice 126 (.int .i64 n) (.int .i64 c)).run Tryz.prog w = .ok (.slice (some ⟨w.heap.size, 0, none⟩) n c) (w.alloc (.cells (madeCells #[.int .u64 0] c) 150)) := by
  obtain ⟨i, hi, hzz⟩ := Option.map_eq_some_iff.1 info150
  simp only [Prod.mk.injEq] at hzz
  obtain ⟨hz, hs, hb'⟩ := hzz
  have h := run_make (P := Tryz.prog) w 126 150 i (.int .u64 0) (by kernel_rfl) hi hz .i64 .i64 n c (by omega) (by omega) (by rw [hb']; omega) (by omega)
  simp only [hs, Int.toNat_natCast, Nat.mul_one] at h
  exact h
theorem made1 : madeCells #[.int .u64 0] 1 = #[.int .u64 0] := by kernel_rfl
theorem made6 : madeCells #[.int .u64 0] 6 = #[.int .u64 0, .int .u64 0, .int .u64 0, .int .u64 0, .int .u64 0, .int .u64 0] := by kernel_rfl
theorem made7 : madeCells #[.int .u64 0] 7 = #[.int .u64 0, .int .u64 0, .int .u64 0, .int .u64 0, .int .u64 0, .int .u64 0, .int .u64 0] := by kernel_rfl
set_option maxRecDepth 100000 in
set_option maxHeartbeats 4000000 in
theorem make132_one (w : World) : Calls Tryz.prog 132 #[.slice none 0 0, .int .i64 1] w fun e w' => e = .returned (.slice (some ⟨w.heap.size, 0, none⟩) 1 1) ∧ w' = w.alloc (.cells #[.int .u64 0] 150) := by
  have h : (Instr.makeSlice 126 (.int .i64 1) (.int .i64 1)).run Tryz.prog w = .ok (.slice (some ⟨w.heap.size, 0, none⟩) 1 1) (w.alloc (.cells (madeCells #[.int .u64 0] 1) 150)) := make_cap 1 1 (by omega) (by omega) w
  rw [made1] at h
  go_enter Tryz.func132, Tryz.ntmps132
  go_wp2_with fail
  go_ret
  exact ⟨rfl, rfl⟩
set_option maxRecDepth 100000 in
set_option maxHeartbeats 4000000 in
theorem make132_two (w : World) : Calls Tryz.prog 132 #[.slice none 0 0, .int .i64 2] w fun e w' => e = .returned (.slice (some ⟨w.heap.size, 0, none⟩) 2 6) ∧ w' = w.alloc (.cells #[.int .u64 0, .int .u64 0, .int .u64 0, .int .u64 0, .int .u64 0, .int .u64 0] 150) := by
  have h : (Instr.makeSlice 126 (.int .i64 2) (.int .i64 6)).run Tryz.prog w = .ok (.slice (some ⟨w.heap.size, 0, none⟩) 2 6) (w.alloc (.cells (madeCells #[.int .u64 0] 6) 150)) := make_cap 2 6 (by omega) (by omega) w
  rw [made6] at h
  go_enter Tryz.func132, Tryz.ntmps132
  go_wp2_with fail
  go_ret
  exact ⟨rfl, rfl⟩
set_option maxRecDepth 100000 in
set_option maxHeartbeats 4000000 in
theorem make132_three (w : World) : Calls Tryz.prog 132 #[.slice none 0 0, .int .i64 3] w fun e w' => e = .returned (.slice (some ⟨w.heap.size, 0, none⟩) 3 7) ∧ w' = w.alloc (.cells #[.int .u64 0, .int .u64 0, .int .u64 0, .int .u64 0, .int .u64 0, .int .u64 0, .int .u64 0] 150) := by
  have h : (Instr.makeSlice 126 (.int .i64 3) (.int .i64 7)).run Tryz.prog w = .ok (.slice (some ⟨w.heap.size, 0, none⟩) 3 7) (w.alloc (.cells (madeCells #[.int .u64 0] 7) 150)) := make_cap 3 7 (by omega) (by omega) w
  rw [made7] at h
  go_enter Tryz.func132, Tryz.ntmps132
  go_wp2_with fail
  go_ret
  exact ⟨rfl, rfl⟩
end Go.Proofs.YtamkglgiaiejkaaGreatDoor
