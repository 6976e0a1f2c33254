import Derived.Test.YtdamippibpbjhaaGreatDoorYa02
import Derived.Test.YtdamippibpbjhaaGreatDoorYa03
import Derived.Test.YtdamippibpbjhaaGreatDoorYa05
import Derived.Lib.Hide
import Derived.Laws.LoneSync
import Derived.Deep.OwnRows
/-! Memory that can grow. -/
namespace Go.Proofs.YtdamippibpbjhaaGreatDoor
open Go.RowKit

theorem and64 : ∀ n : Nat, n < 65 → 1 ≤ n → bits .and .i64 ((n : Int) + 63) (bits .xor .i64 (-1) 63) = 64 := by decide +kernel

set_option maxRecDepth 100000 in
set_option maxHeartbeats 2000000 in
theorem round64_any (n : Nat) (w : World) (h0 : 1 ≤ n) (h1 : n ≤ 64) : Calls Tryz.prog 169 #[.int .i64 n] w fun e w' => e = .returned (.int .i64 64) ∧ w' = w := by
  have ha := and64 n (by omega) h0
  have H : Hid (Calls Tryz.prog 182 #[.int .i64 n, .int .i64 64] w fun e w' => e = .returned (.int .i64 64) ∧ w' = w) := by
    refine Lib.hid ?_
    go_enter Tryz.func182, Tryz.ntmps182
    go_wp2_with fail
    go_ret
    exact ⟨rfl, rfl⟩
  go_enter Tryz.func169, Tryz.ntmps169
  go_wp2_with fail
  refine H.out.mono ?_
  rintro e w1 ⟨rfl, rfl⟩
  go_wp2_with fail
  go_ret
  exact ⟨rfl, rfl⟩

set_option maxRecDepth 100000 in
set_option maxHeartbeats 2000000 in
theorem add_any (b o : Nat) (w : World) (t : TypeId) (cs : Array Value) (n : Int) (hb : w.heap[b]? = some (.cells cs t (0, 0))) (h0 : cs[o]? = some (.int .i64 n)) (hn : 0 ≤ n ∧ n < 1000) : Calls Tryz.prog 127 #[.pointer (some ⟨b, o, none⟩), .int .i64 1] w fun e w' =>
    e = .returned (.int .i64 (n + 1)) ∧ w' = w.setCell ⟨b, o, none⟩ (.int .i64 (n + 1)) := by
  have hc := blk_cell hb
  have hf := blk_frozen hb
  have hadd := run_call_add (P := Tryz.prog) Tryz.func145 (by kernel_rfl) (by kernel_rfl) (by kernel_rfl) .i64 (by kernel_rfl) (a := ⟨b, o, none⟩) (x := n) (y := 1) (s := n + 1) (w := w) (by rw [hc]; exact h0) (hf o)
    (by simp [Op.intArith, IntKind.wrap_i64]; omega)
  go_enter Tryz.func127, Tryz.ntmps127
  go_wp2_with fail
  go_ret
  exact ⟨rfl, rfl⟩

/-- A buffer's cells. -/
def mbCells (c : Int) (sl : Value) (n : Int) : Array Value := #[.int .i64 c, sl, .int .i64 n, .bool true, .iface 94 (.agg #[]), .pointer none]

set_option maxRecDepth 100000 in
set_option maxHeartbeats 2000000 in
theorem newBuffer_any (w : World) : Calls Tryz.prog 105 #[.iface 94 (.agg #[])] w fun e w' =>
    e = .returned (.pointer (some ⟨w.heap.size, 0, none⟩)) ∧ Keep (fun _ => False) w w' ∧ w'.heap[w.heap.size]? = some (.cells (mbCells 1 (.slice none 0 0) 0) 251 (0, 0)) := by
  have HA := Lib.hid (add_any w.heap.size 0 (w.alloc (.cells (mbCells 0 (.slice none 0 0) 0) 251)) 251 (mbCells 0 (.slice none 0 0) 0) 0 (blk_new _ _) rfl (by omega))
  go_enter Tryz.func105, Tryz.ntmps105
  go_wp2_with fail
  refine HA.out.mono ?_
  rintro e w1 ⟨rfl, rfl⟩
  go_wp2_with fail
  go_ret
  exact ⟨rfl, (Keep.refl _ w).alloc _, blk_new _ _⟩

def zl (m n : Nat) : List Value := [.nilIface, .int .u64 0, .int .i64 0, .int .u64 0, .int .u64 0] ++ (List.replicate m (.int .u8 0) ++ List.replicate n (.int .u32 0))
theorem list245 : Tryz.zeroCells245 = (zl 8 1024).toArray := by kernel_rfl
theorem zl_len (m n : Nat) : (zl m n).length = 5 + (m + n) := by simp [zl]; omega
theorem zl_raw (m n j : Nat) (hj : j < m) : (zl m n)[5 + j]? = some (.int .u8 0) := by
  unfold zl
  rw [List.getElem?_append_right (by simp), List.getElem?_append_left (by simp; omega)]
  simp [hj]
theorem zl_ub (m n j : Nat) (hj : j < n) : (zl m n)[5 + m + j]? = some (.int .u32 0) := by
  unfold zl
  rw [List.getElem?_append_right (by simp; omega), List.getElem?_append_right (by simp; omega)]
  simp [show 5 + m + j - 5 - m = j by omega, hj]
theorem size245 : Tryz.zeroCells245.size = 1037 := by rw [list245, List.size_toArray, zl_len]
theorem raw245 (j : Nat) (hj : j < 8) : Tryz.zeroCells245[5 + j]? = some (.int .u8 0) := by
  rw [list245, List.getElem?_toArray]; exact zl_raw 8 1024 j hj
theorem ub245 (j : Nat) (hj : j < 1024) : Tryz.zeroCells245[13 + j]? = some (.int .u32 0) := by
  rw [list245, List.getElem?_toArray]; exact zl_ub 8 1024 j hj
theorem zl_1 (m n : Nat) : (zl m n)[1]? = some (.int .u64 0) := rfl
theorem zl_2 (m n : Nat) : (zl m n)[2]? = some (.int .i64 0) := rfl
theorem zl_3 (m n : Nat) : (zl m n)[3]? = some (.int .u64 0) := rfl
theorem zl_4 (m n : Nat) : (zl m n)[4]? = some (.int .u64 0) := rfl
theorem cell245_1 : Tryz.zeroCells245[1]? = some (.int .u64 0) := by rw [list245, List.getElem?_toArray]; exact zl_1 8 1024
theorem cell245_2 : Tryz.zeroCells245[2]? = some (.int .i64 0) := by rw [list245, List.getElem?_toArray]; exact zl_2 8 1024
theorem cell245_3 : Tryz.zeroCells245[3]? = some (.int .u64 0) := by rw [list245, List.getElem?_toArray]; exact zl_3 8 1024
theorem cell245_4 : Tryz.zeroCells245[4]? = some (.int .u64 0) := by rw [list245, List.getElem?_toArray]; exact zl_4 8 1024
theorem BC.zero (rb : RB) : BC (Tryz.zeroCells245.setIfInBounds 0 (.iface 208 (.pointer (some ⟨rb, rb.o, none⟩)))) rb 0 0 0 0 := by
  refine ⟨by rw [Array.size_setIfInBounds]; exact size245, ?_, ?_, ?_, ?_, ?_, fun j hj => ⟨0, by omega, by omega, ?_⟩, fun j hj => ⟨0, by omega, by omega, ?_⟩⟩
  · rw [Array.getElem?_setIfInBounds_self_of_lt (by rw [size245]; omega)]
  · rw [Array.getElem?_setIfInBounds_ne (by omega)]; exact cell245_1
  · rw [Array.getElem?_setIfInBounds_ne (by omega)]; exact cell245_2
  · rw [Array.getElem?_setIfInBounds_ne (by omega)]; exact cell245_3
  · rw [Array.getElem?_setIfInBounds_ne (by omega)]; exact cell245_4
  · rw [Array.getElem?_setIfInBounds_ne (by omega)]
    exact raw245 j hj
  · rw [Array.getElem?_setIfInBounds_ne (by omega)]
    exact ub245 j hj

set_option maxRecDepth 100000 in
set_option maxHeartbeats 2000000 in
theorem newBitReader_any (rb : RB) (w : World) : Calls Tryz.prog 103 #[.iface 208 (.pointer (some ⟨rb, rb.o, none⟩))] w fun e w' =>
    e = .returned (.pointer (some ⟨w.heap.size, 0, none⟩)) ∧ Keep (fun _ => False) w w' ∧ ∃ cs, w'.heap[w.heap.size]? = some (.cells cs 245 (0, 0)) ∧ BC cs rb 0 0 0 0 := by
  go_enter Tryz.func103, Tryz.ntmps103
  go_wp2_with fail
  go_ret
  exact ⟨rfl, (Keep.refl _ w).alloc _, _, blk_new _ _, BC.zero rb⟩

theorem info5 : (Tryz.prog.info? 5).map (fun i => (i.zero, i.size, i.bytes)) = some (some (.int .u8 0), 1, 1) := by kernel_rfl

set_option maxRecDepth 100000 in
set_option maxHeartbeats 2000000 in
theorem allocate_any (n : Nat) (w : World) (hn : n ≤ 64) : Calls Tryz.prog 245 #[.agg #[], .int .i64 n] w fun e w' =>
    ∃ d, e = .returned (.slice (some ⟨d, 0, none⟩) n n) ∧ Keep (fun _ => False) w w' ∧ w.heap.size ≤ d ∧ w'.heap[d]? = some (.cells (madeCells #[.int .u8 0] n) 5 (0, 0)) := by
  have hmk := run_make_row' (P := Tryz.prog) 31 5 (.int .u8 0) 1 Tryz.underlying31 info5 rfl .i64 .i64 n (by omega) (by omega)
  go_enter Tryz.func245, Tryz.ntmps245
  go_wp2_with fail
  go_ret
  exact ⟨w.heap.size + 1, rfl, ((Keep.refl _ w).alloc _).alloc _, by simp, by have := blk_new (w.alloc (.cells #[] 94)) (.cells (madeCells #[.int .u8 0] n) 5); simpa using this⟩

@[go_sem] theorem nil_ahead_Allocate (w : World) : (nilAhead 502 94 (.agg #[]) "Allocate").run Tryz.prog w = .ok (some false) w := by kernel_rfl
@[go_sem] theorem method_Allocate (w : World) : (method 502 94 (.agg #[]) "Allocate").run Tryz.prog w = .ok (245, .agg #[]) w := by kernel_rfl

set_option maxRecDepth 100000 in
set_option maxHeartbeats 2000000 in
theorem reserve_fresh (mb n : Nat) (w : World) (h0 : 1 ≤ n) (h1 : n ≤ 64) (hb : w.heap[mb]? = some (.cells (mbCells 1 (.slice none 0 0) 0) 251 (0, 0))) :
    Calls Tryz.prog 168 #[.pointer (some ⟨mb, 0, none⟩), .int .i64 n] w fun e w' => e = .returned (.tuple #[]) ∧ Keep (fun k => k = mb) w w' ∧
      ∃ d, w.heap.size ≤ d ∧ w'.heap[d]? = some (.cells (madeCells #[.int .u8 0] 64) 5 (0, 0)) ∧ w'.heap[mb]? = some (.cells (mbCells 1 (.slice (some ⟨d, 0, none⟩) 64 64) 0) 251 (0, 0)) := by
  have hc := blk_cell hb
  have hf := blk_frozen hb
  have hlt := blk_lt hb
  unfold mbCells at hc
  have HR := Lib.hid (round64_any n w h0 h1)
  have HA := Lib.hid (show Calls Tryz.prog 245 #[.agg #[], .int .i64 64] w _ from allocate_any 64 w (by omega))
  have hn : (0 : Int) < (n : Int) := by omega
  go_enter Tryz.func168, Tryz.ntmps168
  go_wp2_with fail
  refine HR.out.mono ?_
  rintro e w1 ⟨rfl, hw1⟩
  have hw1' := hw1.symm
  clear hw1
  subst hw1'
  go_wp2_with fail
  refine HA.out.mono ?_
  rintro e w2 ⟨d, rfl, hk, hd, hdc⟩
  have hb2 := hk.blk hb (fun h => h)
  have hc2 := blk_cell hb2
  have hf2 := blk_frozen hb2
  unfold mbCells at hc2
  clear hc hf HR HA
  go_wp2_with fail
  go_end0
  refine ⟨rfl, (hk.mono (S' := fun k => k = mb) (fun _ h => h.elim)).setCell (p := ⟨mb, 1, none⟩) (.inl rfl) _, d, hd, blk_far hdc (p := ⟨mb, 1, none⟩) (by show mb ≠ d; omega) _, blk_set hb2 1 _⟩

set_option maxRecDepth 100000 in
set_option maxHeartbeats 2000000 in
theorem resize_fresh (mb n : Nat) (w : World) (h0 : 1 ≤ n) (h1 : n ≤ 64) (hb : w.heap[mb]? = some (.cells (mbCells 1 (.slice none 0 0) 0) 251 (0, 0))) :
    Calls Tryz.prog 129 #[.pointer (some ⟨mb, 0, none⟩), .int .i64 n] w fun e w' => e = .returned (.tuple #[]) ∧ Keep (fun k => k = mb) w w' ∧
      ∃ d, w.heap.size ≤ d ∧ w'.heap[d]? = some (.cells (madeCells #[.int .u8 0] 64) 5 (0, 0)) ∧ w'.heap[mb]? = some (.cells (mbCells 1 (.slice (some ⟨d, 0, none⟩) 64 64) n) 251 (0, 0)) := by
  have hc := blk_cell hb
  have hf := blk_frozen hb
  unfold mbCells at hc
  have HR := Lib.hid (reserve_fresh mb n w h0 h1 hb)
  have hn : (0 : Int) < (n : Int) := by omega
  have H : Hid (Calls Tryz.prog 146 #[.pointer (some ⟨mb, 0, none⟩), .int .i64 n, .bool true] w fun e w' => e = .returned (.tuple #[]) ∧ Keep (fun k => k = mb) w w' ∧
      ∃ d, w.heap.size ≤ d ∧ w'.heap[d]? = some (.cells (madeCells #[.int .u8 0] 64) 5 (0, 0)) ∧ w'.heap[mb]? = some (.cells (mbCells 1 (.slice (some ⟨d, 0, none⟩) 64 64) n) 251 (0, 0))) := by
    refine Lib.hid ?_
    go_enter Tryz.func146, Tryz.ntmps146
    go_wp2_with fail
    refine HR.out.mono ?_
    rintro e w1 ⟨rfl, hk, d, hd, hdc, hb1⟩
    have hlt := blk_lt hb
    have hc2 := blk_cell hb1
    have hf2 := blk_frozen hb1
    unfold mbCells at hc2
    clear hc hf HR
    go_wp2_with fail
    go_end0
    exact ⟨rfl, hk.setCell (p := ⟨mb, 2, none⟩) (.inl rfl) _, d, hd, blk_far hdc (p := ⟨mb, 2, none⟩) (by show mb ≠ d; omega) _, blk_set hb1 2 _⟩
  clear HR hc hf
  go_enter Tryz.func129, Tryz.ntmps129
  go_wp2_with fail
  refine H.out.mono ?_
  rintro e w1 ⟨rfl, h⟩
  go_wp2_with fail
  go_end0
  exact ⟨rfl, h⟩

set_option maxRecDepth 100000 in
set_option maxHeartbeats 2000000 in
theorem resize_again (mb d n : Nat) (w : World) (h0 : 1 ≤ n) (h1 : n ≤ 64) (hb : w.heap[mb]? = some (.cells (mbCells 1 (.slice (some ⟨d, 0, none⟩) 64 64) n) 251 (0, 0))) :
    Calls Tryz.prog 129 #[.pointer (some ⟨mb, 0, none⟩), .int .i64 n] w fun e w' => e = .returned (.tuple #[]) ∧ Keep (fun k => k = mb) w w' ∧ w'.heap[mb]? = some (.cells (mbCells 1 (.slice (some ⟨d, 0, none⟩) 64 64) n) 251 (0, 0)) := by
  have hc := blk_cell hb
  have hf := blk_frozen hb
  unfold mbCells at hc
  have HR := Lib.hid (round64_any n w h0 h1)
  have H : Hid (Calls Tryz.prog 146 #[.pointer (some ⟨mb, 0, none⟩), .int .i64 n, .bool true] w fun e w' => e = .returned (.tuple #[]) ∧ Keep (fun k => k = mb) w w' ∧ w'.heap[mb]? = some (.cells (mbCells 1 (.slice (some ⟨d, 0, none⟩) 64 64) n) 251 (0, 0))) := by
    refine Lib.hid ?_
    go_enter Tryz.func146, Tryz.ntmps146
    go_wp2_with fail
    refine HR.out.mono ?_
    rintro e w1 ⟨rfl, hw1⟩
    have hw1' := hw1.symm
    clear hw1
    subst hw1'
    go_wp2_with fail
    go_end0
    exact ⟨rfl, (Keep.refl (fun k => k = mb) w).setCell (p := ⟨mb, 2, none⟩) (.inl rfl) _, blk_set hb 2 _⟩
  clear HR hc hf
  go_enter Tryz.func129, Tryz.ntmps129
  go_wp2_with fail
  refine H.out.mono ?_
  rintro e w1 ⟨rfl, h⟩
  go_wp2_with fail
  go_end0
  exact ⟨rfl, h⟩

set_option maxRecDepth 100000 in
set_option maxHeartbeats 2000000 in
theorem bytes_any (mb d n : Nat) (w : World) (h1 : n ≤ 64) (hb : w.heap[mb]? = some (.cells (mbCells 1 (.slice (some ⟨d, 0, none⟩) 64 64) n) 251 (0, 0))) :
    Calls Tryz.prog 131 #[.pointer (some ⟨mb, 0, none⟩)] w fun e w' => e = .returned (.slice (some ⟨d, 0, none⟩) n 64) ∧ ∃ m, w' = w.drewN m := by
  have hc := blk_cell hb
  unfold mbCells at hc
  have hn : (n : Int) ≤ 64 := by omega
  go_enter Tryz.func131, Tryz.ntmps131
  go_wp2_with fail
  go_quiet (fail)
  go_wp2_with fail
  go_ret
  exact ⟨rfl, _, rfl⟩
end Go.Proofs.YtdamippibpbjhaaGreatDoor

/-! Reading on. -/
namespace Go.Proofs.YtdamippibpbjhaaGreatDoor
open Go.RowKit

def putA (cs : Array Value) (o : Nat) : List Value → Array Value
  | [] => cs
  | v :: vs => putA (cs.setIfInBounds o v) (o + 1) vs
theorem putA_size : ∀ (vs : List Value) (o : Nat) (cs : Array Value), (putA cs o vs).size = cs.size
  | [], _, _ => rfl
  | v :: vs, o, cs => by rw [putA, putA_size vs (o + 1)]; simp
theorem putA_out : ∀ (vs : List Value) (o : Nat) (cs : Array Value) (j : Nat), j < o ∨ o + vs.length ≤ j → (putA cs o vs)[j]? = cs[j]?
  | [], _, _, _, _ => rfl
  | v :: vs, o, cs, j, h => by
    simp only [List.length_cons] at h
    rw [putA, putA_out vs (o + 1) _ j (by omega), Array.getElem?_setIfInBounds_ne (by omega)]
theorem putA_in : ∀ (vs : List Value) (o : Nat) (cs : Array Value) (j : Nat), j < vs.length → o + vs.length ≤ cs.size → (putA cs o vs)[o + j]? = vs[j]?
  | [], _, _, _, h, _ => by simp at h
  | v :: vs, o, cs, 0, _, hs => by
    simp only [List.length_cons] at hs
    rw [putA, putA_out vs (o + 1) _ (o + 0) (by omega), Nat.add_zero, Array.getElem?_setIfInBounds_self_of_lt (by omega)]
    rfl
  | v :: vs, o, cs, j + 1, h, hs => by
    simp only [List.length_cons] at hs h
    rw [putA, show o + (j + 1) = o + 1 + j by omega, putA_in vs (o + 1) _ j (by omega) (by simp; omega)]
    simp
theorem setCells_blk {t : TypeId} {fr : Nat × Nat} {b : Nat} : ∀ (vs : List Value) (o : Nat) (w : World) (cs : Array Value), w.heap[b]? = some (.cells cs t fr) → (w.setCells b o vs).heap[b]? = some (.cells (putA cs o vs) t fr)
  | [], _, _, _, h => h
  | v :: vs, o, _, _, h => setCells_blk vs (o + 1) _ _ (blk_set h o v)
theorem setCells_far {g b : Nat} {ob : Obj} (hne : b ≠ g) : ∀ (vs : List Value) (o : Nat) (w : World), w.heap[g]? = some ob → (w.setCells b o vs).heap[g]? = some ob
  | [], _, _, h => h
  | v :: vs, o, _, h => setCells_far hne vs (o + 1) _ (blk_far h (p := ⟨b, o, none⟩) hne v)

/-- A reader of bytes: at place i of the bytes D, which lie at cell o of block g. -/
def Rdr (w : World) (rb : RB) (g o sc : Nat) (D : List Int) (i : Nat) : Prop := ∃ q : Int, w.heap[rb.b]? = some (.cells (rb.cells (.slice (some ⟨g, o, none⟩) D.length sc) i q) rb.t (0, 0))

set_option maxRecDepth 100000 in
set_option maxHeartbeats 2000000 in
theorem read_any (rb : RB) (g o sc b bo n c i : Nat) (D : List Int) (cs : Array Value) (t : TypeId) (w : World) (hr : Rdr w rb g o sc D i) (hrow : Row w .u8 g o D) (hb : w.heap[b]? = some (.cells cs t (0, 0)))
    (hn : bo + n ≤ cs.size) (hbr : b ≠ rb) (hgb : g ≠ b) (hgr : g ≠ rb) (hi : i < D.length) (hsc : D.length ≤ sc) (hD : D.length ≤ 140737488351232) (_hn9 : n ≤ 140737488351232) :
    Calls Tryz.prog 280 #[.pointer (some ⟨rb, rb.o, none⟩), .slice (some ⟨b, bo, none⟩) n c] w fun e w' =>
      e = .returned (.tuple #[.int .i64 (min n (D.length - i) : Nat), .nilIface]) ∧ Keep (fun k => k = rb ∨ k = b) w w' ∧ Rdr w' rb g o sc D (i + min n (D.length - i)) ∧
      w'.heap[b]? = some (.cells (putA cs bo (nums .u8 ((D.drop i).take n))) t (0, 0)) := by
  obtain ⟨q, hq⟩ := hr
  have hc0 : w.cell? ⟨rb, rb.o, none⟩ = _ := (blk_cell hq _).trans (rb.at0 _ _ _)
  have hc1 : w.cell? ⟨rb, rb.o + 1, none⟩ = _ := (blk_cell hq _).trans (rb.at1 _ _ _)
  have hc2 : w.cell? ⟨rb, rb.o + 2, none⟩ = _ := (blk_cell hq _).trans (rb.at2 _ _ _)
  have hf := blk_frozen hq
  have hi0 : (i : Int) < (D.length : Int) := by omega
  have hi1 : ¬ ((D.length : Int) ≤ (i : Int)) := by omega
  have hi2 : (i : Int) ≤ (sc : Int) := by omega
  have hi3 : ¬ (sc = i) := by omega
  go_enter Tryz.func280, Tryz.ntmps280
  go_wp2_with fail
  go_quiet (fail)
  go_wp2_with fail
  have hk1 : Keep (fun k => k = rb ∨ k = b) w ((w.drewN nq).setCell ⟨rb, rb.o + 2, none⟩ (.int .i64 (-1))) := ((Keep.refl _ w).drewN nq).setCell (.inl (.inl rfl)) _
  have hq1 := blk_set (blk_drewN hq nq) (rb.o + 2) (.int .i64 (-1))
  have hb1 := blk_far (blk_drewN hb nq) (p := ⟨rb, rb.o + 2, none⟩) (fun e => hbr e.symm) (.int .i64 (-1))
  have hrow1 := hrow.keep hk1 (by rintro (h | h); exact hgr h; exact hgb h)
  rw [rb.set2] at hq1
  clear hc0 hc1 hc2 hf hq hb hrow
  generalize (w.drewN nq).setCell ⟨rb, rb.o + 2, none⟩ (.int .i64 (-1)) = w1 at *
  have hc0 : w1.cell? ⟨rb, rb.o, none⟩ = _ := (blk_cell hq1 _).trans (rb.at0 _ _ _)
  have hc1 : w1.cell? ⟨rb, rb.o + 1, none⟩ = _ := (blk_cell hq1 _).trans (rb.at1 _ _ _)
  have hc2 : w1.cell? ⟨rb, rb.o + 2, none⟩ = _ := (blk_cell hq1 _).trans (rb.at2 _ _ _)
  have hf := blk_frozen hq1
  have hcb := blk_cell hb1
  have hlen := cut_nums D i n
  have HCP : ∀ m, (Builtin.copy_ #[31, 31] 3 #[.slice (some ⟨b, bo, none⟩) n c, .slice (some ⟨g, o + i, none⟩) (D.length - i) (sc - i)]).run Tryz.prog (w1.drewN m) =
      .ok (goInt (nums .u8 ((D.drop i).take n)).length) ((w1.drewN m).setCells b bo (nums .u8 ((D.drop i).take n))) := fun m =>
    run_copy_cells (P := Tryz.prog) (w1.drewN m) 31 31 3 5 b bo n c ⟨g, o + i, none⟩ (D.length - i) (sc - i) (nums .u8 ((D.drop i).take n))
      Tryz.underlying31 (by kernel_rfl) hlen (((hrow1.keep ((Keep.refl (fun _ => False) w1).drewN m) (fun h => h)).drop i).take n).src
      (fun j hj => by rw [blk_cell (blk_drewN hb1 m)]; simp at hj; simp; omega) (fun j hj => blk_frozen (blk_drewN hb1 m) _) (nums_one _ _)
  rw [hlen, show Nat.min (D.length - i) n = min n (D.length - i) from Nat.min_comm _ _] at HCP
  have hlen' : (nums .u8 ((D.drop i).take n)).length = min n (D.length - i) := by rw [hlen]; exact Nat.min_comm _ _
  generalize hvs : nums .u8 ((D.drop i).take n) = vs at *
  generalize hm : min n (D.length - i) = m at *
  have Hm := Lib.hid hm
  have Hvs := Lib.hid hvs
  have hml : i + m ≤ D.length := by omega
  clear hm hvs hlen hcb hrow1
  refine wp_region_mid 10 (by kernel_rfl) (by kernel_rfl) rfl ?_
  simp only [List.take_succ_cons, List.take_zero, List.drop_succ_cons, List.drop_zero]
  repeat (go_big_quiet_step (fail))
  refine wpQuiet_nil ?_
  rintro _ ⟨nq1, rfl⟩
  go_wp2_with fail
  have hk2 : Keep (fun k => k = rb ∨ k = b) w ((w1.drewN nq1).setCells b bo vs) := Keep.setCells vs bo _ (hk1.drewN nq1) (.inl (.inr rfl))
  have hq2 := setCells_far hbr vs bo _ (blk_drewN hq1 nq1)
  have hb2 := setCells_blk vs bo _ _ (blk_drewN hb1 nq1)
  clear hc0 hc1 hc2 hf hq1 hb1 hk1 HCP
  generalize (w1.drewN nq1).setCells b bo vs = w2 at *
  have hc0 : w2.cell? ⟨rb, rb.o, none⟩ = _ := (blk_cell hq2 _).trans (rb.at0 _ _ _)
  have hc1 : w2.cell? ⟨rb, rb.o + 1, none⟩ = _ := (blk_cell hq2 _).trans (rb.at1 _ _ _)
  have hc2 : w2.cell? ⟨rb, rb.o + 2, none⟩ = _ := (blk_cell hq2 _).trans (rb.at2 _ _ _)
  have hf := blk_frozen hq2
  repeat (go_big_quiet_step (fail))
  refine wpQuiet_nil ?_
  rintro _ ⟨nq2, rfl⟩
  go_wp2_with fail
  go_ret2
  refine ⟨by rw [Hm.out]; rfl, (hk2.drewN nq2).setCell (.inl (.inl rfl)) _, ⟨-1, ?_⟩, ?_⟩
  · have := blk_set (blk_drewN hq2 nq2) (rb.o + 1) (.int .i64 (i + m : Nat))
    rw [rb.set1] at this
    rw [Hm.out]
    simpa using this
  · rw [Hvs.out]
    exact blk_far (blk_drewN hb2 nq2) (p := ⟨rb, rb.o + 1, none⟩) (fun e => hbr e.symm) _
end Go.Proofs.YtdamippibpbjhaaGreatDoor

/-! Going to a place. -/
namespace Go.Proofs.YtdamippibpbjhaaGreatDoor
open Go.RowKit

set_option maxRecDepth 100000 in
set_option maxHeartbeats 2000000 in
theorem seek_any (rb : RB) (g o sc x : Nat) (i q : Int) (D : List Int) (w : World) (hr : w.heap[rb.b]? = some (.cells (rb.cells (.slice (some ⟨g, o, none⟩) D.length sc) i q) rb.t (0, 0))) (hx : x ≤ 140737488351232) :
    Calls Tryz.prog 283 #[.pointer (some ⟨rb, rb.o, none⟩), .int .i64 x, .int .i64 0] w fun e w' =>
      e = .returned (.tuple #[.int .i64 x, .nilIface]) ∧ Keep (fun k => k = rb) w w' ∧ Rdr w' rb g o sc D x := by
  have hc0 : w.cell? ⟨rb, rb.o, none⟩ = _ := (blk_cell hr _).trans (rb.at0 _ _ _)
  have hc1 : w.cell? ⟨rb, rb.o + 1, none⟩ = _ := (blk_cell hr _).trans (rb.at1 _ _ _)
  have hc2 : w.cell? ⟨rb, rb.o + 2, none⟩ = _ := (blk_cell hr _).trans (rb.at2 _ _ _)
  have hf := blk_frozen hr
  have hx0 : ¬ ((x : Int) < 0) := by omega
  go_enter Tryz.func283, Tryz.ntmps283
  go_wp2_with fail
  go_ret2
  refine ⟨rfl, ((Keep.refl (fun k => k = rb) w).setCell (p := ⟨rb, rb.o + 2, none⟩) (.inl rfl) _).setCell (p := ⟨rb, rb.o + 1, none⟩) (.inl rfl) _, -1, ?_⟩
  have := blk_set (blk_set hr (rb.o + 2) (.int .i64 (-1))) (rb.o + 1) (.int .i64 x)
  rw [rb.set2, rb.set1] at this
  exact this
end Go.Proofs.YtdamippibpbjhaaGreatDoor

/-! Reading as many bytes as there is room for. -/
namespace Go.Proofs.YtdamippibpbjhaaGreatDoor
open Go.RowKit

/-- State of the loop of ReadAtLeast: nothing read yet, or all read. -/
def RalRel (w : World) (rb : RB) (g o sc b bo n i : Nat) (D : List Int) (cs : Array Value) (t : TypeId) (x y : Value) (wr : World) : Prop :=
  ∃ k : Nat, (k = 0 ∨ k = n) ∧ x = .int .i64 k ∧ y = .nilIface ∧ Keep (fun k => k = rb ∨ k = b) w wr ∧ Rdr wr rb g o sc D (i + k) ∧ wr.heap[b]? = some (.cells (putA cs bo (nums .u8 ((D.drop i).take k))) t (0, 0))

set_option maxRecDepth 100000 in
set_option maxHeartbeats 2000000 in
theorem least_any (rb : RB) (g o sc b bo n c i : Nat) (D : List Int) (cs : Array Value) (t : TypeId) (w : World) (hr : Rdr w rb g o sc D i) (hrow : Row w .u8 g o D) (hb : w.heap[b]? = some (.cells cs t (0, 0)))
    (hn : bo + n ≤ cs.size) (hnc : n ≤ c) (hbr : b ≠ rb) (hgb : g ≠ b) (hgr : g ≠ rb) (hi : i + n ≤ D.length) (hn0 : 0 < n) (hsc : D.length ≤ sc) (hD : D.length ≤ 140737488351232) :
    Calls Tryz.prog 223 #[.iface 208 (.pointer (some ⟨rb, rb.o, none⟩)), .slice (some ⟨b, bo, none⟩) n c, .int .i64 n] w fun e w' =>
      e = .returned (.tuple #[.int .i64 n, .nilIface]) ∧ Keep (fun k => k = rb ∨ k = b) w w' ∧ Rdr w' rb g o sc D (i + n) ∧
      w'.heap[b]? = some (.cells (putA cs bo (nums .u8 ((D.drop i).take n))) t (0, 0)) := by
  have HR := Lib.hid (fun w1 h1 h2 h3 => read_any rb g o sc b bo n c i D cs t w1 h1 h2 h3 hn hbr hgb hgr (by omega) hsc hD (by omega))
  have hmin : min n (D.length - i) = n := by omega
  have Hmin := Lib.hid hmin
  clear hmin
  go_enter Tryz.func223, Tryz.ntmps223
  go_wp2_with fail
  go_loopw [6, 7, 8] (fun x y _ wr => RalRel w rb g o sc b bo n i D cs t x y wr) (fun x _ _ _ => n - (intOf x).toNat)
  case atStart => exact ⟨0, .inl rfl, rfl, rfl, Keep.refl _ _, by simpa using hr, by simpa [nums, putA] using hb⟩
  case round =>
    obtain ⟨k, hk0, rfl, rfl, hkr, hrr, hbr'⟩ := hrel
    by_cases h : k = n
    · subst h
      go_wp2_with fail
      go_ret2
      exact ⟨rfl, hkr, hrr, hbr'⟩
    · obtain rfl : k = 0 := by omega
      simp only [Nat.add_zero, List.take_zero, nums, List.map_nil, putA] at hrr hbr'
      have hrw := hrow.keep hkr (by rintro (h | h); exact hgr h; exact hgb h)
      go_wp2_with fail
      refine wp_region_mid 7 (by kernel_rfl) (by kernel_rfl) rfl ?_
      simp only [List.take_succ_cons, List.take_zero, List.drop_succ_cons, List.drop_zero]
      repeat (go_big_quiet_step (fail))
      refine wpQuiet_nil ?_
      rintro _ ⟨nq, rfl⟩
      go_wp2_with fail
      have HR' := HR.out (wr.drewN nq) hrr (hrw.keep ((Keep.refl (fun _ => False) wr).drewN nq) (fun h => h)) (blk_drewN hbr' nq)
      rw [Hmin.out] at HR'
      refine HR'.mono ?_
      rintro e w1 ⟨rfl, hk1, hr1, hb1⟩
      have hk2 := (hkr.drewN nq).trans hk1
      clear HR hrow hr hb HR' hrr hbr' hrw hk1
      go_wp2_with fail
      repeat (go_big_quiet_step (fail))
      refine wpQuiet_nil ?_
      rintro _ ⟨nq2, rfl⟩
      go_wp2_with fail
      go_roundw
      case rel => exact ⟨n, .inr rfl, by go_num, rfl, hk2.drewN nq2, hr1, blk_drewN hb1 nq2⟩
      case measure => simp [intOf]; omega
end Go.Proofs.YtdamippibpbjhaaGreatDoor
