import Derived.Test.YtdamippibpbjhaaGreatDoorProg
import Derived.Lib.EndianBits
import Derived.Deep.Draws
import Derived.Test.YtdamippibpbjhaaGreatDoorYa02
import Derived.Lib.Hide
import Derived.Test.YtdamippibpbjhaaGreatDoorYa01
namespace Go.Proofs.YtdamippibpbjhaaGreatDoor
open Go.RowKit

theorem alloc_cell {w : World} {p : Addr} {v : Value} (h : w.cell? p = some v) (o : Obj) : (w.alloc o).cell? p = some v :=
  ((Keep.refl (fun _ => False) w).alloc o).cell h (fun h => h)

set_option maxHeartbeats 8000000 in
set_option maxRecDepth 100000 in
theorem leU64_any (g o n c : Nat) (x0 x1 x2 x3 x4 x5 x6 x7 : Int) (w : World) (hn : 8 ≤ n)
    (r0 : 0 ≤ x0 ∧ x0 < 256) (r1 : 0 ≤ x1 ∧ x1 < 256) (r2 : 0 ≤ x2 ∧ x2 < 256) (r3 : 0 ≤ x3 ∧ x3 < 256) (r4 : 0 ≤ x4 ∧ x4 < 256) (r5 : 0 ≤ x5 ∧ x5 < 256) (r6 : 0 ≤ x6 ∧ x6 < 256) (r7 : 0 ≤ x7 ∧ x7 < 256)
    (c0 : w.cell? ⟨g, o, none⟩ = some (.int .u8 x0)) (c1 : w.cell? ⟨g, o + 1, none⟩ = some (.int .u8 x1)) (c2 : w.cell? ⟨g, o + 2, none⟩ = some (.int .u8 x2)) (c3 : w.cell? ⟨g, o + 3, none⟩ = some (.int .u8 x3))
    (c4 : w.cell? ⟨g, o + 4, none⟩ = some (.int .u8 x4)) (c5 : w.cell? ⟨g, o + 5, none⟩ = some (.int .u8 x5)) (c6 : w.cell? ⟨g, o + 6, none⟩ = some (.int .u8 x6)) (c7 : w.cell? ⟨g, o + 7, none⟩ = some (.int .u8 x7)) :
    Calls Tryz.prog 172 #[.agg #[], .slice (some ⟨g, o, none⟩) n c] w fun e w' =>
      e = .returned (.int .u64 (x0 + x1 * 256 + x2 * 65536 + x3 * 16777216 + x4 * 4294967296 + x5 * 1099511627776 + x6 * 281474976710656 + x7 * 72057594037927936)) ∧ Keep (fun _ => False) w w' := by
  obtain ⟨l0, h0⟩ := r0; obtain ⟨l1, h1⟩ := r1; obtain ⟨l2, h2⟩ := r2; obtain ⟨l3, h3⟩ := r3
  obtain ⟨l4, h4⟩ := r4; obtain ⟨l5, h5⟩ := r5; obtain ⟨l6, h6⟩ := r6; obtain ⟨l7, h7⟩ := r7
  have d0 := alloc_cell c0 (.cells #[] 331)
  have d1 := alloc_cell c1 (.cells #[] 331)
  have d2 := alloc_cell c2 (.cells #[] 331)
  have d3 := alloc_cell c3 (.cells #[] 331)
  have d4 := alloc_cell c4 (.cells #[] 331)
  have d5 := alloc_cell c5 (.cells #[] 331)
  have d6 := alloc_cell c6 (.cells #[] 331)
  have d7 := alloc_cell c7 (.cells #[] 331)
  have q0 : 0 < n := by omega
  have q1 : (1 : Int) < (n : Int) := by omega
  have q2 : (2 : Int) < (n : Int) := by omega
  have q3 : (3 : Int) < (n : Int) := by omega
  have q4 : (4 : Int) < (n : Int) := by omega
  have q5 : (5 : Int) < (n : Int) := by omega
  have q6 : (6 : Int) < (n : Int) := by omega
  have q7 : (7 : Int) < (n : Int) := by omega
  go_enter Tryz.func172, Tryz.ntmps172
  go_wp2
  go_quiet (fail)
  go_wp2
  go_ret
  refine ⟨?_, (((Keep.refl _ w).alloc _)).drewN _⟩
  simp (disch := omega) only [u64_or8, u64_or16, u64_or24, u64_or32, u64_or40, u64_or48, u64_or56]
  rfl
end Go.Proofs.YtdamippibpbjhaaGreatDoor

/-! A reader of bits over a reader of bytes: where they lie, and what fills its buffer. -/
namespace Go.Proofs.YtdamippibpbjhaaGreatDoor
open Go.RowKit

/-- A bit reader at block b over a byte reader at block rb over the bytes D, which lie at cell o of block g. -/
structure Env where
  b : Nat
  R : RB
  g : Nat
  o : Nat
  sc : Nat
  D : List Int
  eof : Addr
abbrev Env.rb (E : Env) : Nat := E.R.b
structure Env.Wf (E : Env) : Prop where
  len : E.D.length ≤ E.sc
  cap : E.D.length ≤ 140737488351232
  byte : ∀ j, 0 ≤ E.D.getD j 0 ∧ E.D.getD j 0 < 256
  bg : E.b ≠ E.g
  brb : E.b ≠ E.rb
  rbg : E.rb ≠ E.g
  b2 : E.b ≠ 2
  rb2 : E.rb ≠ 2
/-- The cells of a bit reader. -/
structure BC (cs : Array Value) (rb : RB) (off bo buf vb : Int) : Prop where
  size : cs.size = 1037
  c0 : cs[0]? = some (.iface 208 (.pointer (some ⟨rb, rb.o, none⟩)))
  c1 : cs[1]? = some (.int .u64 buf)
  c2 : cs[2]? = some (.int .i64 off)
  c3 : cs[3]? = some (.int .u64 bo)
  c4 : cs[4]? = some (.int .u64 vb)
  raw : ∀ j, j < 8 → ∃ x : Int, 0 ≤ x ∧ x < 256 ∧ cs[5 + j]? = some (.int .u8 x)
  ub : ∀ j, j < 1024 → ∃ x : Int, 0 ≤ x ∧ x < 4294967296 ∧ cs[13 + j]? = some (.int .u32 x)
structure Src (E : Env) (w : World) : Prop where
  rd : ∃ i p : Int, w.heap[E.rb]? = some (.cells (E.R.cells (.slice (some ⟨E.g, E.o, none⟩) E.D.length E.sc) i p) E.R.t (0, 0))
  row : Row w .u8 E.g E.o E.D
  eof : w.cell? ⟨2, 0, none⟩ = some (.iface 226 (.pointer (some E.eof)))
def BR (E : Env) (w : World) (off bo buf vb : Int) : Prop := ∃ cs, w.heap[E.b]? = some (.cells cs 245 (0, 0)) ∧ BC cs E.R off bo buf vb

theorem Src.keep {E : Env} {S : Nat → Prop} {w w' : World} (h : Src E w) (hk : Keep S w w') (h1 : ¬ S E.rb) (h2 : ¬ S E.g) (h3 : ¬ S 2) : Src E w' := by
  obtain ⟨i, p, hr⟩ := h.rd
  exact ⟨⟨i, p, hk.blk hr h1⟩, h.row.keep hk h2, hk.cell h.eof h3⟩
theorem Src.keepB {E : Env} {w w' : World} (h : Src E w) (hW : E.Wf) (hk : Keep (fun k => k = E.b) w w') : Src E w' :=
  h.keep hk (fun e => hW.brb e.symm) (fun e => hW.bg e.symm) (fun e => hW.b2 e.symm)

theorem BC.set1 {cs : Array Value} {rb : RB} {off bo buf vb : Int} (h : BC cs rb off bo buf vb) (x : Int) : BC (cs.setIfInBounds 1 (.int .u64 x)) rb off bo x vb := by
  have hs := h.size
  refine ⟨by simp [hs], ?_, ?_, ?_, ?_, ?_, fun j hj => ?_, fun j hj => ?_⟩
  · simpa using h.c0
  · simp [hs]
  · simpa using h.c2
  · simpa using h.c3
  · simpa using h.c4
  · rw [Array.getElem?_setIfInBounds_ne (by omega)]; exact h.raw j hj
  · rw [Array.getElem?_setIfInBounds_ne (by omega)]; exact h.ub j hj
theorem BC.set2 {cs : Array Value} {rb : RB} {off bo buf vb : Int} (h : BC cs rb off bo buf vb) (x : Int) : BC (cs.setIfInBounds 2 (.int .i64 x)) rb x bo buf vb := by
  have hs := h.size
  refine ⟨by simp [hs], ?_, ?_, ?_, ?_, ?_, fun j hj => ?_, fun j hj => ?_⟩
  · simpa using h.c0
  · simpa using h.c1
  · simp [hs]
  · simpa using h.c3
  · simpa using h.c4
  · rw [Array.getElem?_setIfInBounds_ne (by omega)]; exact h.raw j hj
  · rw [Array.getElem?_setIfInBounds_ne (by omega)]; exact h.ub j hj
theorem BC.set3 {cs : Array Value} {rb : RB} {off bo buf vb : Int} (h : BC cs rb off bo buf vb) (x : Int) : BC (cs.setIfInBounds 3 (.int .u64 x)) rb off x buf vb := by
  have hs := h.size
  refine ⟨by simp [hs], ?_, ?_, ?_, ?_, ?_, fun j hj => ?_, fun j hj => ?_⟩
  · simpa using h.c0
  · simpa using h.c1
  · simpa using h.c2
  · simp [hs]
  · simpa using h.c4
  · rw [Array.getElem?_setIfInBounds_ne (by omega)]; exact h.raw j hj
  · rw [Array.getElem?_setIfInBounds_ne (by omega)]; exact h.ub j hj
theorem BC.set4 {cs : Array Value} {rb : RB} {off bo buf vb : Int} (h : BC cs rb off bo buf vb) (x : Int) : BC (cs.setIfInBounds 4 (.int .u64 x)) rb off bo buf x := by
  have hs := h.size
  refine ⟨by simp [hs], ?_, ?_, ?_, ?_, ?_, fun j hj => ?_, fun j hj => ?_⟩
  · simpa using h.c0
  · simpa using h.c1
  · simpa using h.c2
  · simpa using h.c3
  · simp [hs]
  · rw [Array.getElem?_setIfInBounds_ne (by omega)]; exact h.raw j hj
  · rw [Array.getElem?_setIfInBounds_ne (by omega)]; exact h.ub j hj
theorem BC.setRaw {cs : Array Value} {rb : RB} {off bo buf vb : Int} (h : BC cs rb off bo buf vb) (k : Nat) (hk : k < 8) (x : Int) (hx : 0 ≤ x ∧ x < 256) : BC (cs.setIfInBounds (5 + k) (.int .u8 x)) rb off bo buf vb := by
  have hs := h.size
  refine ⟨by simp [hs], ?_, ?_, ?_, ?_, ?_, fun j hj => ?_, fun j hj => ?_⟩
  · rw [Array.getElem?_setIfInBounds_ne (by omega)]; exact h.c0
  · rw [Array.getElem?_setIfInBounds_ne (by omega)]; exact h.c1
  · rw [Array.getElem?_setIfInBounds_ne (by omega)]; exact h.c2
  · rw [Array.getElem?_setIfInBounds_ne (by omega)]; exact h.c3
  · rw [Array.getElem?_setIfInBounds_ne (by omega)]; exact h.c4
  · by_cases e : j = k
    · subst e
      exact ⟨x, hx.1, hx.2, by rw [Array.getElem?_setIfInBounds_self_of_lt (by omega)]⟩
    · rw [Array.getElem?_setIfInBounds_ne (by omega)]; exact h.raw j hj
  · rw [Array.getElem?_setIfInBounds_ne (by omega)]; exact h.ub j hj
/-- Cells written from k bytes of 'raw' on. -/
theorem BC.setRaws {rb : RB} {off bo buf vb : Int} (t : TypeId) (b : Nat) : ∀ (xs : List Int) (k : Nat) (w : World) (cs : Array Value), w.heap[b]? = some (.cells cs t (0, 0)) → BC cs rb off bo buf vb → k + xs.length ≤ 8 → (∀ x ∈ xs, 0 ≤ x ∧ x < 256) →
    ∃ cs', (w.setCells b (5 + k) (nums .u8 xs)).heap[b]? = some (.cells cs' t (0, 0)) ∧ BC cs' rb off bo buf vb ∧ (∀ j, j < xs.length → cs'[5 + k + j]? = some (.int .u8 (xs.getD j 0))) ∧ (∀ j, j < 5 + k ∨ 5 + k + xs.length ≤ j → cs'[j]? = cs[j]?)
  | [], k, w, cs, hb, h, _, _ => ⟨cs, hb, h, fun j hj => by simp at hj, fun j _ => rfl⟩
  | x :: xs, k, w, cs, hb, h, hk, hx => by
    have hk' : k < 8 := by simp at hk; omega
    have h1 := h.setRaw k hk' x (hx x (by simp))
    obtain ⟨cs', h2, h3, h4, h5⟩ := BC.setRaws t b xs (k + 1) (w.setCell ⟨b, 5 + k, none⟩ (.int .u8 x)) _ (blk_set hb (5 + k) (.int .u8 x)) h1 (by simp at hk; omega) (fun y hy => hx y (by simp [hy]))
    refine ⟨cs', ?_, h3, fun j hj => ?_, fun j hj => ?_⟩
    · simpa [nums, World.setCells, Nat.add_assoc] using h2
    · cases j with
      | zero =>
        rw [h5 (5 + k + 0) (by omega), show 5 + k + 0 = 5 + k from rfl, Array.getElem?_setIfInBounds_self_of_lt (by have := h.size; omega)]
        rfl
      | succ j =>
        have := h4 j (by simpa using hj)
        rw [show 5 + k + (j + 1) = 5 + (k + 1) + j by omega, this]
        rfl
    · rw [h5 j (by simp at hj; omega), Array.getElem?_setIfInBounds_ne (by simp at hj; omega)]
end Go.Proofs.YtdamippibpbjhaaGreatDoor

/-! What fills the buffer of a bit reader. -/
namespace Go.Proofs.YtdamippibpbjhaaGreatDoor
open Go.RowKit

/-- The reading of bytes into 'raw', whatever is there. -/
theorem readAt_raw (E : Env) (w : World) (hW : E.Wf) (hS : Src E w) (n : Nat) (hn : n ≤ 8) (off : Nat) (bo buf vb : Int) (ho : Int) (hb : BR E w ho bo buf vb) :
    Calls Tryz.prog 281 #[.pointer (some ⟨E.rb, E.R.o, none⟩), .slice (some ⟨E.b, 5, none⟩) n 8, .int .i64 off] w fun e w' =>
      (∃ err, e = .returned (.tuple #[.int .i64 (min n (E.D.length - off) : Nat), err]) ∧ (err = .iface 226 (.pointer (some E.eof)) ∧ (E.D.length - off < n ∨ n = 0) ∨ err = .nilIface ∧ n ≤ E.D.length - off)) ∧ Keep (fun k => k = E.b) w w' ∧
      ∃ cs, w'.heap[E.b]? = some (.cells cs 245 (0, 0)) ∧ BC cs E.R ho bo buf vb ∧ ∀ j, j < min n (E.D.length - off) → cs[5 + j]? = some (.int .u8 (E.D.getD (off + j) 0)) := by
  obtain ⟨cs, hcs, hB⟩ := hb
  obtain ⟨i, p, hr⟩ := hS.rd
  have hr0 : w.cell? ⟨E.rb, E.R.o, none⟩ = some (.slice (some ⟨E.g, E.o, none⟩) E.D.length E.sc) := (blk_cell hr _).trans (E.R.at0 _ _ _)
  have hcap := hW.cap
  by_cases h : off < E.D.length
  · refine (readAt_in E.b 5 n 8 E.rb E.R.o E.g E.o E.sc off E.D w (.iface 226 (.pointer (some E.eof))) h hW.len hS.eof hW.b2 hr0 hS.row
      (fun j hj => by rw [blk_cell hcs]; obtain ⟨x, _, _, hx⟩ := hB.raw j (by omega); rw [hx]; rfl) (fun j hj => blk_frozen hcs _)).mono ?_
    rintro e w' ⟨⟨err, he, herr⟩, hw⟩
    have hlen : ((E.D.drop off).take n).length = min n (E.D.length - off) := by simp
    obtain ⟨cs', h1, h2, h3, h4⟩ := BC.setRaws 245 E.b ((E.D.drop off).take n) 0 w cs hcs hB (by rw [hlen]; omega) (fun x hx => by
      obtain ⟨j, hj, rfl⟩ := List.getElem_of_mem hx
      have := hW.byte (off + j)
      rw [hlen] at hj
      have e : ((E.D.drop off).take n)[j] = E.D.getD (off + j) 0 := by
        rw [List.getElem_take, List.getElem_drop, List.getD_eq_getElem?_getD, List.getElem?_eq_getElem (by omega)]; rfl
      rw [e]
      exact this)
    refine ⟨⟨err, he, herr.imp (fun h => ⟨h.1, .inl h.2⟩) (fun h => h)⟩, ?_, cs', ?_, h2, fun j hj => ?_⟩
    · rw [hw]; exact Keep.setCells _ _ _ (Keep.refl _ _) (.inl rfl)
    · rw [hw]; exact h1
    · have := h3 j (by rw [hlen]; exact hj)
      rw [show 5 + j = 5 + 0 + j by omega, this]
      have e : ((E.D.drop off).take n).getD j 0 = E.D.getD (off + j) 0 := by
        simp only [List.getD_eq_getElem?_getD]
        rw [List.getElem?_take_of_lt (by omega), List.getElem?_drop]
      rw [e]
  · have e0 : min n (E.D.length - off) = 0 := by omega
    rw [e0]
    refine (readAt_out E.b 5 n 8 E.rb E.R.o E.g E.o E.sc off E.D.length w (.iface 226 (.pointer (some E.eof))) (by omega) hS.eof hr0).mono ?_
    rintro e w' ⟨he, m, rfl⟩
    exact ⟨⟨_, he, .inl ⟨rfl, by omega⟩⟩, (Keep.refl _ _).drewN m, cs, hcs, hB, fun j hj => by omega⟩

/-- Zeros are laid behind what was read: up to place k. -/
def FillRel (E : Env) (w : World) (off m : Nat) (bo buf : Int) (i : Value) (wr : World) : Prop :=
  ∃ (k : Nat) (cs : Array Value), m ≤ k ∧ k ≤ 8 ∧ i = .int .i64 k ∧ Keep (fun k => k = E.b) w wr ∧ wr.heap[E.b]? = some (.cells cs 245 (0, 0)) ∧ BC cs E.R off bo buf ((m : Int) * 8) ∧
    ∀ j, j < k → cs[5 + j]? = some (.int .u8 (E.D.getD (off + j) 0))

set_option maxRecDepth 100000 in
set_option maxHeartbeats 2000000 in
theorem fill_any (E : Env) (w : World) (hW : E.Wf) (hS : Src E w) (off : Nat) (bo buf vb : Int) (hb : BR E w off bo buf vb) :
    Calls Tryz.prog 150 #[.pointer (some ⟨E.b, 0, none⟩)] w fun e w' =>
      e = .returned .nilIface ∧ Keep (fun k => k = E.b) w w' ∧ BR E w' off bo (le64 E.D off) ((min 8 (E.D.length - off) : Nat) * 8) := by
  have HR := Lib.hid (fun w1 hs hb => readAt_raw E w1 hW hs 8 (by omega) off bo buf vb off hb)
  obtain ⟨cs, hcs, hB⟩ := hb
  have hc := blk_cell hcs
  have hf := blk_frozen hcs
  have c0 := hB.c0
  have c2 := hB.c2
  go_enter Tryz.func150, Tryz.ntmps150
  go_wp2_with fail
  refine wp_region_mid 14 (by kernel_rfl) (by kernel_rfl) rfl ?_
  simp only [List.take_succ_cons, List.take_zero, List.drop_succ_cons, List.drop_zero]
  repeat (go_big_quiet_step (fail))
  refine wpQuiet_nil ?_
  rintro _ ⟨nq, rfl⟩
  go_wp2_with fail
  have hSn : Src E (w.drewN nq) := hS.keepB hW ((Keep.refl _ _).drewN nq)
  refine (HR.out _ hSn ⟨cs, hcs, hB⟩).mono ?_
  rintro e w1 ⟨⟨err, rfl, herr⟩, hk, cs1, hcs1, hB1, hraw⟩
  have hS1 := hSn.keepB hW hk
  have hk1 : Keep (fun k => k = E.b) w w1 := ((Keep.refl _ w).drewN nq).trans hk
  have hE1 := hS1.eof
  have hm8 : min 8 (E.D.length - off) ≤ 8 := by omega
  have Hm : Hid (∀ j, j < 8 → min 8 (E.D.length - off) ≤ j → E.D.getD (off + j) 0 = 0) := fun j hj8 hj => by
    rw [List.getD_eq_getElem?_getD, List.getElem?_eq_none (by omega)]; rfl
  clear hk hSn hc hf c0 c2 hcs hB HR cs nq
  generalize hm : min 8 (E.D.length - off) = m at *
  have HM := Lib.hid hm
  clear hm
  have hc := blk_cell hcs1
  have hf := blk_frozen hcs1
  have c4 := hB1.c4
  have Hraw := Lib.hid hraw
  clear hraw
  rcases herr with ⟨rfl, _⟩ | ⟨rfl, _⟩
  all_goals
    go_wp2_with fail
    repeat (go_big_quiet_step (fail))
    refine wpQuiet_nil ?_
    rintro _ ⟨nq, rfl⟩
    go_wp2_with fail
    go_loopw [5] (fun i wr => FillRel E w off m bo buf i wr) (fun i _ => 8 - (intOf i).toNat)
    case atStart =>
      refine ⟨m, _, Nat.le_refl _, hm8, rfl, (hk1.drewN _).setCell (p := ⟨E.b, 4, none⟩) (.inl rfl) _, blk_set (blk_drewN hcs1 _) 4 _, hB1.set4 _, fun j hj => ?_⟩
      rw [Array.getElem?_setIfInBounds_ne (by omega)]
      exact Hraw.out j hj
    case round =>
      obtain ⟨k, cs, hmk, hk8, rfl, hkr, hcs, hB, hr⟩ := hrel
      clear hc hf c4 Hraw hB1 hcs1 hk1 cs1
      have hc := blk_cell hcs
      have hf := blk_frozen hcs
      have Hr := Lib.hid hr
      clear hr
      by_cases hlt : k < 8
      · obtain ⟨x, _, _, hx⟩ := hB.raw k hlt
        go_wp2_with fail
        go_roundw
        case rel =>
          refine ⟨k + 1, _, by omega, by omega, by go_num, hkr.setCell (p := ⟨E.b, 5 + k, none⟩) (.inl rfl) _, blk_set hcs (5 + k) _, hB.setRaw k hlt 0 (by omega), fun j hj => ?_⟩
          by_cases e : j = k
          · subst e
            rw [Array.getElem?_setIfInBounds_self_of_lt (by have := hB.size; omega), Hm.out j hlt hmk]
          · rw [Array.getElem?_setIfInBounds_ne (by omega)]
            exact Hr.out j (by omega)
        case measure => simp [intOf]; omega
      · obtain rfl : k = 8 := by omega
        have r := fun j hj => (blk_cell hcs (5 + j)).trans (Hr.out j hj)
        have hb := fun j => hW.byte (off + j)
        have HU := Lib.hid (fun n => leU64_any E.b 5 8 8 _ _ _ _ _ _ _ _ (wr.drewN n) (by omega) (hb 0) (hb 1) (hb 2) (hb 3) (hb 4) (hb 5) (hb 6) (hb 7) (r 0 (by omega)) (r 1 (by omega)) (r 2 (by omega)) (r 3 (by omega)) (r 4 (by omega)) (r 5 (by omega)) (r 6 (by omega)) (r 7 (by omega)))
        clear r hb
        go_wp2_with fail
        refine wp_region_phases (by kernel_rfl) ?_
        refine wpAny_move 0 (by kernel_rfl) rfl (fun _ _ _ _ h => h) (fun K hK => ?_)
        go_wp2_with fail
        refine wpAny_block (C := fun w' => ∃ m, w' = wr.drewN m) 1 6 4 (by kernel_rfl) rfl ⟨1, rfl⟩ ?_
        simp only [List.take_succ_cons, List.take_zero, List.drop_succ_cons, List.drop_zero, Nat.reduceSub]
        repeat (go_big_quiet_step (fail))
        refine wpQuiet_nil ?_
        rintro _ ⟨nq, rfl⟩
        refine wpAny_alone 6 (by kernel_rfl) rfl ?_
        go_wp2_with fail
        refine (HU.out nq).mono ?_
        rintro e w2 ⟨rfl, hk2⟩
        have hkr2 := (hkr.drewN nq).step hk2 (fun i h => h.elim)
        have hcs2 := hk2.blk (blk_drewN hcs nq) (fun h => h)
        have hc2 := blk_cell hcs2
        have hf2 := blk_frozen hcs2
        have c1 := hB.c1
        clear HU hk2 hc hf hcs hkr
        go_wp2_with fail
        refine wpAny_block (C := fun w' => ∃ m, w' = w2.drewN m) 7 9 1 (by kernel_rfl) rfl ⟨0, rfl⟩ ?_
        simp only [List.take_succ_cons, List.take_zero, List.drop_succ_cons, List.drop_zero, Nat.reduceSub]
        repeat (go_big_quiet_step (fail))
        refine wpQuiet_nil ?_
        rintro _ ⟨nq2, rfl⟩
        refine wpAny_alone 9 (by kernel_rfl) rfl ?_
        go_wp2_with fail
        refine wpAny_end rfl ?_
        go_wp2_with fail
        go_ret
        exact ⟨rfl, (hkr2.drewN _).setCell (p := ⟨E.b, 1, none⟩) (.inl rfl) _, _, blk_set (blk_drewN hcs2 nq2) 1 _, by rw [HM.out]; exact hB.set1 (le64 E.D off)⟩
end Go.Proofs.YtdamippibpbjhaaGreatDoor

/-! Reading whole bytes, and numbers of groups of seven bits. -/
namespace Go.Proofs.YtdamippibpbjhaaGreatDoor
open Go.RowKit

theorem bytesForBits_any (n : Int) (w : World) (h0 : 0 ≤ n) (h1 : n ≤ 9223372036854775800) :
    Calls Tryz.prog 152 #[.int .i64 n] w fun e w' => e = .returned (.int .i64 ((n + 7) / 8)) ∧ w = w' := by
  go_enter Tryz.func152, Tryz.ntmps152
  go_wp2
  go_ret
  exact ⟨rfl, rfl⟩

set_option maxRecDepth 100000 in
set_option maxHeartbeats 2000000 in
theorem getU8_any (E : Env) (w : World) (hW : E.Wf) (hS : Src E w) (vk : Nat) (x0 : Int) (off bo : Nat) (buf vb : Int) (hbo : bo ≤ 64) (hb : BR E w off bo buf vb)
    (hv : w.heap[vk]? = some (.cells #[.int .u8 x0] 5 (0, 0))) (n1 : vk ≠ E.b) (n2 : vk ≠ E.rb) (n3 : vk ≠ E.g) (n4 : vk ≠ 2) (hlt : off + (bo + 7) / 8 < E.D.length) :
    Calls Tryz.prog 147 #[.pointer (some ⟨E.b, 0, none⟩), .int .i64 1, .pointer (some ⟨vk, 0, none⟩)] w fun e w' =>
      e = .returned (.bool true) ∧ Keep (fun k => k = E.b ∨ k = vk) w w' ∧ BR E w' ((off + (bo + 7) / 8 + 1 : Nat) : Int) 0 (le64 E.D (off + (bo + 7) / 8 + 1)) ((min 8 (E.D.length - (off + (bo + 7) / 8 + 1)) : Nat) * 8) ∧
      w'.heap[vk]? = some (.cells #[.int .u8 (E.D.getD (off + (bo + 7) / 8) 0)] 5 (0, 0)) := by
  obtain ⟨cs, hcs, hB⟩ := hb
  have hcap := hW.cap
  have hc := blk_cell hcs
  have hf := blk_frozen hcs
  have c0 := hB.c0
  have c2 := hB.c2
  have c3 := hB.c3
  obtain ⟨q, Hq⟩ : ∃ q : Nat, Hid (q = (bo + 7) / 8) := ⟨_, rfl⟩
  have hq : ((bo : Int) + 7) / 8 = q := by rw [Hq.out]; omega
  have hq9 : q ≤ 9 := by rw [Hq.out]; omega
  rw [← Hq.out] at hlt ⊢
  obtain ⟨x, Hx⟩ : ∃ x : Int, Hid (x = E.D.getD (off + q) 0) := ⟨_, rfl⟩
  rw [← Hx.out]
  have HB := Lib.hid (bytesForBits_any (bo : Int) w (by omega) (by omega))
  rw [hq] at HB
  clear hq
  go_enter Tryz.func147, Tryz.ntmps147
  go_wp2_with fail
  refine HB.out.mono ?_
  rintro e w' ⟨rfl, rfl⟩
  go_wp2_with fail
  have hk1 : Keep (fun k => k = E.b ∨ k = vk) w (w.setCell ⟨E.b, 2, none⟩ (.int .i64 ((off : Int) + q))) := (Keep.refl _ w).setCell (.inl (.inl rfl)) _
  have hcs1 := blk_set hcs 2 (.int .i64 ((off : Int) + q))
  have hB1 := hB.set2 ((off : Int) + q)
  have hv1 := blk_far hv (p := ⟨E.b, 2, none⟩) (fun e => n1 e.symm) (.int .i64 ((off : Int) + q))
  have hS1 := hS.keepB hW ((Keep.refl (fun k => k = E.b) w).setCell (p := ⟨E.b, 2, none⟩) (.inl rfl) (.int .i64 ((off : Int) + q)))
  clear hc hf c0 c2 c3 HB hcs hB hv
  generalize w.setCell ⟨E.b, 2, none⟩ (.int .i64 ((off : Int) + q)) = w1 at *
  generalize cs.setIfInBounds 2 (.int .i64 ((off : Int) + q)) = cs1 at *
  have hc := blk_cell hcs1
  have hf := blk_frozen hcs1
  have c0 := hB1.c0
  have c2 := hB1.c2
  have HR := Lib.hid (fun n => readAt_raw E (w1.drewN n) hW (hS1.keepB hW ((Keep.refl _ _).drewN n)) 1 (by omega) (off + q) bo buf vb ((off : Int) + q) ⟨cs1, hcs1, hB1⟩)
  refine wp_region_mid 15 (by kernel_rfl) (by kernel_rfl) rfl ?_
  simp only [List.take_succ_cons, List.take_zero, List.drop_succ_cons, List.drop_zero]
  repeat (go_big_quiet_step (fail))
  refine wpQuiet_nil ?_
  rintro _ ⟨nq, rfl⟩
  go_wp2_with fail
  refine (HR.out nq).mono ?_
  rintro e w2 ⟨⟨err, rfl, herr⟩, hk2, cs2, hcs2, hB2, hraw⟩
  have hmin : min 1 (E.D.length - (off + q)) = 1 := by omega
  rw [hmin]
  obtain rfl : err = .nilIface := by
    rcases herr with ⟨_, h⟩ | ⟨h, _⟩
    · omega
    · exact h
  have hr0 : cs2[5]? = some (.int .u8 x) := by rw [Hx.out]; exact hraw 0 (by omega)
  have hS2 := (hS1.keepB hW ((Keep.refl _ _).drewN nq)).keepB hW hk2
  have hk2' : Keep (fun k => k = E.b ∨ k = vk) w w2 := (hk1.drewN nq).trans (hk2.mono fun k h => .inl h)
  have hv2 := hk2.blk (blk_drewN hv1 nq) n1
  clear hc hf c0 c2 HR hraw herr hmin hk1 hk2 hS1 hcs1 hB1 hv1
  have hc := blk_cell hcs2
  have hf := blk_frozen hcs2
  have hcv := blk_cell hv2
  have hfv := blk_frozen hv2
  have c2 := hB2.c2
  have c3 := hB2.c3
  go_wp2_with fail
  repeat (go_big_quiet_step (fail))
  refine wpQuiet_nil ?_
  rintro _ ⟨nq2, rfl⟩
  go_wp2_with fail
  have hS3 : Src E (((w2.drewN nq2).setCell ⟨vk, 0, none⟩ (.int .u8 x)).setCell ⟨E.b, 2, none⟩ (.int .i64 ((off : Int) + q + 1)) |>.setCell ⟨E.b, 3, none⟩ (.int .u64 0)) :=
    hS2.keep (S := fun k => k = E.b ∨ k = vk) (((((Keep.refl _ w2).drewN nq2).setCell (p := ⟨vk, 0, none⟩) (.inl (.inr rfl)) _).setCell (p := ⟨E.b, 2, none⟩) (.inl (.inl rfl)) _).setCell (p := ⟨E.b, 3, none⟩) (.inl (.inl rfl)) _)
      (fun e => e.elim (fun e => hW.brb e.symm) (fun e => n2 e.symm)) (fun e => e.elim (fun e => hW.bg e.symm) (fun e => n3 e.symm)) (fun e => e.elim (fun e => hW.b2 e.symm) (fun e => n4 e.symm))
  have e1 : ((off + q + 1 : Nat) : Int) = (off : Int) + q + 1 := by omega
  refine (fill_any E _ hW hS3 (off + q + 1) 0 _ _ ⟨_, blk_set (blk_set (blk_far (blk_drewN hcs2 nq2) (p := ⟨vk, 0, none⟩) n1 _) 2 _) 3 _, by rw [e1]; exact (hB2.set2 _).set3 0⟩).mono ?_
  rintro e w4 ⟨rfl, hk4, hB4⟩
  have hv4 := hk4.blk (blk_far (blk_far (blk_set (blk_drewN hv2 nq2) 0 (.int .u8 x)) (p := ⟨E.b, 2, none⟩) (fun e => n1 e.symm) (.int .i64 ((off : Int) + q + 1))) (p := ⟨E.b, 3, none⟩) (fun e => n1 e.symm) (.int .u64 0)) n1
  have hk5 := ((((hk2'.drewN nq2).setCell (p := ⟨vk, 0, none⟩) (.inl (.inr rfl)) (.int .u8 x)).setCell (p := ⟨E.b, 2, none⟩) (.inl (.inl rfl)) (.int .i64 ((off : Int) + q + 1))).setCell (p := ⟨E.b, 3, none⟩) (.inl (.inl rfl)) (.int .u64 0)).trans (hk4.mono fun k h => .inl h)
  clear hc hf hcv hfv c2 c3 hcs2 hB2 hv2 hk2' hk4
  go_wp2_with fail
  go_ret
  exact ⟨rfl, hk5, hB4, hv4⟩

/-- One byte; the place is then behind it. -/
theorem readByte_any (E : Env) (w : World) (hW : E.Wf) (hS : Src E w) (off bo : Nat) (buf vb : Int) (hbo : bo ≤ 64) (hb : BR E w off bo buf vb) (hlt : off + (bo + 7) / 8 < E.D.length) :
    Calls Tryz.prog 130 #[.pointer (some ⟨E.b, 0, none⟩)] w fun e w' =>
      e = .returned (.tuple #[.int .u8 (E.D.getD (off + (bo + 7) / 8) 0), .nilIface]) ∧ Keep (fun k => k = E.b) w w' ∧
      BR E w' ((off + (bo + 7) / 8 + 1 : Nat) : Int) 0 (le64 E.D (off + (bo + 7) / 8 + 1)) ((min 8 (E.D.length - (off + (bo + 7) / 8 + 1)) : Nat) * 8) := by
  have hb' := hb
  obtain ⟨cs, hcs, hB⟩ := hb'
  obtain ⟨i, p, hr⟩ := hS.rd
  have hlb := blk_lt hcs
  have hlr := blk_lt hr
  have hlg := World.block_lt_of_cell? w _ (hS.row 0 (by omega))
  have hl2 := World.block_lt_of_cell? w _ hS.eof
  have HG := Lib.hid (getU8_any E (w.alloc (.cells #[.int .u8 0] 5)) hW (hS.keepB hW ((Keep.refl _ w).alloc _)) w.heap.size 0 off bo buf vb hbo ⟨cs, blk_alloc hcs _, hB⟩ (blk_new w _)
    (by omega) (by omega) (by simp at hlg; omega) (by simp at hl2; omega) hlt)
  clear hlb hlr hlg hl2 hr hcs hB hb hS
  generalize E.D.getD (off + (bo + 7) / 8) 0 = x at *
  go_enter Tryz.func130, Tryz.ntmps130
  go_wp2_with fail
  refine HG.out.mono ?_
  rintro e w1 ⟨rfl, hk, hB1, hv1⟩
  have hcv := blk_cell hv1
  go_wp2_with fail
  go_ret2
  exact ⟨rfl, ((Keep.refl _ w).alloc _).step hk (fun i h => h.imp id (fun h => by omega)), hB1⟩
end Go.Proofs.YtdamippibpbjhaaGreatDoor
