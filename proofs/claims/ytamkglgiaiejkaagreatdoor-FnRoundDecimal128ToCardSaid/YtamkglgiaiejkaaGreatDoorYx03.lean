import Derived.WalkKit
import Derived.WalkSpells
import Derived.WalkLawsBesides
import Derived.Deep.QuietTactic
import Derived.BigQuiet
import Derived.LaidEqlPtr
namespace Go.Proofs.YtamkglgiaiejkaaGreatDoor
open Go.RowKit

/-- w' keeps every block of w but those in S; blocks may have been added. -/
structure Keep (S : Nat → Prop) (w w' : World) : Prop where
  os : w'.os = w.os
  tape : w'.tape = w.tape
  output : w'.output = w.output
  size : w.heap.size ≤ w'.heap.size
  block : ∀ k, k < w.heap.size → ¬ S k → w'.heap[k]? = w.heap[k]?

theorem Keep.refl (S : Nat → Prop) (w : World) : Keep S w w := ⟨rfl, rfl, rfl, Nat.le_refl _, fun _ _ _ => rfl⟩
theorem Keep.mono {S S' : Nat → Prop} {w w' : World} (h : Keep S w w') (hs : ∀ k, S k → S' k) : Keep S' w w' :=
  ⟨h.os, h.tape, h.output, h.size, fun k hk hn => h.block k hk (fun e => hn (hs k e))⟩
theorem Keep.trans {S : Nat → Prop} {a b c : World} (h : Keep S a b) (k : Keep S b c) : Keep S a c :=
  ⟨k.os.trans h.os, k.tape.trans h.tape, k.output.trans h.output, Nat.le_trans h.size k.size,
   fun i hi hn => (k.block i (Nat.lt_of_lt_of_le hi h.size) hn).trans (h.block i hi hn)⟩
/-- The second step may also write blocks that the first has made. -/
theorem Keep.step {S S' : Nat → Prop} {a b c : World} (h : Keep S a b) (k : Keep S' b c) (hs : ∀ i, S' i → S i ∨ a.heap.size ≤ i) : Keep S a c :=
  ⟨k.os.trans h.os, k.tape.trans h.tape, k.output.trans h.output, Nat.le_trans h.size k.size,
   fun i hi hn => (k.block i (Nat.lt_of_lt_of_le hi h.size) (fun e => (hs i e).elim hn (fun e => by omega))).trans (h.block i hi hn)⟩
theorem Keep.drew {S : Nat → Prop} {a b : World} (h : Keep S a b) : Keep S a b.drew := ⟨h.os, h.tape, h.output, h.size, h.block⟩
theorem Keep.drewN {S : Nat → Prop} {a b : World} (h : Keep S a b) (n : Nat) : Keep S a (b.drewN n) := ⟨h.os, h.tape, h.output, h.size, h.block⟩
theorem Keep.alloc {S : Nat → Prop} {a b : World} (h : Keep S a b) (o : Obj) : Keep S a (b.alloc o) :=
  ⟨h.os, h.tape, h.output, by have := h.size; simp; omega,
   fun k hk hn => (Below.heap_alloc _ _ _ (by have := h.size; omega)).trans (h.block k hk hn)⟩
theorem Keep.setCell {S : Nat → Prop} {a b : World} (h : Keep S a b) {p : Addr} (hp : S p.block ∨ a.heap.size ≤ p.block) (u : Value) : Keep S a (b.setCell p u) :=
  ⟨h.os, h.tape, h.output, by have := h.size; simp [World.setCell]; exact this,
   fun k hk hn => (Below.heap_setCell _ _ _ _ (by rintro rfl; rcases hp with hp | hp; exact hn hp; omega)).trans (h.block k hk hn)⟩
theorem Keep.setCells {S : Nat → Prop} {a : World} {g : Nat} : ∀ (vs : List Value) (o : Nat) (b : World), Keep S a b → (S g ∨ a.heap.size ≤ g) → Keep S a (b.setCells g o vs)
  | [], _, _, h, _ => h
  | v :: vs, o, _, h, hp => Keep.setCells vs (o + 1) _ (h.setCell (p := ⟨g, o, none⟩) hp v) hp
theorem Keep.setRow {S : Nat → Prop} {a b : World} (h : Keep S a b) {g : Nat} (hp : S g ∨ a.heap.size ≤ g) (cs : Array Value) : Keep S a (b.setRow g cs) :=
  ⟨h.os, h.tape, h.output, by have := h.size; simp [World.setRow]; exact this,
   fun k hk hn => by
    have : (b.setRow g cs).heap[k]? = b.heap[k]? := by
      simp only [World.setRow, Array.getElem?_modify]
      rw [if_neg]
      rintro rfl
      rcases hp with hp | hp
      · exact hn hp
      · omega
    exact this.trans (h.block k hk hn)⟩
theorem Keep.below {S : Nat → Prop} {w w' : World} (h : Keep S w w') {B : Nat} (hB : B ≤ w.heap.size) (hs : ∀ k, S k → B ≤ k) : Below B w w' :=
  ⟨h.os, h.tape, h.output, h.size, fun k hk => h.block k (by omega) (fun e => by have := hs k e; omega)⟩
theorem Keep.of_below {w w' : World} (h : Below w.heap.size w w') (S : Nat → Prop) : Keep S w w' :=
  ⟨h.os, h.tape, h.output, h.size, fun k hk _ => h.block k hk⟩
theorem Keep.cell {S : Nat → Prop} {w w' : World} (h : Keep S w w') {p : Addr} {v : Value} (hc : w.cell? p = some v) (hp : ¬ S p.block) : w'.cell? p = some v :=
  (World.cell?_of_block (w := w) (h.block p.block (World.block_lt_of_cell? w p hc) hp)).trans hc
theorem Keep.blk {S : Nat → Prop} {w w' : World} (h : Keep S w w') {g : Nat} {o : Obj} (hg : w.heap[g]? = some o) (hs : ¬ S g) : w'.heap[g]? = some o :=
  (h.block g (Array.getElem?_eq_some_iff.1 hg).1 hs).trans hg

/-! blocks known whole -/
theorem blk_lt {w : World} {g : Nat} {o : Obj} (h : w.heap[g]? = some o) : g < w.heap.size := (Array.getElem?_eq_some_iff.1 h).1
theorem blk_cell {w : World} {g : Nat} {t : TypeId} {cs : Array Value} {fr : Nat × Nat} (h : w.heap[g]? = some (.cells cs t fr)) (i : Nat) : w.cell? ⟨g, i, none⟩ = cs[i]? := by
  simp [World.cell?, h]
theorem blk_frozen {w : World} {g : Nat} {t : TypeId} {cs : Array Value} (h : w.heap[g]? = some (.cells cs t (0, 0))) (i : Nat) : w.frozen? ⟨g, i, none⟩ = false := by
  simp [World.frozen?, h]
theorem blk_set {w : World} {g : Nat} {t : TypeId} {cs : Array Value} {fr : Nat × Nat} (h : w.heap[g]? = some (.cells cs t fr)) (i : Nat) (u : Value) :
    (w.setCell ⟨g, i, none⟩ u).heap[g]? = some (.cells (cs.setIfInBounds i u) t fr) := by
  have hlt := blk_lt h
  simp [World.setCell, Array.getElem?_modify, h]
theorem blk_far {w : World} {g : Nat} {o : Obj} (h : w.heap[g]? = some o) {p : Addr} (hp : p.block ≠ g) (u : Value) : (w.setCell p u).heap[g]? = some o :=
  (Below.heap_setCell w p u g (fun e => hp e.symm)).trans h
theorem blk_alloc {w : World} {g : Nat} {o : Obj} (h : w.heap[g]? = some o) (o' : Obj) : (w.alloc o').heap[g]? = some o := (Below.heap_alloc w o' g (blk_lt h)).trans h
theorem blk_drew {w : World} {g : Nat} {o : Obj} (h : w.heap[g]? = some o) : w.drew.heap[g]? = some o := h
theorem blk_drewN {w : World} {g : Nat} {o : Obj} (h : w.heap[g]? = some o) (n : Nat) : (w.drewN n).heap[g]? = some o := h
theorem blk_ne {w : World} {g g' : Nat} {t t' : TypeId} {cs cs' : Array Value} {f f' : Nat × Nat} (h : w.heap[g]? = some (.cells cs t f)) (h' : w.heap[g']? = some (.cells cs' t' f')) (hne : t ≠ t') : g ≠ g' := by
  rintro rfl
  rw [h] at h'
  cases h'
  exact hne rfl
theorem blk_new (w : World) (o : Obj) : (w.alloc o).heap[w.heap.size]? = some o := by
  show (w.heap.push o)[w.heap.size]? = _
  simp
theorem setRow_blk {w : World} {g : Nat} {t : TypeId} {cs cs' : Array Value} {fr : Nat × Nat} (h : w.heap[g]? = some (.cells cs t fr)) : (w.setRow g cs').heap[g]? = some (.cells cs' t fr) :=
  setRow_heap w g cs cs' t fr h
theorem setRow_far {w : World} {g g' : Nat} {o : Obj} (h : w.heap[g]? = some o) (hne : g' ≠ g) (cs : Array Value) : (w.setRow g' cs).heap[g]? = some o := by
  have : (w.setRow g' cs).heap[g]? = w.heap[g]? := by
    simp only [World.setRow, Array.getElem?_modify]
    rw [if_neg hne]
  exact this.trans h

/-! numbers that lie in memory -/
def nums (k : IntKind) (xs : List Int) : List Value := xs.map fun x => .int k x
@[simp] theorem nums_length (k : IntKind) (xs : List Int) : (nums k xs).length = xs.length := by simp [nums]
theorem nums_get {k : IntKind} {xs : List Int} {j : Nat} (h : j < xs.length) : (nums k xs)[j]? = some (.int k (xs.getD j 0)) := by
  simp [nums, h]
/-- The numbers xs lie from cell o of block g on. -/
def Row (w : World) (k : IntKind) (g o : Nat) (xs : List Int) : Prop := ∀ j, j < xs.length → w.cell? ⟨g, o + j, none⟩ = some (.int k (xs.getD j 0))
theorem Row.keep {S : Nat → Prop} {w w' : World} {k : IntKind} {g o : Nat} {xs : List Int} (h : Row w k g o xs) (hk : Keep S w w') (hs : ¬ S g) : Row w' k g o xs :=
  fun j hj => hk.cell (h j hj) hs
theorem Row.drop {w : World} {k : IntKind} {g o : Nat} {xs : List Int} (h : Row w k g o xs) (n : Nat) : Row w k g (o + n) (xs.drop n) := by
  intro j hj
  have hj' : n + j < xs.length := by simp at hj; omega
  have := h (n + j) hj'
  rw [show o + n + j = o + (n + j) by omega, this]
  simp [List.getD_eq_getElem?_getD]
theorem Row.take {w : World} {k : IntKind} {g o : Nat} {xs : List Int} (h : Row w k g o xs) (n : Nat) : Row w k g o (xs.take n) := by
  intro j hj
  have hj' : j < xs.length ∧ j < n := by simp at hj; omega
  rw [h j hj'.1]
  simp [List.getD_eq_getElem?_getD, hj'.2]
theorem Row.src {w : World} {k : IntKind} {g o : Nat} {xs : List Int} (h : Row w k g o xs) : ∀ j v, (nums k xs)[j]? = some v → w.cell? ((⟨g, o, none⟩ : Addr).add j) = some v := by
  intro j v hv
  have hj : j < xs.length := by
    have := (List.getElem?_eq_some_iff.1 hv).1
    simpa using this
  rw [nums_get hj] at hv
  cases hv
  have e : (⟨g, o, none⟩ : Addr).add j = ⟨g, o + j, none⟩ := by unfold Addr.add; split <;> simp_all
  rw [e]
  exact h j hj

end Go.Proofs.YtamkglgiaiejkaaGreatDoor
