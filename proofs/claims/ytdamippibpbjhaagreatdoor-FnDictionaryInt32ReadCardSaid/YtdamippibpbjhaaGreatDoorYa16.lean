import Derived.Test.YtdamippibpbjhaaGreatDoorYa06
import Derived.Test.YtdamippibpbjhaaGreatDoorYa04
import Derived.Test.YtdamippibpbjhaaGreatDoorYa15
import Derived.Deep.CutBlock
import Derived.Test.YtdamippibpbjhaaGreatDoorYa05
/-! A decoder of deltas: its cells. -/
namespace Go.Proofs.YtdamippibpbjhaaGreatDoor
open Go.RowKit

structure DV where
  nv : Int
  data : Value
  tl : Int
  used : Bool
  bd : Value
  bs : Int
  cb : Int
  mpb : Int
  vpm : Int
  cmv : Int
  md : Int
  mi : Int
  mb : Value
  bw : Int
  tv : Int
  lv : Int
  mv : Value
  db : Value
def DV.cells (d : DV) : Array Value :=
  #[.int .i64 d.nv, d.data, .int .i64 d.tl, .iface 94 (.agg #[]), .bool d.used, d.bd, .int .u64 d.bs, .int .u32 d.cb, .int .u64 d.mpb, .int .u32 d.vpm, .int .u32 d.cmv, .int .i64 d.md, .int .u64 d.mi, d.mb, .int .u8 d.bw,
    .int .u64 d.tv, .int .i64 d.lv, d.mv, d.db]

theorem vlq_leb (E : Env) (w : World) (hW : E.Wf) (hS : Src E w) (off bo : Nat) (buf vb : Int) (hbo : bo ≤ 64) (hb : BR E w off bo buf vb) (o : Nat) (ho : off + (bo + 7) / 8 = o) (n : Nat) (v : Int) (h : Leb E.D o n v) :
    Calls Tryz.prog 106 #[.pointer (some ⟨E.b, 0, none⟩)] w fun e w' => e = .returned (.tuple #[.int .u64 v, .bool true]) ∧ Keep (fun k => k = E.b) w w' ∧ BL E w' (o + n + 1) 0 := by
  have := vlq_any E w hW hS off bo buf vb hbo hb o ho n h.n9 h.more h.last h.l9 h.lt
  rwa [h.val] at this
theorem zzvlq_leb (E : Env) (w : World) (hW : E.Wf) (hS : Src E w) (off bo : Nat) (buf vb : Int) (hbo : bo ≤ 64) (hb : BR E w off bo buf vb) (o : Nat) (ho : off + (bo + 7) / 8 = o) (n : Nat) (v : Int) (h : Leb E.D o n v) :
    Calls Tryz.prog 107 #[.pointer (some ⟨E.b, 0, none⟩)] w fun e w' => e = .returned (.tuple #[.int .i64 (unzz v), .bool true]) ∧ Keep (fun k => k = E.b) w w' ∧ BL E w' (o + n + 1) 0 := by
  have := zzvlq_any E w hW hS off bo buf vb hbo hb o ho n h.n9 h.more h.last h.l9 h.lt (by rw [h.val]; exact h.v0) (by rw [h.val]; exact h.v1)
  rwa [h.val] at this

@[go_sem] theorem assert_64 (w : World) : (Instr.typeAssert (.iface 2 (.int .i64 0)) 20 21 true).run Tryz.prog w = .ok (.tuple #[.int .i32 0, .bool false]) w := by kernel_rfl
@[go_sem] theorem assert_32 (w : World) : (Instr.typeAssert (.iface 21 (.int .i32 0)) 20 21 true).run Tryz.prog w = .ok (.tuple #[.int .i32 0, .bool true]) w := by kernel_rfl
set_option maxRecDepth 100000 in
set_option maxHeartbeats 2000000 in
theorem isI32_64 (w : World) : Calls Tryz.prog 108 #[] w fun e w' => e = .returned (.bool false) ∧ w' = w := by
  go_enter Tryz.func108, Tryz.ntmps108
  go_wp2_with fail
  go_ret
  exact ⟨rfl, rfl⟩
set_option maxRecDepth 100000 in
set_option maxHeartbeats 2000000 in
theorem isI32_32 (w : World) : Calls Tryz.prog 112 #[] w fun e w' => e = .returned (.bool true) ∧ w' = w := by
  go_enter Tryz.func112, Tryz.ntmps112
  go_wp2_with fail
  go_ret
  exact ⟨rfl, rfl⟩

set_option maxRecDepth 100000 in
set_option maxHeartbeats 2000000 in
/-- The decoder's own part takes its bytes. -/
theorem setBase_any (b n : Nat) (p : Option Addr) (l c : Nat) (w : World) (d : DV) (t : TypeId) (hb : w.heap[b]? = some (.cells d.cells t (0, 0))) : Calls Tryz.prog 41 #[.pointer (some ⟨b, 0, none⟩), .int .i64 n, .slice p l c] w fun e w' =>
    e = .returned .nilIface ∧ Keep (fun k => k = b) w w' ∧ w'.heap[b]? = some (.cells { d with nv := n, data := .slice p l c }.cells t (0, 0)) := by
  have hc := blk_cell hb
  have hf := blk_frozen hb
  unfold DV.cells at hc
  go_enter Tryz.func41, Tryz.ntmps41
  go_wp2_with fail
  go_ret
  exact ⟨rfl, ((Keep.refl (fun k => k = b) w).setCell (p := ⟨b, 1, none⟩) (.inl rfl) _).setCell (p := ⟨b, 0, none⟩) (.inl rfl) _, blk_set (blk_set hb 1 _) 0 _⟩
end Go.Proofs.YtdamippibpbjhaaGreatDoor

/-! A decoder of deltas with its readers: what holds from step to step. -/
namespace Go.Proofs.YtdamippibpbjhaaGreatDoor
open Go.RowKit

/-- The bit reader stands at byte pos; L: its buffer is what lies there. -/
def BPos (E : Env) (wr : World) (L : Bool) (pos : Nat) : Prop :=
  ∃ (off bo : Nat) (buf vb : Int), BR E wr off bo buf vb ∧ bo ≤ 64 ∧ off + (bo + 7) / 8 = pos ∧ (L = true → BL E wr off bo ∧ 8 * off + bo = 8 * pos)
theorem BPos.of {E : Env} {w : World} {L : Bool} {pos : Nat} (h : BL E w pos 0) : BPos E w L pos := ⟨pos, 0, _, _, h, by omega, by omega, fun _ => ⟨h, by omega⟩⟩
theorem BPos.keep {E : Env} {S : Nat → Prop} {w w' : World} {L : Bool} {pos : Nat} (h : BPos E w L pos) (hk : Keep S w w') (hs : ¬ S E.b) : BPos E w' L pos := by
  obtain ⟨off, bo, buf, vb, h1, h2, h3, h4⟩ := h
  exact ⟨off, bo, buf, vb, h1.keep hk hs, h2, h3, fun e => ⟨(h4 e).1.keep hk hs, (h4 e).2⟩⟩

/-- The decoder's block, the readers, the buffer of widths. -/
structure SD (E : Env) (T : TypeId) (db mb : Nat) (d : DV) (mc : Array Value) (L : Bool) (pos : Nat) (wr : World) : Prop where
  src : Src E wr
  pos : BPos E wr L pos
  dec : wr.heap[db]? = some (.cells d.cells T (0, 0))
  buf : wr.heap[mb]? = some (.cells mc 251 (0, 0))

structure Apart (E : Env) (db mb : Nat) : Prop where
  db_b : db ≠ E.b
  db_rb : db ≠ E.rb
  db_g : db ≠ E.g
  db_2 : db ≠ 2
  db_mb : db ≠ mb
  mb_b : mb ≠ E.b
  mb_rb : mb ≠ E.rb
  mb_g : mb ≠ E.g
  mb_2 : mb ≠ 2

theorem SD.read {E : Env} {T : TypeId} {db mb : Nat} {d : DV} {mc : Array Value} {L : Bool} {pos : Nat} {w w' : World} (hW : E.Wf) (hA : Apart E db mb) (h : SD E T db mb d mc L pos w) (hk : Keep (fun k => k = E.b) w w') {L' : Bool} {pos' : Nat}
    (hp : BPos E w' L' pos') : SD E T db mb d mc L' pos' w' :=
  ⟨h.src.keepB hW hk, hp, hk.blk h.dec hA.db_b, hk.blk h.buf hA.mb_b⟩
theorem SD.set {E : Env} {T : TypeId} {db mb : Nat} {d d' : DV} {mc : Array Value} {L : Bool} {pos : Nat} {w : World} (hA : Apart E db mb) (h : SD E T db mb d mc L pos w) (i : Nat) (v : Value) (hd : d.cells.setIfInBounds i v = d'.cells) :
    SD E T db mb d' mc L pos (w.setCell ⟨db, i, none⟩ v) := by
  have hk : Keep (fun k => k = db) w (w.setCell ⟨db, i, none⟩ v) := (Keep.refl (fun k => k = db) w).setCell (p := ⟨db, i, none⟩) (.inl rfl) v
  exact ⟨h.src.keep hk (fun e => hA.db_rb e.symm) (fun e => hA.db_g e.symm) (fun e => hA.db_2 e.symm), h.pos.keep hk (fun e => hA.db_b e.symm), by rw [← hd]; exact blk_set h.dec i v, hk.blk h.buf (fun e => hA.db_mb e.symm)⟩
theorem SD.drewN {E : Env} {T : TypeId} {db mb : Nat} {d : DV} {mc : Array Value} {L : Bool} {pos : Nat} {w : World} (h : SD E T db mb d mc L pos w) (n : Nat) : SD E T db mb d mc L pos (w.drewN n) := by
  have hk : Keep (fun _ => False) w (w.drewN n) := (Keep.refl _ w).drewN n
  exact ⟨h.src.keep hk (fun h => h) (fun h => h) (fun h => h), h.pos.keep hk (fun h => h), h.dec, h.buf⟩

theorem SD.vlq {E : Env} {T : TypeId} {db mb : Nat} {d : DV} {mc : Array Value} {L : Bool} {pos : Nat} {w : World} (hW : E.Wf) (hA : Apart E db mb) (h : SD E T db mb d mc L pos w) {n : Nat} {v : Int} (hl : Leb E.D pos n v) :
    Calls Tryz.prog 106 #[.pointer (some ⟨E.b, 0, none⟩)] w fun e w' => e = .returned (.tuple #[.int .u64 v, .bool true]) ∧ Keep (fun k => k = E.b) w w' ∧ SD E T db mb d mc true (pos + n + 1) w' := by
  obtain ⟨off, bo, buf, vb, h1, h2, h3, h4⟩ := h.pos
  exact (vlq_leb E w hW h.src off bo buf vb h2 h1 pos h3 n v hl).mono fun e w' ⟨he, hk, hb⟩ => ⟨he, hk, h.read hW hA hk (BPos.of hb)⟩
theorem SD.zzvlq {E : Env} {T : TypeId} {db mb : Nat} {d : DV} {mc : Array Value} {L : Bool} {pos : Nat} {w : World} (hW : E.Wf) (hA : Apart E db mb) (h : SD E T db mb d mc L pos w) {n : Nat} {v : Int} (hl : Leb E.D pos n v) :
    Calls Tryz.prog 107 #[.pointer (some ⟨E.b, 0, none⟩)] w fun e w' => e = .returned (.tuple #[.int .i64 (unzz v), .bool true]) ∧ Keep (fun k => k = E.b) w w' ∧ SD E T db mb d mc true (pos + n + 1) w' := by
  obtain ⟨off, bo, buf, vb, h1, h2, h3, h4⟩ := h.pos
  exact (zzvlq_leb E w hW h.src off bo buf vb h2 h1 pos h3 n v hl).mono fun e w' ⟨he, hk, hb⟩ => ⟨he, hk, h.read hW hA hk (BPos.of hb)⟩

def DV.fresh : DV := ⟨0, .slice none 0 0, 0, false, .pointer none, 0, 0, 0, 0, 0, 0, 0, .pointer none, 0, 0, 0, .slice none 0 0, .slice none 0 0⟩

end Go.Proofs.YtdamippibpbjhaaGreatDoor

/-! The buffer of widths, resized. -/
namespace Go.Proofs.YtdamippibpbjhaaGreatDoor
open Go.RowKit

/-- Where the widths lie: k of them are there. -/
def WBs (E : Env) (db mb m : Nat) (mc : Array Value) (dd p k : Nat) (w : World) : Prop :=
  mc = mbCells 1 (.slice (some ⟨dd, 0, none⟩) 64 64) m ∧ (∃ cs, w.heap[dd]? = some (.cells cs 5 (0, 0)) ∧ cs.size = 64 ∧ ∀ j, j < k → cs[j]? = some (.int .u8 (E.D.getD (p + j) 0))) ∧
    dd ≠ E.b ∧ dd ≠ E.rb ∧ dd ≠ E.g ∧ dd ≠ 2 ∧ dd ≠ db ∧ dd ≠ mb
/-- The buffer of widths is fresh, or as an earlier block left it. -/
def WB (E : Env) (db mb m : Nat) (mc : Array Value) (w : World) : Prop := mc = mbCells 1 (.slice none 0 0) 0 ∨ ∃ dd, WBs E db mb m mc dd 0 0 w
def WOwn (mc : Array Value) (k : Nat) : Prop := ∃ m : Int, mc = mbCells 1 (.slice (some ⟨k, 0, none⟩) 64 64) m

theorem made_size (z : Value) (n : Nat) : (madeCells #[z] n).size = n := size_madeCells _ _

theorem SD.resize {E : Env} {T : TypeId} {db mb : Nat} {d : DV} {mc : Array Value} {pos : Nat} {w : World} (hA : Apart E db mb) (h : SD E T db mb d mc true pos w) (m : Nat) (h0 : 1 ≤ m) (h1 : m ≤ 32) (hD0 : 0 < E.D.length) (hB : WB E db mb m mc w) :
    Calls Tryz.prog 129 #[.pointer (some ⟨mb, 0, none⟩), .int .i64 m] w fun e w' => e = .returned (.tuple #[]) ∧ Keep (fun k => k = mb) w w' ∧
      ∃ mc' dd, SD E T db mb d mc' true pos w' ∧ WBs E db mb m mc' dd 0 0 w' ∧ (w.heap.size ≤ dd ∨ WOwn mc dd) := by
  have hrd : E.rb < w.heap.size := by obtain ⟨i, p, hr⟩ := h.src.rd; exact blk_lt hr
  have hb : E.b < w.heap.size := by obtain ⟨_, _, _, _, ⟨c, hc, _⟩, _⟩ := h.pos; exact blk_lt hc
  have h2 : 2 < w.heap.size := World.block_lt_of_cell? w _ h.src.eof
  have hdb := blk_lt h.dec
  have hmb := blk_lt h.buf
  have hg : E.g < w.heap.size := World.block_lt_of_cell? w _ (h.src.row 0 hD0)
  rcases hB with rfl | ⟨dd, rfl, hcs, n1, n2, n3, n4, n5, n6⟩
  · refine (resize_fresh mb m w h0 (by omega) h.buf).mono ?_
    rintro e w' ⟨rfl, hk, dd, hdd, hcs, hm⟩
    refine ⟨rfl, hk, _, dd, ⟨h.src.keep hk (fun e => hA.mb_rb e.symm) (fun e => hA.mb_g e.symm) (fun e => hA.mb_2 e.symm), h.pos.keep hk (fun e => hA.mb_b e.symm), hk.blk h.dec hA.db_mb, hm⟩,
      ⟨rfl, ⟨_, hcs, made_size _ _, fun j hj => absurd hj (by omega)⟩, by omega, by omega, by omega, by omega, by omega, by omega⟩, .inl hdd⟩
  · refine (resize_again mb dd m w h0 (by omega) h.buf).mono ?_
    rintro e w' ⟨rfl, hk, hm⟩
    obtain ⟨cs, hcs, hsz, hin⟩ := hcs
    exact ⟨rfl, hk, _, dd, ⟨h.src.keep hk (fun e => hA.mb_rb e.symm) (fun e => hA.mb_g e.symm) (fun e => hA.mb_2 e.symm), h.pos.keep hk (fun e => hA.mb_b e.symm), hk.blk h.dec hA.db_mb, hm⟩,
      ⟨rfl, ⟨cs, hk.blk hcs n6, hsz, hin⟩, n1, n2, n3, n4, n5, n6⟩, .inr ⟨_, rfl⟩⟩
theorem WBs.keep {E : Env} {db mb m : Nat} {mc : Array Value} {dd p k : Nat} {S : Nat → Prop} {w w' : World} (h : WBs E db mb m mc dd p k w) (hk : Keep S w w') (hs : ¬ S dd) : WBs E db mb m mc dd p k w' := by
  obtain ⟨h1, ⟨cs, h2, h3⟩, h4⟩ := h
  exact ⟨h1, ⟨cs, hk.blk h2 hs, h3⟩, h4⟩
theorem WB.keep {E : Env} {db mb m : Nat} {mc : Array Value} {w w' : World} (h : WB E db mb m mc w) (hk : Keep (fun k => k = E.b ∨ k = db) w w') : WB E db mb m mc w' := by
  rcases h with h | ⟨dd, h⟩
  · exact .inl h
  · have h' := h
    obtain ⟨_, _, n1, n2, n3, n4, n5, n6⟩ := h'
    exact .inr ⟨dd, h.keep hk (by rintro (h | h); exact n1 h; exact n5 h)⟩
theorem WBs.start {E : Env} {db mb m : Nat} {mc : Array Value} {dd : Nat} {w : World} (h : WBs E db mb m mc dd 0 0 w) (p : Nat) : WBs E db mb m mc dd p 0 w := by
  obtain ⟨h1, ⟨cs, h2, h3, h4⟩, h5⟩ := h
  exact ⟨h1, ⟨cs, h2, h3, fun j hj => absurd hj (by omega)⟩, h5⟩
theorem SD.far {E : Env} {T : TypeId} {db mb : Nat} {d : DV} {mc : Array Value} {L : Bool} {pos : Nat} {w : World} (h : SD E T db mb d mc L pos w) {x : Nat} (hx : x ≠ E.b ∧ x ≠ E.rb ∧ x ≠ E.g ∧ x ≠ 2 ∧ x ≠ db ∧ x ≠ mb) {w' : World} (hk : Keep (fun k => k = x) w w') :
    SD E T db mb d mc L pos w' := by
  obtain ⟨n1, n2, n3, n4, n5, n6⟩ := hx
  exact ⟨h.src.keep hk (fun e => n2 e.symm) (fun e => n3 e.symm) (fun e => n4 e.symm), h.pos.keep hk (fun e => n1 e.symm), hk.blk h.dec (fun e => n5 e.symm), hk.blk h.buf (fun e => n6 e.symm)⟩
/-- A byte off the reader. -/
theorem SD.byte {E : Env} {T : TypeId} {db mb : Nat} {d : DV} {mc : Array Value} {L : Bool} {pos : Nat} {w : World} (hW : E.Wf) (hA : Apart E db mb) (h : SD E T db mb d mc L pos w) (hlt : pos < E.D.length) :
    Calls Tryz.prog 130 #[.pointer (some ⟨E.b, 0, none⟩)] w fun e w' => e = .returned (.tuple #[.int .u8 (E.D.getD pos 0), .nilIface]) ∧ Keep (fun k => k = E.b) w w' ∧ SD E T db mb d mc true (pos + 1) w' := by
  obtain ⟨off, bo, buf, vb, h1, h2, h3, h4⟩ := h.pos
  have := readByte_any E w hW h.src off bo buf vb h2 h1 (by rw [h3]; exact hlt)
  rw [h3] at this
  exact this.mono fun e w' ⟨he, hk, hb⟩ => ⟨he, hk, h.read hW hA hk (BPos.of (BL.of hW hb))⟩
end Go.Proofs.YtdamippibpbjhaaGreatDoor

/-! A block of operations that only read, given by their numbers, where others may have come up before. -/
namespace Go.Proofs.YtdamippibpbjhaaGreatDoor
open Go
section
variable {P : Program} {md : Region.Mode} {ops : Array Oper} {C : World → Prop} {Q : Exit → Act → World → Prop}

theorem tail_waitsI {n i t : Nat} {listed : Array Bool} (hw : ∀ t, n ≤ t → t < ops.size → reachB md ops 30 t i = true) (inv : Inv md ops n listed) (hun : listed.getD i true = false) (ht : n ≤ t) :
    t ∉ Region.ready md ops listed := by
  intro hr
  obtain ⟨_, ot, hot, hall⟩ := mem_ready.1 hr
  have htl : t < ops.size := (Array.getElem?_eq_some_iff.1 hot).1
  have h5 := reach_listed inv.closed 30 t i (hw t ht htl) (fun o ho e he hb => by
    obtain rfl : ot = o := Option.some.inj (hot.symm.trans ho)
    exact hall e he hb)
  rw [getD_both' hun] at h5
  cases h5

theorem blk_firstI {L : Array Bool → Act → Prop} {n i : Nat} {oi : Oper} {v : Value} (hi : ops[i]? = some oi) (hsel : Region.noSelect ops = true) (hw : ∀ t, n ≤ t → t < ops.size → reachB md ops 30 t i = true)
    (hLs : ∀ listed a, L listed a → ∀ j ∈ Region.ready md ops listed, n ≤ j) :
    ∀ (f : Nat) (listed : Array Bool) (a : Act), Inv md ops n listed →
      (∀ j oj, ops[j]? = some oj → j ≠ i → listed.getD j true = false → (∀ e ∈ oj.after, Region.binds md e = true → e.on ≠ i) → oi.apart ops oj = true) →
      i ∈ Region.ready md ops listed → YieldsIn P ops C oi v a →
      blk P md ops C L f (listed.setIfInBounds i true) (a.put oi.dst v) → blk P md ops C L (f + 1) listed a := by
  intro f
  induction f with
  | zero =>
    intro listed a inv _ hr hy H
    refine ⟨fun h => (by rw [h] at hr; cases hr), fun j hj => ?_⟩
    by_cases hji : j = i
    · subst hji; exact hy.qOp hi H
    · exact absurd hj (tail_waitsI hw inv (mem_ready.1 hr).1 (hLs _ _ H j (ready_mono hj hji)))
  | succ f ih =>
    intro listed a inv hfree hr hy H
    refine ⟨fun h => (by rw [h] at hr; cases hr), fun j hj => ?_⟩
    by_cases hji : j = i
    · subst hji; exact hy.qOp hi H
    · have hjn : j < n := by
        rcases Nat.lt_or_ge j n with h | h
        · exact h
        · exact absurd hj (tail_waitsI hw inv (mem_ready.1 hr).1 h)
      have h1 := H.2 j (ready_mono hj hji)
      obtain ⟨hjun, oj, hoj, hall⟩ := mem_ready.1 hj
      have hnot : ∀ e ∈ oj.after, Region.binds md e = true → e.on ≠ i := fun e he hb heq => by
        have h1 := hall e he hb
        rw [heq, getD_both' (mem_ready.1 hr).1] at h1
        cases h1
      have h2 := qOp_put hoj (hfree j oj hoj hji hjun hnot) (fun cs b => Region.noSelect_spec hsel i oi cs b hi) (fun cs b => Region.noSelect_spec hsel j oj cs b hoj) hy h1
      have hfree' : ∀ k ok, ops[k]? = some ok → k ≠ i → (listed.setIfInBounds j true).getD k true = false →
          (∀ e ∈ ok.after, Region.binds md e = true → e.on ≠ i) → oi.apart ops ok = true := fun k ok hk hki hun hno => by
        refine hfree k ok hk hki ?_ hno
        by_cases hjk : j = k
        · subst hjk; exact hjun
        · rw [getD_set_ne true hjk] at hun; exact hun
      refine qOp_mono (fun a' h3 => ih (listed.setIfInBounds j true) a' (inv.set hj hjn) hfree' (ready_mono hr (Ne.symm hji)) h3.1 ?_) h2
      rw [Array.setIfInBounds_comm _ _ hji]
      exact h3.2

def fillI : List Nat → Array Bool → Array Bool
  | [], l => l
  | i :: is, l => fillI is (l.setIfInBounds i true)
def lexRunI (md : Region.Mode) (ops : Array Oper) : List Nat → Array Bool → Bool
  | [], _ => true
  | i :: is, listed => (Region.ready md ops listed).contains i && Region.free md ops listed i && lexRunI md ops is (listed.setIfInBounds i true)
def waitsI (md : Region.Mode) (ops : Array Oper) (is : List Nat) (n : Nat) : Bool :=
  is.all fun i => decide (i < n) && (List.range ops.size).all fun t => decide (t < n) || reachB md ops 30 t i
def invB (md : Region.Mode) (ops : Array Oper) (n : Nat) (listed : Array Bool) : Bool :=
  decide (listed.size = ops.size) && ((List.range ops.size).all fun j => match ops[j]? with
    | some o => !listed.getD j false || o.after.all fun e => !Region.binds md e || listed.getD e.on false
    | none => true) && (List.range ops.size).all fun t => decide (t < n) || !listed.getD t true

theorem inv_of {n : Nat} {listed : Array Bool} (h : invB md ops n listed = true) : Inv md ops n listed := by
  simp only [invB, Bool.and_eq_true, decide_eq_true_eq] at h
  obtain ⟨⟨h1, h2⟩, h3⟩ := h
  refine ⟨h1, fun j oj hj hl e he hb => ?_, fun t ht ht' => ?_⟩
  · have hjl : j < ops.size := (Array.getElem?_eq_some_iff.1 hj).1
    have h4 := List.all_eq_true.1 h2 j (List.mem_range.2 hjl)
    simp only [hj, hl, Bool.not_true, Bool.false_or] at h4
    have h5 := Array.all_eq_true_iff_forall_mem.1 h4 e he
    simpa [hb] using h5
  · have h4 := List.all_eq_true.1 h3 t (List.mem_range.2 ht')
    simp only [Bool.or_eq_true, decide_eq_true_eq] at h4
    simpa using h4.resolve_left (by omega)

theorem blk_lexI {Lq : Act → Prop} {n : Nat} {F : Array Bool} (hsel : Region.noSelect ops = true) (hF : ∀ j ∈ Region.ready md ops F, n ≤ j) :
    ∀ (is : List Nat) (l : List Oper) (listed : Array Bool) (a : Act), is.map (ops[·]?) = l.map some → waitsI md ops is n = true → Inv md ops n listed → fillI is listed = F →
      lexRunI md ops is listed = true → wpQuiet P ops C Lq l a → blk P md ops C (fun listed' a' => listed' = F ∧ Lq a') is.length listed a
  | [], [], _, _, _, _, _, hf, _, h => ⟨hf, h⟩
  | [], _ :: _, _, _, hl, _, _, _, _, _ => by simp at hl
  | _ :: _, [], _, _, hl, _, _, _, _, _ => by simp at hl
  | i :: is, o :: l, listed, a, hl, hw, inv, hf, hB, h => by
    simp only [List.map_cons, List.cons.injEq] at hl
    simp only [waitsI, List.all_cons, Bool.and_eq_true, decide_eq_true_eq] at hw
    simp only [lexRunI, Bool.and_eq_true] at hB
    obtain ⟨⟨hr, hfr⟩, hB'⟩ := hB
    have hr' : i ∈ Region.ready md ops listed := by simpa using hr
    have hst : qOp P ops C i (wpQuiet P ops C Lq l) a := by unfold qOp; simp only [hl.1]; exact h
    obtain ⟨v, hy, hK⟩ := yieldsIn_of_qOp hl.1 hst
    have hwi : ∀ t, n ≤ t → t < ops.size → reachB md ops 30 t i = true := fun t ht htl => by
      have := List.all_eq_true.1 hw.1.2 t (List.mem_range.2 htl)
      simp only [Bool.or_eq_true, decide_eq_true_eq] at this
      exact this.resolve_left (by omega)
    exact blk_firstI (L := fun listed' a' => listed' = F ∧ Lq a') hl.1 hsel hwi (fun listed' a' hL j hj => hF j (by obtain ⟨rfl, _⟩ := hL; exact hj)) is.length listed a inv (Region.free_spec hl.1 hfr) hr' hy
      (blk_lexI hsel hF is l _ _ hl.2 hw.2 (inv.set hr' hw.1.1) hf hB' hK)

def quietB (md : Region.Mode) (ops : Array Oper) (is : List Nat) (n : Nat) (listed : Array Bool) : Bool :=
  Region.noSelect ops && waitsI md ops is n && invB md ops n listed && lexRunI md ops is listed && (Region.ready md ops (fillI is listed)).all fun j => decide (n ≤ j)

theorem wpAny_quiets {l : List Oper} (is : List Nat) (ls : List Oper) (n g : Nat) {f : Nat} {listed : Array Bool} {a : Act} {w : World} (hB : quietB md l.toArray is n listed = true) (hls : is.map (l.toArray[·]?) = ls.map some)
    (hf : f = is.length + g) (hC : C w) (h : wpQuiet P l.toArray C (fun a' => ∀ w', C w' → wpAny P md l.toArray Q g (fillI is listed) a' w') ls a) : wpAny P md l.toArray Q f listed a w := by
  simp only [quietB, Bool.and_eq_true] at hB
  obtain ⟨⟨⟨⟨h1, h2⟩, h3⟩, h4⟩, h5⟩ := hB
  have hb := blk_lexI (P := P) (C := C) (Lq := fun a' => ∀ w', C w' → wpAny P md l.toArray Q g (fillI is listed) a' w') h1 (fun j hj => by simpa using List.all_eq_true.1 h5 j hj) is ls listed a hls h2 (inv_of h3) rfl h4 h
  subst hf
  exact wpAny_of_blk (fun listed' a' w' hw' hL => by obtain ⟨rfl, h6⟩ := hL; exact h6 w' hw') _ _ _ _ hC hb
/-- Whichever of those that may come up. -/
theorem wpAny_each {l : List Oper} (is : List Nat) {listed : Array Bool} {g : Nat} {a : Act} {w : World} (hB : Region.ready md l.toArray listed = is) (hne : is ≠ [])
    (h : ∀ i ∈ is, ∃ o, l[i]? = some o ∧ wpList P l.toArray (Exit.then (wpAny P md l.toArray Q g (listed.setIfInBounds i true)) Q) [o] a w) : wpAny P md l.toArray Q (g + 1) listed a w := by
  refine ⟨fun h0 => (by rw [hB] at h0; exact absurd h0 hne), fun i hi => ?_⟩
  rw [hB] at hi
  obtain ⟨o, ho, h⟩ := h i hi
  have ho' : l.toArray[i]? = some o := by simpa using ho
  unfold wpOp
  simp only [ho']
  simp only [wpList] at h
  have key : ∀ K K' : Act → World → Prop, (∀ a w, K a w → K' a w) → o.wp P a w K (Exit.then (wpAny P md l.toArray Q g (listed.setIfInBounds i true)) Q) → o.wp P a w K' Q := by
    intro K K' hK h1
    unfold Oper.wp at *
    generalize (execOp a.eval o).run P w = r at *
    cases r with
    | ok x w' =>
      cases x <;> simp only [Oper.upon] at h1 ⊢ <;>
        first
          | exact hK _ _ h1
          | exact Calls.mono h1 (fun e w'' he => by cases e <;> first | exact hK _ _ he | exact he)
          | exact Rows.mono h1 (fun _ _ he => hK _ _ he)
    | halt x w' => cases x <;> simp only [Oper.upon] at h1 ⊢ <;> exact h1
  split
  · rename_i hw
    rw [if_pos hw] at h
    rcases h with h | ⟨h1, h2⟩
    · exact .inl (key _ _ (fun a' w' h' => h') h)
    · exact .inr ⟨h1, h2⟩
  · rename_i hw
    rw [if_neg hw] at h
    exact h
theorem wpAny_two {l : List Oper} {o1 o2 : Oper} (i1 i2 : Nat) {listed : Array Bool} {g : Nat} {a : Act} {w : World} (hB : Region.ready md l.toArray listed = [i1, i2]) (ho1 : l[i1]? = some o1) (ho2 : l[i2]? = some o2)
    (h1 : wpList P l.toArray (Exit.then (wpAny P md l.toArray Q g (listed.setIfInBounds i1 true)) Q) [o1] a w) (h2 : wpList P l.toArray (Exit.then (wpAny P md l.toArray Q g (listed.setIfInBounds i2 true)) Q) [o2] a w) :
    wpAny P md l.toArray Q (g + 1) listed a w :=
  wpAny_each [i1, i2] hB (by simp) fun i hi => by
    simp only [List.mem_cons, List.not_mem_nil, or_false] at hi
    rcases hi with rfl | rfl
    · exact ⟨_, ho1, h1⟩
    · exact ⟨_, ho2, h2⟩
theorem picks {l : List Oper} : ∀ (is : List Nat), (is.all fun i => decide (i < l.length)) = true → is.map (l.toArray[·]?) = (is.filterMap (l[·]?)).map some
  | [], _ => rfl
  | i :: is, h => by
    simp only [List.all_cons, Bool.and_eq_true, decide_eq_true_eq] at h
    have e : l[i]? = some (l[i]'h.1) := by simp [h.1]
    rw [List.map_cons, List.filterMap_cons, e, picks is h.2]
    simp [h.1]
theorem wpAny_lex {l : List Oper} (is : List Nat) (n g : Nat) {f : Nat} {listed : Array Bool} {a : Act} {w : World} (hB : (quietB md l.toArray is n listed && is.all fun i => decide (i < l.length)) = true)
    (hf : f = is.length + g) (hC : C w) (h : wpQuiet P l.toArray C (fun a' => ∀ w', C w' → wpAny P md l.toArray Q g (fillI is listed) a' w') (is.filterMap (l[·]?)) a) : wpAny P md l.toArray Q f listed a w := by
  simp only [Bool.and_eq_true] at hB
  exact wpAny_quiets is _ n g hB.1 (picks is hB.2) hf hC h
end
end Go.Proofs.YtdamippibpbjhaaGreatDoor
