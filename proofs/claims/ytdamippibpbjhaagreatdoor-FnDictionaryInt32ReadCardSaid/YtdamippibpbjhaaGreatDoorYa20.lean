import Derived.Test.YtdamippibpbjhaaGreatDoorYa18
import Derived.Test.YtdamippibpbjhaaGreatDoorYa17
import Derived.Test.YtdamippibpbjhaaGreatDoorYa19
/-! A decoder of deltas over bytes that are laid so: where it stands. -/
namespace Go.Proofs.YtdamippibpbjhaaGreatDoor
open Go.RowKit

/-- What does not change. -/
structure Dc (E : Env) (mb : Nat) (y : Way) (d : DV) : Prop where
  bd : d.bd = .pointer (some ⟨E.b, 0, none⟩)
  mbp : d.mb = .pointer (some ⟨mb, 0, none⟩)
  bs : d.bs = y.S
  mpb : d.mpb = y.M
  vpm : d.vpm = y.n

/-- In block k; part j is next. -/
structure S1 (E : Env) (T et : TypeId) (db mb : Nat) {y : Way} {l : List Int} (Y : Lay E.D y l) (O : Nat → Prop) (k j : Nat) (d : DV) (mc : Array Value) (dd : Nat) (w : World) : Prop where
  dc : Dc E mb y d
  sd : SD E T db mb d mc true (Y.bp k j) w
  wb : WBs E db mb y.M mc dd (Y.P k + Y.nz k + 1) y.M w
  md : d.md = Y.least k
  mi : d.mi = j
  lv : d.lv = Y.acc (k * y.S + j * y.n)
  cb : d.cb = y.S - j * y.n
  cmv : d.cmv = 0
  mv : MvIn E et db mb dd y.n d.mv w
  db' : DbIn E db mb dd y.n d.db w
  odd : O dd
  omv : ∀ b, MOwn d.mv b → O b
  odb : ∀ b, MOwn d.db b → O b

/-- In block k; part j is unpacked, i numbers of it are taken. -/
structure S2 (E : Env) (T et : TypeId) (enc : Int → Value) (db mb : Nat) {y : Way} {l : List Int} (Y : Lay E.D y l) (O : Nat → Prop) (k j i : Nat) (d : DV) (mc : Array Value) (dd x : Nat) (w : World) : Prop where
  dc : Dc E mb y d
  sd : SD E T db mb d mc true (Y.bp k (j + 1)) w
  wb : WBs E db mb y.M mc dd (Y.P k + Y.nz k + 1) y.M w
  md : d.md = Y.least k
  mi : d.mi = (j + 1 : Nat)
  lv : d.lv = Y.acc (k * y.S + j * y.n + y.n)
  cb : d.cb = y.S - (j * y.n + i)
  cmv : d.cmv = y.n - i
  mv : d.mv = .slice (some ⟨x, 0, none⟩) y.n y.n
  row : ∃ cs, w.heap[x]? = some (.cells cs et (0, 0)) ∧ cs.size = y.n ∧ ∀ c, c < y.n → cs[c]? = some (enc (Y.acc (k * y.S + j * y.n + (c + 1))))
  far : FarOf E db mb dd x
  db' : DbIn E db mb dd y.n d.db w
  odd : O dd
  ox : O x
  odb : ∀ b, MOwn d.db b → O b

/-- Nothing is unpacked yet. -/
structure S0 (E : Env) (T : TypeId) (db mb : Nat) {y : Way} {l : List Int} (Y : Lay E.D y l) (d : DV) (mc : Array Value) (w : World) : Prop where
  dc : Dc E mb y d
  sd : SD E T db mb d mc true (Y.P 0) w
  wb : mc = mbCells 1 (.slice none 0 0) 0
  lv : d.lv = Y.acc 0
  cb : d.cb = 0
  cmv : d.cmv = 0
  mv : d.mv = .slice none 0 0
  db' : d.db = .slice none 0 0

/-- The decoder's own blocks. -/
structure Oc (E : Env) (db mb : Nat) (O : Nat → Prop) (w : World) : Prop where
  ob : O E.b
  orb : O E.rb
  od : O db
  om : O mb
  og : ¬ O E.g
  o2 : ¬ O 2
  lt : ∀ b, O b → b < w.heap.size
theorem Oc.grow {E : Env} {db mb : Nat} {O S : Nat → Prop} {w w' : World} (h : Oc E db mb O w) (hk : Keep S w w') (hg : E.g < w.heap.size) (h2 : 2 < w.heap.size) : Oc E db mb (fun b => O b ∨ w.heap.size ≤ b ∧ b < w'.heap.size) w' :=
  ⟨.inl h.ob, .inl h.orb, .inl h.od, .inl h.om, fun e => by rcases e with e | e; exact h.og e; omega, fun e => by rcases e with e | e; exact h.o2 e; omega, fun b hb => by
    have := hk.size
    rcases hb with hb | hb
    · have := h.lt b hb; omega
    · exact hb.2⟩
theorem Oc.keep {E : Env} {db mb : Nat} {O S : Nat → Prop} {w w' : World} (h : Oc E db mb O w) (hk : Keep S w w') : Oc E db mb O w' :=
  ⟨h.ob, h.orb, h.od, h.om, h.og, h.o2, fun b hb => by have := h.lt b hb; have := hk.size; omega⟩

section
variable {E : Env} {T et : TypeId} {enc : Int → Value} {db mb : Nat} {y : Way} {l : List Int} {Y : Lay E.D y l} {O O' S : Nat → Prop} {d : DV} {mc : Array Value} {w w' : World}
theorem SD.off {pos : Nat} {L : Bool} (h : SD E T db mb d mc L pos w) (hO : Oc E db mb O w) (hk : Keep S w w') (hS : ∀ b, S b → ¬ O b ∧ b ≠ E.g ∧ b ≠ 2) : SD E T db mb d mc L pos w' :=
  ⟨h.src.keep hk (fun e => (hS _ e).1 hO.orb) (fun e => (hS _ e).2.1 rfl) (fun e => (hS _ e).2.2 rfl), h.pos.keep hk (fun e => (hS _ e).1 hO.ob), hk.blk h.dec (fun e => (hS _ e).1 hO.od), hk.blk h.buf (fun e => (hS _ e).1 hO.om)⟩
theorem S0.off (h : S0 E T db mb Y d mc w) (hO : Oc E db mb O w) (hk : Keep S w w') (hS : ∀ b, S b → ¬ O b ∧ b ≠ E.g ∧ b ≠ 2) : S0 E T db mb Y d mc w' :=
  ⟨h.dc, h.sd.off hO hk hS, h.wb, h.lv, h.cb, h.cmv, h.mv, h.db'⟩
theorem S2.off {k j i dd x : Nat} (h : S2 E T et enc db mb Y O k j i d mc dd x w) (hO : Oc E db mb O w) (hk : Keep S w w') (hS : ∀ b, S b → ¬ O b ∧ b ≠ E.g ∧ b ≠ 2) : S2 E T et enc db mb Y O k j i d mc dd x w' := by
  obtain ⟨cs, h1, h2, h3⟩ := h.row
  exact ⟨h.dc, h.sd.off hO hk hS, h.wb.keep hk (fun e => (hS _ e).1 h.odd), h.md, h.mi, h.lv, h.cb, h.cmv, h.mv, ⟨cs, hk.blk h1 (fun e => (hS _ e).1 h.ox), h2, h3⟩, h.far, h.db'.keep hk (fun b hb e => (hS _ e).1 (h.odb b hb)), h.odd, h.ox, h.odb⟩
theorem S1.off {k j dd : Nat} (h : S1 E T et db mb Y O k j d mc dd w) (hO : Oc E db mb O w) (hk : Keep S w w') (hS : ∀ b, S b → ¬ O b ∧ b ≠ E.g ∧ b ≠ 2) : S1 E T et db mb Y O k j d mc dd w' :=
  ⟨h.dc, h.sd.off hO hk hS, h.wb.keep hk (fun e => (hS _ e).1 h.odd), h.md, h.mi, h.lv, h.cb, h.cmv, h.mv.keep hk (fun b hb e => (hS _ e).1 (h.omv b hb)), h.db'.keep hk (fun b hb e => (hS _ e).1 (h.odb b hb)), h.odd, h.omv, h.odb⟩
theorem S2.mono {k j i dd x : Nat} (h : S2 E T et enc db mb Y O k j i d mc dd x w) (hO : ∀ b, O b → O' b) : S2 E T et enc db mb Y O' k j i d mc dd x w :=
  ⟨h.dc, h.sd, h.wb, h.md, h.mi, h.lv, h.cb, h.cmv, h.mv, h.row, h.far, h.db', hO _ h.odd, hO _ h.ox, fun b hb => hO _ (h.odb b hb)⟩
/-- A part that is used up is a place before the next one. -/
theorem S2.s1 {k j dd x : Nat} (h : S2 E T et enc db mb Y O k j y.n d mc dd x w) : S1 E T et db mb Y O k (j + 1) d mc dd w := by
  obtain ⟨cs, h1, h2, _⟩ := h.row
  refine ⟨h.dc, h.sd, h.wb, h.md, h.mi, ?_, ?_, by rw [h.cmv]; omega, .inr ⟨x, cs, h.mv, h1, h2, h.far⟩, h.db', h.odd, fun b hb => ?_, h.odb⟩
  · rw [h.lv, Nat.add_mul j 1, Nat.one_mul, Nat.add_assoc]
  · rw [h.cb, Int.natCast_add, Int.add_mul]; simp
  · obtain ⟨n, c, hb⟩ := hb
    rw [h.mv] at hb
    cases hb
    exact h.ox
theorem Dc.set (h : Dc E mb y d) (a b : Int) : Dc E mb y { d with cb := a, cmv := b } := ⟨h.bd, h.mbp, h.bs, h.mpb, h.vpm⟩
/-- Some numbers are taken. -/
theorem S2.take {k j i dd x : Nat} (hA : Apart E db mb) (_hO : Oc E db mb O w) (h : S2 E T et enc db mb Y O k j i d mc dd x w) (c : Nat) (a b : Int) (ha : a = d.cb - c) (hb : b = d.cmv - c) :
    S2 E T et enc db mb Y O k j (i + c) { d with cb := a, cmv := b } mc dd x ((w.setCell ⟨db, 7, none⟩ (.int .u32 a)).setCell ⟨db, 10, none⟩ (.int .u32 b)) := by
  subst ha hb
  have hk : Keep (fun b => b = db) w ((w.setCell ⟨db, 7, none⟩ (.int .u32 (d.cb - c))).setCell ⟨db, 10, none⟩ (.int .u32 (d.cmv - c))) := ((Keep.refl (fun b => b = db) w).setCell (p := ⟨db, 7, none⟩) (.inl rfl) _).setCell (p := ⟨db, 10, none⟩) (.inl rfl) _
  obtain ⟨cs, h1, h2, h3⟩ := h.row
  refine ⟨h.dc.set _ _, (h.sd.set hA 7 _ (d' := { d with cb := d.cb - c }) rfl).set hA 10 _ rfl, h.wb.keep hk h.wb.2.2.2.2.2.2.1, h.md, h.mi, h.lv, ?_, ?_, h.mv, ⟨cs, hk.blk h1 h.far.2.2.2.2.1, h2, h3⟩, h.far, h.db'.keep hk fun b hb e => ?_, h.odd, h.ox, h.odb⟩
  · show d.cb - c = _
    rw [h.cb]; omega
  · show d.cmv - c = _
    rw [h.cmv]; omega
  · rcases h.db' with hd | ⟨ob', cs, g1, g2, g3, g4⟩
    · obtain ⟨n, c, hb⟩ := hb; rw [hd] at hb; cases hb
    · obtain ⟨n, c, hb⟩ := hb
      rw [g1] at hb
      cases hb
      exact g4.2.2.2.2.1 e
theorem S2.nv {k j i dd x : Nat} (hA : Apart E db mb) (h : S2 E T et enc db mb Y O k j i d mc dd x w) (a : Int) : S2 E T et enc db mb Y O k j i { d with nv := a } mc dd x (w.setCell ⟨db, 0, none⟩ (.int .i64 a)) := by
  have hk : Keep (fun b => b = db) w (w.setCell ⟨db, 0, none⟩ (.int .i64 a)) := (Keep.refl (fun b => b = db) w).setCell (p := ⟨db, 0, none⟩) (.inl rfl) _
  obtain ⟨cs, h1, h2, h3⟩ := h.row
  refine ⟨⟨h.dc.bd, h.dc.mbp, h.dc.bs, h.dc.mpb, h.dc.vpm⟩, h.sd.set hA 0 _ rfl, h.wb.keep hk h.wb.2.2.2.2.2.2.1, h.md, h.mi, h.lv, h.cb, h.cmv, h.mv, ⟨cs, hk.blk h1 h.far.2.2.2.2.1, h2, h3⟩, h.far, h.db'.keep hk fun b hb e => ?_, h.odd, h.ox, h.odb⟩
  rcases h.db' with hd | ⟨ob', cs, g1, g2, g3, g4⟩
  · obtain ⟨n, c, hb⟩ := hb; rw [hd] at hb; cases hb
  · obtain ⟨n, c, hb⟩ := hb
    rw [g1] at hb
    cases hb
    exact g4.2.2.2.2.1 e
theorem S2.used {k j i dd x : Nat} (hA : Apart E db mb) (h : S2 E T et enc db mb Y O k j i d mc dd x w) (a : Bool) : S2 E T et enc db mb Y O k j i { d with used := a } mc dd x (w.setCell ⟨db, 4, none⟩ (.bool a)) := by
  have hk : Keep (fun b => b = db) w (w.setCell ⟨db, 4, none⟩ (.bool a)) := (Keep.refl (fun b => b = db) w).setCell (p := ⟨db, 4, none⟩) (.inl rfl) _
  obtain ⟨cs, h1, h2, h3⟩ := h.row
  refine ⟨⟨h.dc.bd, h.dc.mbp, h.dc.bs, h.dc.mpb, h.dc.vpm⟩, h.sd.set hA 4 _ rfl, h.wb.keep hk h.wb.2.2.2.2.2.2.1, h.md, h.mi, h.lv, h.cb, h.cmv, h.mv, ⟨cs, hk.blk h1 h.far.2.2.2.2.1, h2, h3⟩, h.far, h.db'.keep hk fun b hb e => ?_, h.odd, h.ox, h.odb⟩
  rcases h.db' with hd | ⟨ob', cs, g1, g2, g3, g4⟩
  · obtain ⟨n, c, hb⟩ := hb; rw [hd] at hb; cases hb
  · obtain ⟨n, c, hb⟩ := hb
    rw [g1] at hb
    cases hb
    exact g4.2.2.2.2.1 e
theorem S0.nv (hA : Apart E db mb) (h : S0 E T db mb Y d mc w) (a : Int) : S0 E T db mb Y { d with nv := a } mc (w.setCell ⟨db, 0, none⟩ (.int .i64 a)) :=
  ⟨⟨h.dc.bd, h.dc.mbp, h.dc.bs, h.dc.mpb, h.dc.vpm⟩, h.sd.set hA 0 _ rfl, h.wb, h.lv, h.cb, h.cmv, h.mv, h.db'⟩
theorem S0.used (hA : Apart E db mb) (h : S0 E T db mb Y d mc w) (a : Bool) : S0 E T db mb Y { d with used := a } mc (w.setCell ⟨db, 4, none⟩ (.bool a)) :=
  ⟨⟨h.dc.bd, h.dc.mbp, h.dc.bs, h.dc.mpb, h.dc.vpm⟩, h.sd.set hA 4 _ rfl, h.wb, h.lv, h.cb, h.cmv, h.mv, h.db'⟩
end

/-- v numbers are taken (nv and used are told apart). -/
def At (E : Env) (T et : TypeId) (enc : Int → Value) (db mb : Nat) {y : Way} {l : List Int} (Y : Lay E.D y l) (O : Nat → Prop) (v : Nat) (d : DV) (mc : Array Value) (w : World) : Prop :=
  (v ≤ 1 ∧ S0 E T db mb Y d mc w) ∨ ∃ dd x k j i, v = k * y.S + j * y.n + i + 1 ∧ j < y.M ∧ 1 ≤ i ∧ i ≤ y.n ∧ S2 E T et enc db mb Y O k j i d mc dd x w
/-- So many numbers are taken. -/
structure DSt (E : Env) (T et : TypeId) (enc : Int → Value) (db mb : Nat) {y : Way} {l : List Int} (Y : Lay E.D y l) (O : Nat → Prop) (v : Nat) (w : World) : Prop where
  st : ∃ d mc, d.nv = ((l.length - v : Nat) : Int) ∧ d.used = decide (0 < v) ∧ At E T et enc db mb Y O v d mc w
  le : v ≤ l.length
  oc : Oc E db mb O w
section
variable {E : Env} {T et : TypeId} {enc : Int → Value} {db mb : Nat} {y : Way} {l : List Int} {Y : Lay E.D y l} {O O' S : Nat → Prop} {d : DV} {mc : Array Value} {w w' : World} {v : Nat}
theorem At.off (h : At E T et enc db mb Y O v d mc w) (hO : Oc E db mb O w) (hk : Keep S w w') (hS : ∀ b, S b → ¬ O b ∧ b ≠ E.g ∧ b ≠ 2) : At E T et enc db mb Y O v d mc w' := by
  rcases h with ⟨hv, h⟩ | ⟨dd, x, k, j, i, h1, h2, h3, h4, h⟩
  · exact .inl ⟨hv, h.off hO hk hS⟩
  · exact .inr ⟨dd, x, k, j, i, h1, h2, h3, h4, h.off hO hk hS⟩
theorem At.nv (hA : Apart E db mb) (h : At E T et enc db mb Y O v d mc w) (a : Int) : At E T et enc db mb Y O v { d with nv := a } mc (w.setCell ⟨db, 0, none⟩ (.int .i64 a)) := by
  rcases h with ⟨hv, h⟩ | ⟨dd, x, k, j, i, h1, h2, h3, h4, h⟩
  · exact .inl ⟨hv, h.nv hA a⟩
  · exact .inr ⟨dd, x, k, j, i, h1, h2, h3, h4, h.nv hA a⟩
theorem At.used (hA : Apart E db mb) (h : At E T et enc db mb Y O v d mc w) (a : Bool) : At E T et enc db mb Y O v { d with used := a } mc (w.setCell ⟨db, 4, none⟩ (.bool a)) := by
  rcases h with ⟨hv, h⟩ | ⟨dd, x, k, j, i, h1, h2, h3, h4, h⟩
  · exact .inl ⟨hv, h.used hA a⟩
  · exact .inr ⟨dd, x, k, j, i, h1, h2, h3, h4, h.used hA a⟩
theorem At.dc (h : At E T et enc db mb Y O v d mc w) : Dc E mb y d := by
  rcases h with ⟨_, h⟩ | ⟨dd, x, k, j, i, _, _, _, _, h⟩ <;> exact h.dc
theorem At.dec (h : At E T et enc db mb Y O v d mc w) : w.heap[db]? = some (.cells d.cells T (0, 0)) := by
  rcases h with ⟨_, h⟩ | ⟨dd, x, k, j, i, _, _, _, _, h⟩ <;> exact h.sd.dec
theorem DSt.off (h : DSt E T et enc db mb Y O v w) (hk : Keep S w w') (hS : ∀ b, S b → ¬ O b ∧ b ≠ E.g ∧ b ≠ 2) : DSt E T et enc db mb Y O v w' := by
  obtain ⟨d, mc, h1, h2, h3⟩ := h.st
  exact ⟨⟨d, mc, h1, h2, h3.off h.oc hk hS⟩, h.le, h.oc.keep hk⟩
end
end Go.Proofs.YtdamippibpbjhaaGreatDoor

/-! A decoder over bytes that are laid so begins a block: numbers of 64 bits. -/
namespace Go.Proofs.YtdamippibpbjhaaGreatDoor
open Go.RowKit

theorem wOwn_eq {dd dd' : Nat} {m : Int} (h : WOwn (mbCells 1 (.slice (some ⟨dd, 0, none⟩) 64 64) m) dd') : dd' = dd := by
  obtain ⟨m', h⟩ := h
  simp [mbCells] at h
  exact h.1.symm
theorem wOwn_none {dd : Nat} {m : Int} (h : WOwn (mbCells 1 (.slice none 0 0) m) dd) : False := by
  obtain ⟨m', h⟩ := h
  simp [mbCells] at h
theorem WBs.wb {E : Env} {db mb m : Nat} {mc : Array Value} {dd p k : Nat} {w : World} (h : WBs E db mb m mc dd p k w) : WB E db mb m mc w := by
  obtain ⟨h1, ⟨cs, h2, h3, _⟩, h4⟩ := h
  exact .inr ⟨dd, h1, ⟨cs, h2, h3, fun j hj => absurd hj (by omega)⟩, h4⟩

theorem init64 {E : Env} {db mb : Nat} {y : Way} {l : List Int} (Y : Lay E.D y l) (O : Nat → Prop) (et : TypeId) (k : Nat) (d : DV) (mc : Array Value) (w : World) (hW : E.Wf) (hA : Apart E db mb) (hy : y.Wf) (hM : y.M ≤ 32) (hS : y.S ≤ 1024)
    (hk : k * y.S + 1 < l.length) (hdc : Dc E mb y d) (hsd : SD E 206 db mb d mc true (Y.P k) w) (hwb : WB E db mb y.M mc w) (hlv : d.lv = Y.acc (k * y.S)) (hcmv : d.cmv = 0)
    (hmv : ∀ dd, (w.heap.size ≤ dd ∨ WOwn mc dd) → MvIn E et db mb dd y.n d.mv w) (hdb : ∀ dd, (w.heap.size ≤ dd ∨ WOwn mc dd) → DbIn E db mb dd y.n d.db w)
    (hodd : ∀ dd, WOwn mc dd → O dd) (homv : ∀ b, MOwn d.mv b → O b) (hodb : ∀ b, MOwn d.db b → O b)
    (hxo : ∀ b, MOwn d.mv b ∨ MOwn d.db b → b ≠ db ∧ b ≠ E.b ∧ b ≠ mb ∧ ¬ WOwn mc b) :
    Calls Tryz.prog 110 #[.pointer (some ⟨db, 0, none⟩)] w fun e w' => e = .returned .nilIface ∧ Keep (fun b => b = db ∨ b = E.b ∨ b = mb ∨ WOwn mc b) w w' ∧
      ∃ d' mc' dd, S1 E 206 et db mb Y (fun b => O b ∨ w.heap.size ≤ b ∧ b < w'.heap.size) k 0 d' mc' dd w' ∧ d'.nv = d.nv ∧ d'.used = d.used := by
  obtain ⟨hl, hz, hlen, hbp⟩ := Y.leb k hk
  refine (initBlock64 E db mb y.M (Y.P k) (Y.nz k) (Y.z k) d mc w hW hA hsd hwb hdc.bd hdc.mbp hdc.mpb hy.M0 hM (by rw [hdc.bs]; omega) hl (by omega)).mono ?_
  rintro e w' ⟨rfl, hK, mc', dd, hsd', hwb', hdd⟩
  refine ⟨rfl, hK, { d with md := unzz (Y.z k), mi := 0, bw := E.D.getD (Y.P k + Y.nz k + 1) 0, cb := d.bs }, mc', dd, ⟨⟨hdc.bd, hdc.mbp, hdc.bs, hdc.mpb, hdc.vpm⟩, by rw [hbp]; exact hsd', hwb', hz, rfl, by simpa using hlv, by simpa using hdc.bs, hcmv, ?_, ?_, ?_, fun b hb => .inl (homv b hb), fun b hb => .inl (hodb b hb)⟩, rfl, rfl⟩
  · refine (hmv dd hdd).keep hK fun b hb => ?_
    obtain ⟨h1, h2, h3, h4⟩ := hxo b (.inl hb)
    rintro (h | h | h | h)
    · exact h1 h
    · exact h2 h
    · exact h3 h
    · exact h4 h
  · refine (hdb dd hdd).keep hK fun b hb => ?_
    obtain ⟨h1, h2, h3, h4⟩ := hxo b (.inr hb)
    rintro (h | h | h | h)
    · exact h1 h
    · exact h2 h
    · exact h3 h
    · exact h4 h
  · rcases hdd with h | h
    · obtain ⟨_, ⟨cs, hcs, _⟩, _⟩ := hwb'
      exact .inr ⟨h, blk_lt hcs⟩
    · exact .inl (hodd dd h)
theorem S0.init64 {E : Env} {db mb : Nat} {y : Way} {l : List Int} {Y : Lay E.D y l} {O : Nat → Prop} (et : TypeId) {d : DV} {mc : Array Value} {w : World} (h : S0 E 206 db mb Y d mc w) (hW : E.Wf) (hA : Apart E db mb) (hy : y.Wf) (hM : y.M ≤ 32) (hS : y.S ≤ 1024)
    (hk : 1 < l.length) (od : O db) (ob : O E.b) (om : O mb) :
    Calls Tryz.prog 110 #[.pointer (some ⟨db, 0, none⟩)] w fun e w' => e = .returned .nilIface ∧ Keep O w w' ∧
      ∃ d' mc' dd, S1 E 206 et db mb Y (fun b => O b ∨ w.heap.size ≤ b ∧ b < w'.heap.size) 0 0 d' mc' dd w' ∧ d'.nv = d.nv ∧ d'.used = d.used := by
  have hno : ∀ dd, WOwn mc dd → False := fun dd hd => by rw [h.wb] at hd; exact wOwn_none hd
  have hn1 : ∀ b, MOwn d.mv b → False := fun b hb => by obtain ⟨n, c, hb⟩ := hb; rw [h.mv] at hb; cases hb
  have hn2 : ∀ b, MOwn d.db b → False := fun b hb => by obtain ⟨n, c, hb⟩ := hb; rw [h.db'] at hb; cases hb
  refine (YtdamippibpbjhaaGreatDoor.init64 Y O et 0 d mc w hW hA hy hM hS (by omega) h.dc h.sd (.inl h.wb) (by simpa using h.lv) h.cmv (fun _ _ => .inl h.mv) (fun _ _ => .inl h.db') (fun dd hd => (hno dd hd).elim) (fun b hb => (hn1 b hb).elim) (fun b hb => (hn2 b hb).elim)
    (fun b hb => by rcases hb with hb | hb; exact (hn1 b hb).elim; exact (hn2 b hb).elim)).mono ?_
  rintro e w' ⟨he, hK, hx⟩
  refine ⟨he, hK.mono ?_, hx⟩
  rintro b (rfl | rfl | rfl | hb)
  · exact od
  · exact ob
  · exact om
  · exact (hno b hb).elim
theorem S2.init64 {E : Env} {et : TypeId} {enc : Int → Value} {db mb : Nat} {y : Way} {l : List Int} {Y : Lay E.D y l} {O : Nat → Prop} {k j i : Nat} {d : DV} {mc : Array Value} {dd x : Nat} {w : World} (h : S2 E 206 et enc db mb Y O k j i d mc dd x w) (hW : E.Wf) (hA : Apart E db mb) (hy : y.Wf) (hM : y.M ≤ 32) (hS : y.S ≤ 1024)
    (hj : j + 1 = y.M) (hi : i = y.n) (hk : (k + 1) * y.S + 1 < l.length) (od : O db) (ob : O E.b) (om : O mb) :
    Calls Tryz.prog 110 #[.pointer (some ⟨db, 0, none⟩)] w fun e w' => e = .returned .nilIface ∧ Keep O w w' ∧
      ∃ d' mc' dd, S1 E 206 et db mb Y (fun b => O b ∨ w.heap.size ≤ b ∧ b < w'.heap.size) (k + 1) 0 d' mc' dd w' ∧ d'.nv = d.nv ∧ d'.used = d.used := by
  obtain ⟨xs, hx, hxn, _⟩ := h.row
  have hxl := blk_lt hx
  have hwo : ∀ dd', WOwn mc dd' → dd' = dd := fun dd' hd => by rw [h.wb.1] at hd; exact wOwn_eq hd
  have hmx : ∀ b, MOwn d.mv b → b = x := fun b hb => by obtain ⟨n, c, hb⟩ := hb; rw [h.mv] at hb; cases hb; rfl
  obtain ⟨f1, f2, f3, f4, f5, f6, f7⟩ := h.far
  refine (YtdamippibpbjhaaGreatDoor.init64 Y O et (k + 1) d mc w hW hA hy hM hS hk h.dc (by rw [Y.next k hk, ← hj]; exact h.sd) h.wb.wb ?_ (by rw [h.cmv, hi]; omega)
    (fun dd' hd => .inr ⟨x, xs, h.mv, hx, hxn, f1, f2, f3, f4, f5, f6, by rcases hd with hd | hd; omega; rw [hwo dd' hd]; exact f7⟩)
    (fun dd' hd => ?_) (fun dd' hd => by rw [hwo dd' hd]; exact h.odd) (fun b hb => by rw [hmx b hb]; exact h.ox) h.odb (fun b hb => ?_)).mono ?_
  · rw [h.lv]
    congr 1
    rw [hy.S, ← hj, Nat.add_mul k 1, Nat.one_mul, Nat.add_mul j 1, Nat.one_mul]
    omega
  · rcases h.db' with hd' | ⟨ob', cs, h1, h2, h3, g1, g2, g3, g4, g5, g6, g7⟩
    · exact .inl hd'
    · have := blk_lt h2
      exact .inr ⟨ob', cs, h1, h2, h3, g1, g2, g3, g4, g5, g6, by rcases hd with hd | hd; omega; rw [hwo dd' hd]; exact g7⟩
  · rcases hb with hb | hb
    · rw [hmx b hb]
      exact ⟨f5, f1, f6, fun h' => f7 (hwo _ h')⟩
    · rcases h.db' with hd' | ⟨ob', cs, h1, h2, h3, g1, g2, g3, g4, g5, g6, g7⟩
      · obtain ⟨n, c, hb⟩ := hb; rw [hd'] at hb; cases hb
      · obtain ⟨n, c, hb⟩ := hb
        rw [h1] at hb
        cases hb
        exact ⟨g5, g1, g6, fun h' => g7 (hwo _ h')⟩
  · rintro e w' ⟨he, hK, hx⟩
    refine ⟨he, hK.mono ?_, hx⟩
    rintro b (rfl | rfl | rfl | hb)
    · exact od
    · exact ob
    · exact om
    · rw [hwo b hb]; exact h.odd
end Go.Proofs.YtdamippibpbjhaaGreatDoor

/-! A decoder over bytes that are laid so unpacks the next part: numbers of 64 bits. -/
namespace Go.Proofs.YtdamippibpbjhaaGreatDoor
open Go.RowKit

theorem S1.mini64 {E : Env} {db mb : Nat} {y : Way} {l : List Int} {Y : Lay E.D y l} {O : Nat → Prop} {k j : Nat} {d : DV} {mc : Array Value} {dd : Nat} {w : World} (h : S1 E 206 2 db mb Y O k j d mc dd w) (hW : E.Wf) (hA : Apart E db mb) (hy : y.Wf) (hW64 : y.W ≤ 64) (hM : y.M ≤ 32)
    (hn : 32 ≤ y.n ∧ y.n ≤ 1024 ∧ y.n % 32 = 0) (hj : j < y.M) (hN : k * y.S + j * y.n + 1 < l.length) (h0 : -9223372036854775808 ≤ l.getD 0 0 ∧ l.getD 0 0 < 9223372036854775808) (od : O db) (ob : O E.b) (orb : O E.rb) :
    Calls Tryz.prog 111 #[.pointer (some ⟨db, 0, none⟩)] w fun e w' => e = .returned .nilIface ∧ Keep O w w' ∧
      ∃ d' x, S2 E 206 2 (fun v => .int .i64 v) db mb Y (fun b => O b ∨ w.heap.size ≤ b ∧ b < w'.heap.size) k j 0 d' mc dd x w' ∧ d'.nv = d.nv ∧ d'.used = d.used := by
  have hk : k * y.S + 1 < l.length := by omega
  obtain ⟨hwd, hlen, hbp⟩ := Y.mini k j hN hj
  have hwid := Y.width k j hk hj
  obtain ⟨t, _, hmd⟩ := Y.range k hk
  have hmdb : -9223372036854775808 ≤ d.md ∧ d.md < 9223372036854775808 := by rw [h.md, hmd]; exact wrapW_bounds _
  obtain ⟨hl, _, hlen0, _⟩ := Y.leb k hk
  refine (YtdamippibpbjhaaGreatDoor.mini64 E db mb y.M dd (Y.P k + Y.nz k + 1) (Y.bp k j) j y.n (Y.wd k j) d mc w hW hA h.sd h.wb h.mv h.db' h.dc.bd h.dc.mbp h.dc.vpm hn h.mi hj hM (by omega) hwid (by omega) hmdb (by rw [h.lv]; exact Y.acc_bounds h0 _) hlen).mono ?_
  rintro e w' ⟨rfl, x, dbv', hK, hsd, hwb, hrow, hfar, hdb, hox, hodb⟩
  refine ⟨rfl, hK.mono ?_, { d with bw := Y.wd k j, cmv := y.n, mi := (j + 1 : Nat), lv := accR d.lv d.md (fun i => bitsAt E.D (8 * Y.bp k j + i * Y.wd k j) (Y.wd k j)) y.n, mv := .slice (some ⟨x, 0, none⟩) y.n y.n, db := dbv' }, x, ⟨⟨h.dc.bd, h.dc.mbp, h.dc.bs, h.dc.mpb, h.dc.vpm⟩, by rw [hbp]; exact hsd, hwb, h.md, rfl, ?_, by simpa using h.cb, by simp, rfl, ?_, hfar, hdb, .inl h.odd, ?_, fun b hb => ?_⟩, rfl, rfl⟩
  · rintro b (rfl | rfl | rfl | hb | hb)
    · exact ob
    · exact orb
    · exact od
    · exact h.omv b hb
    · exact h.odb b hb
  · rw [Y.acc_accR hy hj y.n (Nat.le_refl _), ← h.lv, ← h.md]
    rfl
  · obtain ⟨cs, h1, h2, h3⟩ := hrow
    refine ⟨cs, h1, h2, fun c hc => ?_⟩
    rw [h3 c hc, Y.acc_accR hy hj (c + 1) hc, ← h.lv, ← h.md]
    rfl
  · rcases hox with hx | hx
    · obtain ⟨cs, h1, _⟩ := hrow
      exact .inr ⟨hx, blk_lt h1⟩
    · exact .inl (h.omv x hx)
  · rcases hodb b hb with hx | hx
    · refine .inr ⟨hx, ?_⟩
      rcases hdb with hd | ⟨ob', cs, g1, g2, _⟩
      · obtain ⟨n, c, hb⟩ := hb; rw [hd] at hb; cases hb
      · obtain ⟨n, c, hb⟩ := hb
        rw [g1] at hb
        cases hb
        exact blk_lt g2
    · exact .inl (h.odb b hx)
end Go.Proofs.YtdamippibpbjhaaGreatDoor

/-! What a decoder does ahead of the next number: numbers of 64 bits. -/
namespace Go.Proofs.YtdamippibpbjhaaGreatDoor
open Go.RowKit

def enc64 (v : Int) : Value := .int .i64 v
/-- Bounds that all need. -/
structure Fine (E : Env) (db mb : Nat) (y : Way) (l : List Int) : Prop where
  hW : E.Wf
  hA : Apart E db mb
  hy : y.Wf
  hW64 : y.W ≤ 64
  hM : y.M ≤ 32
  hS : y.S ≤ 1024
  hn : 32 ≤ y.n ∧ y.n ≤ 1024 ∧ y.n % 32 = 0
  hl0 : -9223372036854775808 ≤ l.getD 0 0 ∧ l.getD 0 0 < 9223372036854775808
  hlen : l.length ≤ 2000
  hD0 : 0 < E.D.length
/-- Numbers of part j of block k are next; they may not be unpacked yet. -/
def Mid (E : Env) (T et : TypeId) (enc : Int → Value) (db mb : Nat) {y : Way} {l : List Int} (Y : Lay E.D y l) (O : Nat → Prop) (v : Nat) (d : DV) (mc : Array Value) (w : World) : Prop :=
  (∃ dd k j, v = k * y.S + j * y.n + 1 ∧ j < y.M ∧ S1 E T et db mb Y O k j d mc dd w) ∨ ∃ dd x k j i, v = k * y.S + j * y.n + i + 1 ∧ j < y.M ∧ i < y.n ∧ S2 E T et enc db mb Y O k j i d mc dd x w
/-- They are. -/
def Full (E : Env) (T et : TypeId) (enc : Int → Value) (db mb : Nat) {y : Way} {l : List Int} (Y : Lay E.D y l) (O : Nat → Prop) (v : Nat) (d : DV) (mc : Array Value) (w : World) : Prop :=
  ∃ dd x k j i, v = k * y.S + j * y.n + i + 1 ∧ j < y.M ∧ i < y.n ∧ S2 E T et enc db mb Y O k j i d mc dd x w
/-- The old blocks and those made since. -/
def Gr (O : Nat → Prop) (w w' : World) : Nat → Prop := fun b => O b ∨ w.heap.size ≤ b ∧ b < w'.heap.size
theorem Way.jn {y : Way} (hy : y.Wf) {j : Nat} (hj : j < y.M) : j * y.n + y.n ≤ y.S := by
  rw [hy.S]
  have : (j + 1) * y.n ≤ y.M * y.n := Nat.mul_le_mul_right _ hj
  rwa [Nat.add_mul, Nat.one_mul] at this

theorem SD.room {E : Env} {T : TypeId} {db mb : Nat} {d : DV} {mc : Array Value} {L : Bool} {pos : Nat} {w : World} (h : SD E T db mb d mc L pos w) (hD : 0 < E.D.length) : E.g < w.heap.size ∧ 2 < w.heap.size :=
  ⟨World.block_lt_of_cell? w _ (h.src.row 0 hD), World.block_lt_of_cell? w _ h.src.eof⟩
section
variable {E : Env} {T et : TypeId} {enc : Int → Value} {db mb : Nat} {y : Way} {l : List Int} {Y : Lay E.D y l} {O : Nat → Prop} {v : Nat} {d : DV} {mc : Array Value} {w : World}
theorem Lay.some (Y : Lay E.D y l) (hl : 1 < l.length) : 0 < E.D.length := by
  have := (Y.leb 0 (by omega)).1.lt
  omega
theorem At.room (h : At E T et enc db mb Y O v d mc w) (hl : 1 < l.length) : E.g < w.heap.size ∧ 2 < w.heap.size := by
  rcases h with ⟨_, h⟩ | ⟨dd, x, k, j, i, _, _, _, _, h⟩ <;> exact h.sd.room (Y.some hl)
theorem Mid.room (h : Mid E T et enc db mb Y O v d mc w) (hl : 1 < l.length) : E.g < w.heap.size ∧ 2 < w.heap.size := by
  rcases h with ⟨dd, k, j, _, _, h⟩ | ⟨dd, x, k, j, i, _, _, _, h⟩ <;> exact h.sd.room (Y.some hl)
theorem Mid.dec (h : Mid E T et enc db mb Y O v d mc w) : w.heap[db]? = some (.cells d.cells T (0, 0)) := by
  rcases h with ⟨dd, k, j, _, _, h⟩ | ⟨dd, x, k, j, i, _, _, _, h⟩ <;> exact h.sd.dec
theorem Full.dec (h : Full E T et enc db mb Y O v d mc w) : w.heap[db]? = some (.cells d.cells T (0, 0)) := by
  obtain ⟨dd, x, k, j, i, _, _, _, h⟩ := h
  exact h.sd.dec
theorem DSt.room (hF : Fine E db mb y l) (h : DSt E T et enc db mb Y O v w) : E.g < w.heap.size ∧ 2 < w.heap.size := by
  obtain ⟨d, mc, _, _, hat⟩ := h.st
  rcases hat with ⟨_, h⟩ | ⟨dd, x, k, j, i, _, _, _, _, h⟩ <;> exact h.sd.room hF.hD0
theorem Gr.sub {w0 w' : World} {O0 S : Nat → Prop} (hk : Keep S w0 w) (hO : ∀ b, O b → O0 b ∨ w0.heap.size ≤ b) : ∀ b, Gr O w w' b → O0 b ∨ w0.heap.size ≤ b := fun b hb => by
  rcases hb with hb | hb
  · exact hO b hb
  · have := hk.size
    exact .inr (by omega)
theorem Full.drewN (h : Full E T et enc db mb Y O v d mc w) (hO : Oc E db mb O w) (n : Nat) : Full E T et enc db mb Y O v d mc (w.drewN n) := by
  obtain ⟨dd, x, k, j, i, h1, h2, h3, h⟩ := h
  exact ⟨dd, x, k, j, i, h1, h2, h3, h.off hO ((Keep.refl (fun _ => False) w).drewN n) (fun _ h => h.elim)⟩
end

theorem At.begin64 {E : Env} {db mb : Nat} {y : Way} {l : List Int} {Y : Lay E.D y l} {O : Nat → Prop} {v : Nat} {d : DV} {mc : Array Value} {w : World} (hF : Fine E db mb y l) (hO : Oc E db mb O w) (h : At E 206 2 enc64 db mb Y O v d mc w) (h1 : 1 ≤ v) (hv : v < l.length) :
    (d.cb = 0 ∧ Calls Tryz.prog 110 #[.pointer (some ⟨db, 0, none⟩)] w fun e w' => e = .returned .nilIface ∧ Keep O w w' ∧ ∃ d' mc', Mid E 206 2 enc64 db mb Y (Gr O w w') v d' mc' w' ∧ d'.nv = d.nv ∧ d'.used = d.used) ∨
    (1 ≤ d.cb ∧ d.cb ≤ 1024 ∧ Mid E 206 2 enc64 db mb Y O v d mc w) := by
  have hS := hF.hS
  rcases h with ⟨hv1, h⟩ | ⟨dd, x, k, j, i, hv1, hj, hi0, hi, h⟩
  · refine .inl ⟨h.cb, (h.init64 2 hF.hW hF.hA hF.hy hF.hM hF.hS (by omega) hO.od hO.ob hO.om).mono ?_⟩
    rintro e w' ⟨he, hk, d', mc', dd, h', hn⟩
    exact ⟨he, hk, d', mc', .inl ⟨dd, 0, 0, by omega, hF.hy.M0, h'⟩, hn⟩
  · have hjn := Way.jn hF.hy hj
    by_cases hin : i = y.n
    · subst hin
      by_cases hjM : j + 1 = y.M
      · have e : j * y.n + y.n = y.S := by rw [hF.hy.S, ← hjM, Nat.add_mul, Nat.one_mul]
        refine .inl ⟨by rw [h.cb, ← e]; omega, (h.init64 hF.hW hF.hA hF.hy hF.hM hF.hS hjM rfl (by rw [Nat.add_mul, Nat.one_mul]; omega) hO.od hO.ob hO.om).mono ?_⟩
        rintro e' w' ⟨he, hk, d', mc', dd, h', hn⟩
        exact ⟨he, hk, d', mc', .inl ⟨dd, k + 1, 0, by rw [Nat.add_mul, Nat.one_mul]; omega, hF.hy.M0, h'⟩, hn⟩
      · have hjn' := Way.jn hF.hy (show j + 1 < y.M by omega)
        rw [Nat.add_mul, Nat.one_mul] at hjn'
        have := hF.hy.n0
        refine .inr ⟨by rw [h.cb]; omega, by rw [h.cb]; omega, .inl ⟨dd, k, j + 1, by rw [Nat.add_mul j 1, Nat.one_mul]; omega, by omega, h.s1⟩⟩
    · exact .inr ⟨by rw [h.cb]; omega, by rw [h.cb]; omega, .inr ⟨dd, x, k, j, i, hv1, hj, by omega, h⟩⟩
theorem Mid.next64 {E : Env} {db mb : Nat} {y : Way} {l : List Int} {Y : Lay E.D y l} {O : Nat → Prop} {v : Nat} {d : DV} {mc : Array Value} {w : World} (hF : Fine E db mb y l) (hO : Oc E db mb O w) (h : Mid E 206 2 enc64 db mb Y O v d mc w) (hv : v < l.length) :
    (d.cmv = 0 ∧ Calls Tryz.prog 111 #[.pointer (some ⟨db, 0, none⟩)] w fun e w' => e = .returned .nilIface ∧ Keep O w w' ∧ ∃ d', Full E 206 2 enc64 db mb Y (Gr O w w') v d' mc w' ∧ d'.nv = d.nv ∧ d'.used = d.used) ∨
    (1 ≤ d.cmv ∧ d.cmv ≤ 1024 ∧ Full E 206 2 enc64 db mb Y O v d mc w) := by
  have hn := hF.hn
  rcases h with ⟨dd, k, j, hv1, hj, h⟩ | ⟨dd, x, k, j, i, hv1, hj, hi, h⟩
  · refine .inl ⟨h.cmv, (h.mini64 hF.hW hF.hA hF.hy hF.hW64 hF.hM hF.hn hj (by omega) hF.hl0 hO.od hO.ob hO.orb).mono ?_⟩
    rintro e w' ⟨he, hk, d', x, h', hn'⟩
    exact ⟨he, hk, d', ⟨dd, x, k, j, 0, by omega, hj, by omega, h'⟩, hn'⟩
  · exact .inr ⟨by rw [h.cmv]; omega, by rw [h.cmv]; omega, ⟨dd, x, k, j, i, hv1, hj, hi, h⟩⟩
/-- c of the numbers that are unpacked are taken. -/
theorem Full.take {E : Env} {T et : TypeId} {enc : Int → Value} {db mb : Nat} {y : Way} {l : List Int} {Y : Lay E.D y l} {O : Nat → Prop} {v : Nat} {d : DV} {mc : Array Value} {w : World} (hF : Fine E db mb y l) (hO : Oc E db mb O w) (h : Full E T et enc db mb Y O v d mc w) :
    ∃ x i, i < y.n ∧ d.cmv = (y.n - i : Nat) ∧ y.n - i ≤ d.cb ∧ d.cb ≤ 1024 ∧ d.vpm = y.n ∧ d.mv = .slice (some ⟨x, 0, none⟩) y.n y.n ∧ O x ∧
      (∃ cs, w.heap[x]? = some (.cells cs et (0, 0)) ∧ cs.size = y.n ∧ ∀ c, i + c < y.n → cs[i + c]? = some (enc (Y.acc (v + c)))) ∧
      ∀ (w' : World) (S : Nat → Prop), Keep S w w' → (∀ b, S b → ¬ O b ∧ b ≠ E.g ∧ b ≠ 2) → ∀ (c : Nat) (a b : Int), 1 ≤ c → c ≤ y.n - i → a = d.cb - c → b = d.cmv - c → At E T et enc db mb Y O (v + c) { d with cb := a, cmv := b } mc ((w'.setCell ⟨db, 7, none⟩ (.int .u32 a)).setCell ⟨db, 10, none⟩ (.int .u32 b)) := by
  obtain ⟨dd, x, k, j, i, hv1, hj, hi, h⟩ := h
  have hjn := Way.jn hF.hy hj
  have hS := hF.hS
  obtain ⟨cs, r1, r2, r3⟩ := h.row
  refine ⟨x, i, hi, by rw [h.cmv]; omega, by rw [h.cb]; omega, by rw [h.cb]; omega, h.dc.vpm, h.mv, h.ox, ⟨cs, r1, r2, fun c hc => ?_⟩, fun w' S hk hS c a b hc0 hc ha hb => ?_⟩
  · rw [r3 (i + c) hc, hv1]
    congr 3
    omega
  · exact .inr ⟨dd, x, k, j, i + c, by omega, hj, by omega, by omega, (h.off hO hk hS).take hF.hA (hO.keep hk) c a b ha hb⟩
end Go.Proofs.YtdamippibpbjhaaGreatDoor
