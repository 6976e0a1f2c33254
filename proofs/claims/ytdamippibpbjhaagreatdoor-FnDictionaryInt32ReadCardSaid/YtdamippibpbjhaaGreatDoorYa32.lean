import Derived.Test.YtdamippibpbjhaaGreatDoorYa31
import Derived.Test.YtdamippibpbjhaaGreatDoorYa06
import Derived.Test.YtdamippibpbjhaaGreatDoorYa27
import Derived.Laws.IdiomStrings
/-! The decoder of a dictionary's numbers: texts. -/
namespace Go.Proofs.YtdamippibpbjhaaGreatDoor
open Go.RowKit

/-- What a dictionary's decoder rests on: the blocks of the bit reader, the decoder, the runs' reader, the converter and the plain decoder; the bytes. -/
structure DX where
  bb : Nat
  db : Nat
  rd : Nat
  dcb : Nat
  pd : Nat
  g : Nat
  o : Nat
  sc : Nat
  D : List Int
  eof : Addr
  W : Nat
  N : Nat
  base : Nat
def DX.E (X : DX) (nv : Nat) : Env := ⟨X.bb, ⟨X.db, [.int .i64 nv, .slice none 0 0, .int .i64 0, .iface 94 (.agg #[]), .iface 173 (.pointer (some ⟨X.dcb, 0, none⟩)), .pointer (some ⟨X.rd, 0, none⟩)], [.slice none 0 0, .slice none 0 0, .slice none 0 0], 105⟩, X.g, X.o, X.sc, X.D, X.eof⟩
/-- All this lies apart. -/
structure DX.Ok (X : DX) (F : Nat → Prop) : Prop where
  len : X.D.length ≤ X.sc
  cap : X.D.length ≤ 140737488351232
  byte : Bytes X.D
  b : X.bb ≠ X.db ∧ X.bb ≠ X.g ∧ X.bb ≠ 2 ∧ X.bb ≠ X.rd ∧ X.bb ≠ X.dcb
  d : X.db ≠ X.g ∧ X.db ≠ 2 ∧ X.db ≠ X.rd ∧ X.db ≠ X.dcb
  r : X.rd ≠ X.g ∧ X.rd ≠ 2 ∧ X.rd ≠ X.dcb
  c : X.dcb ≠ X.g ∧ X.dcb ≠ 2
  p : X.pd ≠ X.g ∧ X.pd ≠ 2
  f : ∀ b, F b → b ≠ X.bb ∧ b ≠ X.db ∧ b ≠ X.rd ∧ b ≠ X.dcb
  W1 : 1 ≤ X.W
  W20 : X.W ≤ 20
  N9 : X.N ≤ 1000
theorem DX.Ok.wf {X : DX} {F : Nat → Prop} (h : X.Ok F) (nv : Nat) : (X.E nv).Wf := ⟨h.len, h.cap, h.byte, h.b.2.1, h.b.1, h.d.1, h.b.2.2.1, h.d.2.1⟩
/-- The blocks that the decoder writes. -/
def DX.own (X : DX) (dv : Value) (b : Nat) : Prop := b = X.bb ∨ b = X.db ∨ b = X.rd ∨ b = X.dcb ∨ b = X.pd ∨ dv.ownBlock = some b
/-- v of all numbers are read. -/
structure DQ {VD : World → Nat → Prop} (vals : Nat → Value) (X : DX) (F : Nat → Prop) (all : List Nat) (O : Nat → Prop) (w : World) (v : Nat) : Prop where
  ex : ∃ cur rep lit kk dv, RP (X.E (all.length - v)) w X.rd 225 X.W cur rep lit (all.drop v) ∧ CSt VD vals X.pd X.N X.dcb X.base w kk dv ∧ COK F X.dcb X.base w dv ∧
    (∀ b, dv.ownBlock = some b → b ≠ X.bb ∧ b ≠ X.db ∧ b ≠ X.g ∧ b ≠ 2 ∧ b ≠ X.rd ∧ b ≠ X.dcb ∧ ¬ F b) ∧ O = X.own dv
  vl : v ≤ all.length
  lg : X.g < w.heap.size
theorem BC.env {X : DX} {nv nv' : Nat} {cs : Array Value} {off bo buf vb : Int} (hB : BC cs (X.E nv).R off bo buf vb) : BC cs (X.E nv').R off bo buf vb := ⟨hB.size, hB.c0, hB.c1, hB.c2, hB.c3, hB.c4, hB.raw, hB.ub⟩
theorem BP.env {X : DX} {nv nv' : Nat} {w w' : World} {off bo lit : Nat} {S : Nat → Prop} (h : BP (X.E nv) w off bo lit) (hk : Keep S w w') (hs : ¬ S X.bb) : BP (X.E nv') w' off bo lit := by
  obtain ⟨⟨buf, vb, c, h1, h2⟩, h3⟩ := h
  refine ⟨⟨buf, vb, c, hk.blk h1 hs, h2.env⟩, fun h => ?_⟩
  obtain ⟨c, h4, h5⟩ := h3 h
  exact ⟨c, hk.blk h4 hs, h5.env⟩
theorem RP.env {X : DX} {F : Nat → Prop} (hX : X.Ok F) {nv nv' : Nat} {w w' : World} {W cur rep lit : Nat} {rest : List Nat} (h : RP (X.E nv) w X.rd 225 W cur rep lit rest) (hk : Keep (fun b => b = X.db) w w')
    (hc : ∃ i p : Int, w'.heap[X.db]? = some (.cells ((X.E nv').R.cells (.slice (some ⟨X.g, X.o, none⟩) X.D.length X.sc) i p) 105 (0, 0))) : RP (X.E nv') w' X.rd 225 W cur rep lit rest := by
  obtain ⟨off, bo, p, rs, hb, hr⟩ := h.pos
  exact ⟨hk.blk h.cells hX.d.2.2.1.symm, ⟨hc, h.src.row.keep hk hX.d.1.symm, hk.cell h.src.eof hX.d.2.1.symm⟩, h.one, h.rep9, h.lit9, h.cur9, off, bo, p, rs, hb.env hk hX.b.1, hr⟩
theorem DX.Ok.apart {X : DX} {F : Nat → Prop} (h : X.Ok F) (nv : Nat) {dv : Value} {ob : Nat} (h1 : ¬ X.own dv ob) (h2 : ob ≠ X.g) (h3 : ob ≠ 2) (h4 : ¬ F ob) : GApart (X.E nv) F X.rd X.dcb X.pd ob :=
  ⟨⟨h.b.2.2.2.1.symm, h.d.2.2.1.symm, h.r.1, h.r.2.1⟩, fun b hb => ⟨(h.f b hb).1, (h.f b hb).2.1, (h.f b hb).2.2.1, fun e => h4 (e ▸ hb), (h.f b hb).2.2.2⟩, h.p, ⟨h.b.2.2.2.2.symm, h.d.2.2.2.symm, h.c.1, h.c.2, h.r.2.2.symm, fun e => h1 (.inr (.inr (.inr (.inl e.symm))))⟩,
    ⟨fun e => h1 (.inl e), fun e => h1 (.inr (.inl e)), h2, h3, fun e => h1 (.inr (.inr (.inl e)))⟩⟩
/-- What a call on the decoder leaves. -/
def DPost {VD : World → Nat → Prop} (vals : Nat → Value) (X : DX) (F : Nat → Prop) (all : List Nat) (O : Nat → Prop) (w : World) (v n : Nat) (o : Option Nat) (w' : World) : Prop :=
  Keep (fun b => O b ∨ o = some b) w w' ∧ ∃ O' : Nat → Prop, (∀ b, O' b → O b ∨ w.heap.size ≤ b) ∧ DQ (VD := VD) vals X F all O' w' (v + n)

set_option maxRecDepth 100000 in
set_option maxHeartbeats 4000000 in
theorem ddecode87 {VD : World → Nat → Prop} {vals : Nat → Value} {X : DX} {F : Nat → Prop} (V : VDec VD X.pd X.N vals F) (hform : ∀ j, ∃ a n c, vals j = .slice a n c) (hX : X.Ok F) {all : List Nat} {O : Nat → Prop} {w : World} {v n ob co : Nat} {cs : Array Value} {t : TypeId}
    (h : DQ (VD := VD) vals X F all O w v) (hall : ∀ x ∈ all, x < X.N) (hvn : v + n ≤ all.length) (hn9 : n ≤ 100000) (hall9 : all.length ≤ 100000) (hob : w.heap[ob]? = some (.cells cs t (0, 0))) (hsz : n ≤ cs.size) (h1 : ¬ O ob) (h2 : ob ≠ X.g) (h3 : ob ≠ 2) (h4 : ¬ F ob) (hnc : n ≤ co) :
    Calls Tryz.prog 87 #[.pointer (some ⟨X.db, 0, none⟩), .slice (some ⟨ob, 0, none⟩) n co] w fun e w' => e = .returned (.tuple #[.int .i64 n, .nilIface]) ∧ DPost (VD := VD) vals X F all O w v n (some ob) w' ∧
      ∃ cs', w'.heap[ob]? = some (.cells cs' t (0, 0)) ∧ cs'.size = cs.size ∧ ∀ j, j < n → cs'[j]? = some (vals (all.getD (v + j) 0)) := by
  obtain ⟨⟨cur, rep, lit, kk, dv, hrp, hst, hok, hfar, rfl⟩, hvl, hlg⟩ := h
  obtain ⟨ri, rp, hrd⟩ := hrp.src.rd
  have hdb : w.heap[X.db]? = some (.cells #[.int .i64 ((all.length - v : Nat) : Int), .slice none 0 0, .int .i64 0, .iface 94 (.agg #[]), .iface 173 (.pointer (some ⟨X.dcb, 0, none⟩)), .pointer (some ⟨X.rd, 0, none⟩), .slice (some ⟨X.g, X.o, none⟩) X.D.length X.sc, .int .i64 ri, .int .i64 rp, .slice none 0 0, .slice none 0 0, .slice none 0 0] 105 (0, 0)) := hrd
  have hA := hX.apart (all.length - v) h1 h2 h3 h4
  have hbl : X.bb < w.heap.size := by obtain ⟨off, bo, p, rs, hb, _⟩ := hrp.pos; exact hb.lt
  have hL : Low (X.E (all.length - v)) X.rd X.dcb ob F w.heap.size := ⟨⟨hbl, blk_lt hdb, hlg, World.block_lt_of_cell? w _ hrp.src.eof, blk_lt hrp.cells, blk_lt hob, hok.lt⟩, hok.Fl⟩
  have hGR : GR (VD := VD) vals (X.E (all.length - v)) F X.pd X.N X.dcb X.base X.rd ob 0 225 X.W w dv cs t (all.drop v) 0 0 w cur rep lit kk dv cs :=
    ⟨⟨Keep.refl _ w, hst, hok, fun b hb => by have f := hfar b hb; exact ⟨f.1, f.2.1, f.2.2.1, f.2.2.2.1, f.2.2.2.2.1, fun e => h1 (.inr (.inr (.inr (.inr (.inr (e ▸ hb)))))), f.2.2.2.2.2.1, f.2.2.2.2.2.2⟩, .inl rfl, hob, rfl, fun _ _ => rfl, fun j hj => absurd hj (by omega)⟩, hrp⟩
  have HC := Lib.hid (fun nq => dict_any V hform (X.E (all.length - v)) (hX.wf _) X.rd X.dcb X.base ob 0 n co X.W 225 hX.W1 hX.W20 hX.N9 dv cs t (all.drop v) (w.drewN nq) cur rep lit kk hA (by simpa using hL)
    ⟨⟨Keep.refl _ _, (hGR.toGV.drewN V nq).st, (hGR.toGV.drewN V nq).ok, hGR.far, .inl rfl, blk_drewN hob nq, rfl, fun _ _ => rfl, fun j hj => absurd hj (by omega)⟩, hrp.drewN nq⟩ (by simp; omega) hn9 hnc (by omega) (fun x hx => hall x (List.mem_of_mem_drop hx)))
  have hc := blk_cell hdb
  clear hrd hst hok hfar hrp hGR
  go_enter Tryz.func87, Tryz.ntmps87
  go_wp2_with fail
  refine wp_region_mid 9 (by kernel_rfl) (by kernel_rfl) rfl ?_
  simp only [List.take_succ_cons, List.take_zero, List.drop_succ_cons, List.drop_zero]
  repeat (go_big_quiet_step (fail))
  refine wpQuiet_nil ?_
  rintro _ ⟨nq, rfl⟩
  go_wp2_with fail
  refine (HC.out nq).mono ?_
  rintro e w2 ⟨rfl, cur2, rep2, lit2, kk2, dv2, cs2, h2⟩
  obtain ⟨ri2, rp2, hrd2⟩ := h2.rp.src.rd
  have hdb2 : ∀ nq, (w2.drewN nq).heap[X.db]? = some (.cells #[.int .i64 ((all.length - v : Nat) : Int), .slice none 0 0, .int .i64 0, .iface 94 (.agg #[]), .iface 173 (.pointer (some ⟨X.dcb, 0, none⟩)), .pointer (some ⟨X.rd, 0, none⟩), .slice (some ⟨X.g, X.o, none⟩) X.D.length X.sc, .int .i64 ri2, .int .i64 rp2, .slice none 0 0, .slice none 0 0, .slice none 0 0] 105 (0, 0)) := fun nq => blk_drewN hrd2 nq
  have H2 := Lib.hid h2
  have hc2 := fun nq => blk_cell (hdb2 nq)
  have hf2 := fun nq => blk_frozen (hdb2 nq)
  clear hc HC h2 hrd2
  go_wp2_with fail
  repeat (go_big_quiet_step (fail))
  refine wpQuiet_nil ?_
  rintro _ ⟨nq2, rfl⟩
  have hc3 := hc2 nq2
  have hf3 := hf2 nq2
  have hdb3 := hdb2 nq2
  have h3 := H2.out.toGV.drewN V nq2
  have hrp3 := H2.out.rp.drewN nq2
  have H3 := Lib.hid (And.intro h3 hrp3)
  clear hc2 hf2 hdb2 H2 h3 hrp3
  generalize w2.drewN nq2 = w3 at *
  go_wp2_with fail
  go_ret2
  obtain ⟨h3, hrp3⟩ := H3.out
  have hdb4 := blk_set hdb3 0 (.int .i64 (((all.length - v : Nat) : Int) - (n : Int)))
  have hk4 : Keep (fun b => b = X.db) w3 (w3.setCell ⟨X.db, 0, none⟩ (.int .i64 (((all.length - v : Nat) : Int) - (n : Int)))) := (Keep.refl (fun b => b = X.db) w3).setCell (p := ⟨X.db, 0, none⟩) (.inl rfl) _
  rw [show ((all.length - v : Nat) : Int) - (n : Int) = ((all.length - (v + n) : Nat) : Int) by omega] at *
  generalize w3.setCell ⟨X.db, 0, none⟩ (.int .i64 ((all.length - (v + n) : Nat) : Int)) = w4 at *
  have hrp4 := hrp3.env hX (nv' := all.length - (v + n)) hk4 ⟨ri2, rp2, hdb4⟩
  rw [List.drop_drop] at hrp4
  have hobd : ob ≠ X.db := fun e => h1 (.inr (.inl e))
  have hfar4 := h3.far
  have hgr := h3.gr
  refine ⟨rfl, ⟨?_, X.own dv2, fun b hb => ?_, ⟨⟨cur2, rep2, lit2, kk2, dv2, hrp4, h3.st.keep V hk4 hX.d.2.2.2.symm (fun b hb => (hfar4 b hb).2.1) (fun b hb => (hX.f b hb).2.1), h3.ok.next (.inl rfl) hk4.size, fun b hb => ?_, rfl⟩, hvn, ?_⟩⟩, cs2, hk4.blk h3.blk hobd, h3.sz, fun j hj => ?_⟩
  · refine (((Keep.refl _ w).drewN nq).trans (h3.kp.mono (fun b hb => ?_))).trans (hk4.mono (fun b hb => .inl (.inr (.inl hb))))
    rcases hb with e | e | e | e | e | e | e
    · exact .inl (.inl e)
    · exact .inl (.inr (.inl e))
    · exact .inl (.inr (.inr (.inl e)))
    · exact .inl (.inr (.inr (.inr (.inl e))))
    · exact .inl (.inr (.inr (.inr (.inr (.inl e)))))
    · exact .inr (by rw [e])
    · exact .inl (.inr (.inr (.inr (.inr (.inr e)))))
  · rcases hb with e | e | e | e | e | e
    · exact .inl (.inl e)
    · exact .inl (.inr (.inl e))
    · exact .inl (.inr (.inr (.inl e)))
    · exact .inl (.inr (.inr (.inr (.inl e))))
    · exact .inl (.inr (.inr (.inr (.inr (.inl e)))))
    · rcases hgr with e' | ⟨b', e', hl'⟩
      · exact .inl (.inr (.inr (.inr (.inr (.inr (e'.symm.trans e))))))
      · rw [e'] at e
        cases e
        exact .inr (by simpa using hl')
  · have f := hfar4 b hb
    exact ⟨f.1, f.2.1, f.2.2.1, f.2.2.2.1, f.2.2.2.2.1, f.2.2.2.2.2.2.1, f.2.2.2.2.2.2.2⟩
  · have := h3.kp.size
    have := hk4.size
    simp at *
    omega
  · have := h3.ins j hj
    rw [Nat.zero_add] at this
    rw [this]
    simp [List.getD_eq_getElem?_getD, List.getElem?_drop]

set_option maxRecDepth 100000 in
set_option maxHeartbeats 4000000 in
theorem ddiscard88 {VD : World → Nat → Prop} {vals : Nat → Value} {X : DX} {F : Nat → Prop} (V : VDec VD X.pd X.N vals F) (hX : X.Ok F) {all : List Nat} {O : Nat → Prop} {w : World} {v n : Nat}
    (h : DQ (VD := VD) vals X F all O w v) (hvn : v + n ≤ all.length) (hn9 : n ≤ 100000) (hall9 : all.length ≤ 100000) :
    Calls Tryz.prog 88 #[.pointer (some ⟨X.db, 0, none⟩), .int .i64 n] w fun e w' => e = .returned (.tuple #[.int .i64 n, .nilIface]) ∧ DPost (VD := VD) vals X F all O w v n none w' := by
  obtain ⟨⟨cur, rep, lit, kk, dv, hrp, hst, hok, hfar, rfl⟩, hvl, hlg⟩ := h
  obtain ⟨ri, rp, hrd⟩ := hrp.src.rd
  have hdb : w.heap[X.db]? = some (.cells #[.int .i64 ((all.length - v : Nat) : Int), .slice none 0 0, .int .i64 0, .iface 94 (.agg #[]), .iface 173 (.pointer (some ⟨X.dcb, 0, none⟩)), .pointer (some ⟨X.rd, 0, none⟩), .slice (some ⟨X.g, X.o, none⟩) X.D.length X.sc, .int .i64 ri, .int .i64 rp, .slice none 0 0, .slice none 0 0, .slice none 0 0] 105 (0, 0)) := hrd
  have HC := Lib.hid (rdiscard_any (X.E (all.length - v)) w (hX.wf _) X.rd 225 X.W cur rep lit n (all.drop v) ⟨hX.b.2.2.2.1.symm, hX.d.2.2.1.symm, hX.r.1, hX.r.2.1⟩ hX.W1 hX.W20 hrp (by simp; omega) (by omega))
  have hc := blk_cell hdb
  have HH := Lib.hid (And.intro hst (And.intro hok hfar))
  clear hrd hst hok hfar hrp
  go_enter Tryz.func88, Tryz.ntmps88
  go_wp2_with fail
  refine HC.out.mono ?_
  rintro e w2 ⟨rfl, hk2, cur2, rep2, lit2, h2⟩
  obtain ⟨ri2, rp2, hrd2⟩ := h2.src.rd
  have hdb2 : w2.heap[X.db]? = some (.cells #[.int .i64 ((all.length - v : Nat) : Int), .slice none 0 0, .int .i64 0, .iface 94 (.agg #[]), .iface 173 (.pointer (some ⟨X.dcb, 0, none⟩)), .pointer (some ⟨X.rd, 0, none⟩), .slice (some ⟨X.g, X.o, none⟩) X.D.length X.sc, .int .i64 ri2, .int .i64 rp2, .slice none 0 0, .slice none 0 0, .slice none 0 0] 105 (0, 0)) := hrd2
  have H2 := Lib.hid (And.intro h2 hk2)
  have hc2 := blk_cell hdb2
  have hf2 := blk_frozen hdb2
  clear hc HC h2 hrd2 hk2
  go_wp2_with fail
  go_ret2
  obtain ⟨h2, hk2⟩ := H2.out
  obtain ⟨hst, hok, hfar⟩ := HH.out
  have hdb4 := blk_set hdb2 0 (.int .i64 (((all.length - v : Nat) : Int) - (n : Int)))
  have hk4 : Keep (fun b => b = X.db) w2 (w2.setCell ⟨X.db, 0, none⟩ (.int .i64 (((all.length - v : Nat) : Int) - (n : Int)))) := (Keep.refl (fun b => b = X.db) w2).setCell (p := ⟨X.db, 0, none⟩) (.inl rfl) _
  rw [show ((all.length - v : Nat) : Int) - (n : Int) = ((all.length - (v + n) : Nat) : Int) by omega] at *
  generalize w2.setCell ⟨X.db, 0, none⟩ (.int .i64 ((all.length - (v + n) : Nat) : Int)) = w4 at *
  have hrp4 := h2.env hX (nv' := all.length - (v + n)) hk4 ⟨ri2, rp2, hdb4⟩
  rw [List.drop_drop] at hrp4
  have hk5 : Keep (fun b => b = X.bb ∨ b = X.rd ∨ b = X.db) w w4 := (hk2.mono (fun b hb => hb.imp id .inl)).trans (hk4.mono (fun b hb => .inr (.inr hb)))
  refine ⟨rfl, hk5.mono (fun b hb => ?_), X.own dv, fun b hb => .inl hb, ⟨⟨cur2, rep2, lit2, kk, dv, hrp4, hst.keep V hk5 ?_ (fun b hb => ?_) (fun b hb => ?_), hok.next (.inl rfl) hk5.size, hfar, rfl⟩, hvn, ?_⟩⟩
  · rcases hb with e | e | e
    · exact .inl (.inl e)
    · exact .inl (.inr (.inr (.inl e)))
    · exact .inl (.inr (.inl e))
  · rintro (e | e | e)
    · exact hX.b.2.2.2.2 e.symm
    · exact hX.r.2.2 e.symm
    · exact hX.d.2.2.2 e.symm
  · have f := hfar b hb
    rintro (e | e | e)
    · exact f.1 e
    · exact f.2.2.2.2.1 e
    · exact f.2.1 e
  · have f := hX.f b hb
    rintro (e | e | e)
    · exact f.1 e
    · exact f.2.2.1 e
    · exact f.2.1 e
  · have := hk5.size
    omega

set_option maxRecDepth 100000 in
set_option maxHeartbeats 4000000 in
theorem ddecode46 {VD : World → Nat → Prop} {vals : Nat → Value} {X : DX} {F : Nat → Prop} (V : VDec VD X.pd X.N vals F) (hform : ∀ j, ∃ a n c, vals j = .slice a n c) (hX : X.Ok F) {all : List Nat} {O : Nat → Prop} {w : World} {v n ob co : Nat} {cs : Array Value} {t : TypeId}
    (h : DQ (VD := VD) vals X F all O w v) (hall : ∀ x ∈ all, x < X.N) (hvn : v + n ≤ all.length) (hn9 : n ≤ 100000) (hall9 : all.length ≤ 100000) (hob : w.heap[ob]? = some (.cells cs t (0, 0))) (hsz : n ≤ cs.size) (h1 : ¬ O ob) (h2 : ob ≠ X.g) (h3 : ob ≠ 2) (h4 : ¬ F ob) (hnc : n ≤ co) :
    Calls Tryz.prog 46 #[.pointer (some ⟨X.db, 0, none⟩), .slice (some ⟨ob, 0, none⟩) n co] w fun e w' => e = .returned (.tuple #[.int .i64 n, .nilIface]) ∧ DPost (VD := VD) vals X F all O w v n (some ob) w' ∧
      ∃ cs', w'.heap[ob]? = some (.cells cs' t (0, 0)) ∧ cs'.size = cs.size ∧ ∀ j, j < n → cs'[j]? = some (vals (all.getD (v + j) 0)) := by
  have hdbc : w.cell? ⟨X.db, 0, none⟩ = some (.int .i64 ((all.length - v : Nat) : Int)) := by
    obtain ⟨⟨cur, rep, lit, kk, dv, hrp, _⟩, _⟩ := h
    obtain ⟨ri, rp, hrd⟩ := hrp.src.rd
    exact (blk_cell hrd 0).trans rfl
  have hmin : (if ((all.length - v : Nat) : Int) < (n : Int) then ((all.length - v : Nat) : Int) else (n : Int)) = (n : Int) := by split <;> omega
  have hnci : (n : Int) ≤ (co : Int) := by omega
  have HC := Lib.hid (fun nq => ddecode87 V hform hX (w := w.drewN nq) (v := v) (n := n) (ob := ob) (co := co) (cs := cs) (t := t) (O := O) (all := all) (by
    obtain ⟨⟨cur, rep, lit, kk, dv, hrp, hst, hok, hf⟩, a, b⟩ := h
    have hk : Keep (fun _ => False) w (w.drewN nq) := (Keep.refl _ w).drewN nq
    exact ⟨⟨cur, rep, lit, kk, dv, hrp.drewN nq, hst.keep V hk (fun h => h) (fun _ _ h => h) (fun _ _ h => h), hok.next (.inl rfl) hk.size, hf⟩, a, b⟩) hall hvn hn9 hall9 (blk_drewN hob nq) hsz h1 h2 h3 h4 hnc)
  clear h
  go_enter Tryz.func46, Tryz.ntmps46
  go_wp2_with fail
  refine wp_region_mid 6 (by kernel_rfl) (by kernel_rfl) rfl ?_
  simp only [List.take_succ_cons, List.take_zero, List.drop_succ_cons, List.drop_zero]
  repeat (go_big_quiet_step (fail))
  refine wpQuiet_nil ?_
  rintro _ ⟨nq, rfl⟩
  go_wp2_with fail
  refine (HC.out nq).mono ?_
  rintro e w2 ⟨rfl, hp, hcs⟩
  have H2 := Lib.hid (And.intro hp hcs)
  clear HC hp hcs
  go_wp2_with fail
  repeat (go_big_quiet_step (fail))
  refine wpQuiet_nil ?_
  rintro _ ⟨nq2, rfl⟩
  go_wp2_with fail
  go_ret2
  obtain ⟨⟨hk, O', hO', hq⟩, cs', hb, hsz', hin⟩ := H2.out
  refine ⟨rfl, ⟨(((Keep.refl _ w).drewN nq).trans hk).drewN nq2, O', hO', ?_⟩, cs', blk_drewN hb nq2, hsz', hin⟩
  obtain ⟨⟨cur, rep, lit, kk, dv, hrp, hst, hok, hf⟩, a, b⟩ := hq
  have hk : Keep (fun _ => False) w2 (w2.drewN nq2) := (Keep.refl _ w2).drewN nq2
  exact ⟨⟨cur, rep, lit, kk, dv, hrp.drewN nq2, hst.keep V hk (fun h => h) (fun _ _ h => h) (fun _ _ h => h), hok.next (.inl rfl) hk.size, hf⟩, a, b⟩

set_option maxRecDepth 100000 in
set_option maxHeartbeats 4000000 in
theorem ddiscard47 {VD : World → Nat → Prop} {vals : Nat → Value} {X : DX} {F : Nat → Prop} (V : VDec VD X.pd X.N vals F) (hX : X.Ok F) {all : List Nat} {O : Nat → Prop} {w : World} {v n : Nat}
    (h : DQ (VD := VD) vals X F all O w v) (hvn : v + n ≤ all.length) (hn9 : n ≤ 100000) (hall9 : all.length ≤ 100000) :
    Calls Tryz.prog 47 #[.pointer (some ⟨X.db, 0, none⟩), .int .i64 n] w fun e w' => e = .returned (.tuple #[.int .i64 n, .nilIface]) ∧ DPost (VD := VD) vals X F all O w v n none w' := by
  have hdbc : w.cell? ⟨X.db, 0, none⟩ = some (.int .i64 ((all.length - v : Nat) : Int)) := by
    obtain ⟨⟨cur, rep, lit, kk, dv, hrp, _⟩, _⟩ := h
    obtain ⟨ri, rp, hrd⟩ := hrp.src.rd
    exact (blk_cell hrd 0).trans rfl
  have hmin : (if ((all.length - v : Nat) : Int) < (n : Int) then ((all.length - v : Nat) : Int) else (n : Int)) = (n : Int) := by split <;> omega
  have HC := Lib.hid (ddiscard88 V hX h hvn hn9 hall9)
  clear h
  go_enter Tryz.func47, Tryz.ntmps47
  go_wp2_with fail
  refine HC.out.mono ?_
  rintro e w2 ⟨rfl, hp⟩
  go_wp2_with fail
  go_ret2
  exact ⟨rfl, hp⟩
end Go.Proofs.YtdamippibpbjhaaGreatDoor

/-! The decoder of a dictionary's numbers is made: texts. -/
namespace Go.Proofs.YtdamippibpbjhaaGreatDoor
open Go.RowKit

set_option maxRecDepth 100000 in
set_option maxHeartbeats 4000000 in
theorem newBase84 (w : World) : Calls Tryz.prog 84 #[] w fun e w' => e = .returned (.agg #[.int .i64 0, .slice none 0 0, .int .i64 0]) ∧ Keep (fun _ => False) w w' := by
  go_enter Tryz.func84, Tryz.ntmps84
  go_wp2_with fail
  exact bodyPost_ret (v := .agg #[.int .i64 0, .slice none 0 0, .int .i64 0]) (by simp [results, Tryz.results84, go_sem]) rfl ⟨rfl, (Keep.refl _ w).alloc _⟩
set_option maxRecDepth 100000 in
set_option maxHeartbeats 4000000 in
theorem newPlain40 (w : World) : Calls Tryz.prog 40 #[] w fun e w' => ∃ pd, e = .returned (.pointer (some ⟨pd, 0, none⟩)) ∧ Keep (fun _ => False) w w' ∧ w.heap.size ≤ pd ∧ w'.heap[pd]? = some (.cells #[.int .i64 0, .slice none 0 0, .int .i64 0] 89 (0, 0)) := by
  go_enter Tryz.func40, Tryz.ntmps40
  go_wp2_with fail
  refine (newBase84 w).mono ?_
  rintro e w1 ⟨rfl, hk1⟩
  go_wp2_with fail
  go_ret
  exact ⟨w1.heap.size, rfl, hk1.alloc _, hk1.size, blk_new w1 _⟩
set_option maxRecDepth 100000 in
set_option maxHeartbeats 4000000 in
theorem setPlain41 (pd n : Nat) (A : Option Addr) (m c : Nat) (x y z : Value) (t : TypeId) (w : World) (h : w.heap[pd]? = some (.cells #[x, y, z] t (0, 0))) : Calls Tryz.prog 41 #[.pointer (some ⟨pd, 0, none⟩), .int .i64 n, .slice A m c] w fun e w' =>
    e = .returned .nilIface ∧ Keep (fun b => b = pd) w w' ∧ w'.heap[pd]? = some (.cells #[.int .i64 n, .slice A m c, z] t (0, 0)) := by
  have hc := blk_cell h
  have hf := blk_frozen h
  go_enter Tryz.func41, Tryz.ntmps41
  go_wp2_with fail
  go_ret
  refine ⟨rfl, ((Keep.refl (fun b => b = pd) w).setCell (p := ⟨pd, 1, none⟩) (.inl rfl) _).setCell (p := ⟨pd, 0, none⟩) (.inl rfl) _, ?_⟩
  have := blk_set (blk_set h 1 (.slice A m c)) 0 (.int .i64 n)
  simpa using this
/-- A decoder that is made. -/
def dcells (nv : Nat) (dcb : Nat) (rdp : Option Addr) (s : Value) (i p : Int) : Array Value := #[.int .i64 nv, .slice none 0 0, .int .i64 0, .iface 94 (.agg #[]), .iface 173 (.pointer (some ⟨dcb, 0, none⟩)), .pointer rdp, s, .int .i64 i, .int .i64 p, .slice none 0 0, .slice none 0 0, .slice none 0 0]
set_option maxRecDepth 100000 in
set_option maxHeartbeats 4000000 in
theorem newDict43 (pd N : Nat) (w : World) : Calls Tryz.prog 43 #[.iface 94 (.agg #[]), .iface 81 (.pointer (some ⟨pd, 0, none⟩)), .int .i64 N] w fun e w' =>
    ∃ db dcb, e = .returned (.pointer (some ⟨db, 0, none⟩)) ∧ Keep (fun _ => False) w w' ∧ w.heap.size ≤ db ∧ db < dcb ∧ w'.heap[db]? = some (.cells (dcells 0 dcb none (.slice none 0 0) 0 0) 105 (0, 0)) ∧
      w'.heap[dcb]? = some (.cells #[.iface 81 (.pointer (some ⟨pd, 0, none⟩)), .int .i64 N, .slice none 0 0, .slice none 0 0] 175 (0, 0)) := by
  go_enter Tryz.func43, Tryz.ntmps43
  go_wp2_with fail
  refine (newBase84 w).mono ?_
  rintro e w1 ⟨rfl, hk1⟩
  go_upto_region 2 with fail
  obtain ⟨db, hdb⟩ : ∃ db, db = w1.heap.size := ⟨_, rfl⟩
  have hk2 : Keep (fun _ => False) w (w1.alloc (.cells #[.int .i64 0, .slice none 0 0, .int .i64 0, .iface 94 (.agg #[]), .nilIface, .pointer none, .slice none 0 0, .int .i64 0, .int .i64 0, .slice none 0 0, .slice none 0 0, .slice none 0 0] 105)) := hk1.alloc _
  have hd := blk_new w1 (.cells #[.int .i64 0, .slice none 0 0, .int .i64 0, .iface 94 (.agg #[]), .nilIface, .pointer none, .slice none 0 0, .int .i64 0, .int .i64 0, .slice none 0 0, .slice none 0 0, .slice none 0 0] 105)
  have hs1 := hk1.size
  rw [← hdb] at hd hs1 ⊢
  have HDB := Lib.hid hdb
  clear hdb
  generalize w1.alloc (.cells #[.int .i64 0, .slice none 0 0, .int .i64 0, .iface 94 (.agg #[]), .nilIface, .pointer none, .slice none 0 0, .int .i64 0, .int .i64 0, .slice none 0 0, .slice none 0 0, .slice none 0 0] 105) = w2 at *
  have hlt := blk_lt hd
  have hc := blk_cell (blk_alloc hd (.cells #[.iface 81 (.pointer (some ⟨pd, 0, none⟩)), .int .i64 N, .slice none 0 0, .slice none 0 0] 175))
  have hf := blk_frozen (blk_alloc hd (.cells #[.iface 81 (.pointer (some ⟨pd, 0, none⟩)), .int .i64 N, .slice none 0 0, .slice none 0 0] 175))
  go_wp2_with fail
  go_ret
  have hn := blk_new (w2.setCell ⟨db, 4, none⟩ (.iface 173 (.pointer (some ⟨w2.heap.size, 0, none⟩)))) (.cells #[.iface 81 (.pointer (some ⟨pd, 0, none⟩)), .int .i64 N, .slice none 0 0, .slice none 0 0] 175)
  have hb := blk_alloc (blk_set hd 4 (.iface 173 (.pointer (some ⟨w2.heap.size, 0, none⟩)))) (.cells #[.iface 81 (.pointer (some ⟨pd, 0, none⟩)), .int .i64 N, .slice none 0 0, .slice none 0 0] 175)
  exact ⟨db, w2.heap.size, rfl, (hk2.setCell (p := ⟨db, 4, none⟩) (.inr hs1) _).alloc _, hs1, hlt, hb, by simpa using hn⟩
set_option maxRecDepth 100000 in
set_option maxHeartbeats 4000000 in
theorem newRle116 (R : RB) (W : Nat) (w : World) : Calls Tryz.prog 116 #[.pointer (some ⟨R.b, R.o, none⟩), .int .i64 W] w fun e w' =>
    ∃ rd bb, e = .returned (.pointer (some ⟨rd, 0, none⟩)) ∧ Keep (fun _ => False) w w' ∧ w.heap.size ≤ bb ∧ bb < rd ∧ w'.heap[rd]? = some (.cells #[.pointer (some ⟨bb, 0, none⟩), .int .i64 W, .int .u64 0, .int .i32 0, .int .i32 0] 225 (0, 0)) ∧
      ∃ cs, w'.heap[bb]? = some (.cells cs 245 (0, 0)) ∧ BC cs R 0 0 0 0 := by
  go_enter Tryz.func116, Tryz.ntmps116
  go_wp2_with fail
  refine (newBitReader_any R w).mono ?_
  rintro e w1 ⟨rfl, hk1, cs, hcs, hB⟩
  go_wp2_with fail
  go_ret
  exact ⟨w1.heap.size, w.heap.size, rfl, hk1.alloc _, Nat.le_refl _, blk_lt hcs, blk_new w1 _, cs, blk_alloc hcs _, hB⟩
set_option maxRecDepth 100000 in
set_option maxHeartbeats 4000000 in
theorem readerReset115 (db : Nat) (A : Option Addr) (m c nv dcb : Nat) (rdp : Option Addr) (s : Value) (i p : Int) (w : World) (h : w.heap[db]? = some (.cells (dcells nv dcb rdp s i p) 105 (0, 0))) :
    Calls Tryz.prog 115 #[.pointer (some ⟨db, 6, none⟩), .slice A m c] w fun e w' => e = .returned (.tuple #[]) ∧ Keep (fun b => b = db) w w' ∧ w'.heap[db]? = some (.cells (dcells nv dcb rdp (.slice A m c) 0 (-1)) 105 (0, 0)) := by
  unfold dcells at h
  have hc := blk_cell h
  have hf := blk_frozen h
  go_enter Tryz.func115, Tryz.ntmps115
  go_wp2_with fail
  go_end0
  refine ⟨rfl, (((Keep.refl (fun b => b = db) w).setCell (p := ⟨db, 6, none⟩) (.inl rfl) _).setCell (p := ⟨db, 7, none⟩) (.inl rfl) _).setCell (p := ⟨db, 8, none⟩) (.inl rfl) _, ?_⟩
  exact blk_set (blk_set (blk_set h 6 (.slice A m c)) 7 (.int .i64 0)) 8 (.int .i64 (-1))
set_option maxRecDepth 100000 in
set_option maxHeartbeats 4000000 in
theorem resetIdx85 (db g o len cap nv dcb W : Nat) (pre : List Value) (hpre : pre.length = 6) (s : Value) (i p : Int) (w : World) (h : w.heap[db]? = some (.cells (dcells nv dcb none s i p) 105 (0, 0))) :
    Calls Tryz.prog 85 #[.pointer (some ⟨db, 0, none⟩), .slice (some ⟨g, o, none⟩) len cap, .int .i64 W] w fun e w' => e = .returned (.tuple #[]) ∧ Keep (fun b => b = db) w w' ∧
      ∃ rd bb, w.heap.size ≤ bb ∧ bb < rd ∧ w'.heap[db]? = some (.cells (dcells nv dcb (some ⟨rd, 0, none⟩) (.slice (some ⟨g, o, none⟩) len cap) 0 (-1)) 105 (0, 0)) ∧
        w'.heap[rd]? = some (.cells #[.pointer (some ⟨bb, 0, none⟩), .int .i64 W, .int .u64 0, .int .i32 0, .int .i32 0] 225 (0, 0)) ∧ ∃ cs, w'.heap[bb]? = some (.cells cs 245 (0, 0)) ∧ BC cs ⟨db, pre, [.slice none 0 0, .slice none 0 0, .slice none 0 0], 105⟩ 0 0 0 0 := by
  have HR := Lib.hid (readerReset115 db (some ⟨g, o, none⟩) len cap nv dcb none s i p w h)
  go_enter Tryz.func85, Tryz.ntmps85
  go_wp2_with fail
  refine HR.out.mono ?_
  rintro e w1 ⟨rfl, hk1, h1⟩
  have H1 := Lib.hid h1
  unfold dcells at h1
  have hc := blk_cell h1
  have hlt := blk_lt h1
  have HN := Lib.hid (newRle116 ⟨db, pre, [.slice none 0 0, .slice none 0 0, .slice none 0 0], 105⟩ W w1)
  simp only [RB.o, hpre] at HN
  clear h1 HR
  go_wp2_with fail
  refine HN.out.mono ?_
  rintro e w2 ⟨rd, bb, rfl, hk2, hbb, hbr, hrd, cs, hcs, hB⟩
  have h2 := hk2.blk H1.out (fun h => h)
  have hf := blk_frozen h2
  have hc2 := blk_cell h2
  unfold dcells at hc2
  clear hc HN
  go_wp2_with fail
  refine bodyPost_ret (results_none rfl _ _ _) rfl ?_
  have hl1 := hk1.size
  exact ⟨rfl, (hk1.trans (hk2.mono (fun _ h => h.elim))).setCell (p := ⟨db, 5, none⟩) (.inl rfl) _, rd, bb, by omega, hbr, blk_set h2 5 (.pointer (some ⟨rd, 0, none⟩)), blk_far hrd (p := ⟨db, 5, none⟩) (by show db ≠ _; omega) _, cs, blk_far hcs (p := ⟨db, 5, none⟩) (by show db ≠ _; omega) _, hB⟩
set_option maxRecDepth 100000 in
set_option maxHeartbeats 4000000 in
theorem setDict44 (db g o len cap nv n dcb W : Nat) (pre : List Value) (hpre : pre.length = 6) (s : Value) (i p : Int) (w : World) (h : w.heap[db]? = some (.cells (dcells nv dcb none s i p) 105 (0, 0))) (hW20 : W ≤ 20) (hlen : 0 < len) (hcap : len + 1 ≤ cap) (hx : w.cell? ⟨g, o, none⟩ = some (.int .u8 W)) (hg : g ≠ db) :
    Calls Tryz.prog 44 #[.pointer (some ⟨db, 0, none⟩), .int .i64 n, .slice (some ⟨g, o, none⟩) (len + 1) cap] w fun e w' => e = .returned .nilIface ∧ Keep (fun b => b = db) w w' ∧
      ∃ rd bb, w.heap.size ≤ bb ∧ bb < rd ∧ w'.heap[db]? = some (.cells (dcells n dcb (some ⟨rd, 0, none⟩) (.slice (some ⟨g, o + 1, none⟩) len (cap - 1)) 0 (-1)) 105 (0, 0)) ∧
        w'.heap[rd]? = some (.cells #[.pointer (some ⟨bb, 0, none⟩), .int .i64 W, .int .u64 0, .int .i32 0, .int .i32 0] 225 (0, 0)) ∧ ∃ cs, w'.heap[bb]? = some (.cells cs 245 (0, 0)) ∧ BC cs ⟨db, pre, [.slice none 0 0, .slice none 0 0, .slice none 0 0], 105⟩ 0 0 0 0 := by
  have h1 := blk_set h 0 (.int .i64 n)
  have hk1 : Keep (fun b => b = db) w (w.setCell ⟨db, 0, none⟩ (.int .i64 n)) := (Keep.refl (fun b => b = db) w).setCell (p := ⟨db, 0, none⟩) (.inl rfl) _
  have hx1 := hk1.cell hx hg
  have HR := Lib.hid (resetIdx85 db g (o + 1) len (cap - 1) n dcb W pre hpre s i p (w.setCell ⟨db, 0, none⟩ (.int .i64 n)) h1)
  have hc := blk_cell h
  have hf := blk_frozen h
  unfold dcells at hc
  have hlt := blk_lt h
  have hl0 : ((len : Int) + 1 == 0) = false := by simp; omega
  have hW64 : ¬ ((64 : Int) ≤ (W : Int)) := by omega
  have hcap1 : ¬ (cap = 1) := by omega
  clear h
  go_enter Tryz.func44, Tryz.ntmps44
  go_wp2_with fail
  refine HR.out.mono ?_
  rintro e w2 ⟨rfl, hk2, rd, bb, hbb, hbr, hd, hrd, cs, hcs, hB⟩
  go_wp2_with fail
  go_ret
  exact ⟨rfl, hk1.trans hk2, rd, bb, Nat.le_trans hk1.size hbb, hbr, hd, hrd, cs, hcs, hB⟩

/-- The plain decoder of texts, as the converter needs it. -/
theorem textDec {D : List Int} {N : Nat} (Y : TLay D N) (g o pd : Nat) (hB : Bytes D) (hN0 : 0 < N) (hN : N ≤ 1000) (hne : pd ≠ g) : VDec (TSt Y g o pd) pd N (Y.val g o) (fun b => b = pd ∨ b = g) where
  one := fun j => by unfold TLay.val; split <;> rfl
  keep := fun S w w' k ⟨a, c, h1, h2, h3⟩ hk hS => ⟨a, c, hk.blk h1 (hS _ (.inl rfl)), h2, h3.keep hk (hS _ (.inr rfl))⟩
  pF := .inl rfl
  lt := fun w k b ⟨a, c, h1, h2, h3⟩ hb => by
    rcases hb with rfl | rfl
    · exact blk_lt h1
    · have := Y.room 0 hN0
      exact World.block_lt_of_cell? w _ (h3 0 (by omega))
  dec := fun w k m ob cs t h hkm hob hsz hF => texts_any Y g o pd k m ob cs t w hB hN h hkm hob hsz (fun e => hF (.inl e)) (fun e => hF (.inr e)) hne
theorem TLay.form {D : List Int} {N : Nat} (Y : TLay D N) (g o : Nat) : ∀ j, ∃ a n c, Y.val g o j = .slice a n c := fun j => by
  unfold TLay.val
  split <;> exact ⟨_, _, _, rfl⟩
/-- The decoder at its start. -/
theorem DQ.start {VD : World → Nat → Prop} {vals : Nat → Value} {X : DX} {F : Nat → Prop} (hX : X.Ok F) {all : List Nat} {w : World} {rs : List Rle} (hall : all = runVals rs) (hR : RunsAt X.D X.W 0 rs) (hVD : VD w 0) (hF : ∀ b, F b → b < w.heap.size) (hrow : Row w .u8 X.g X.o X.D) (heof : w.cell? ⟨2, 0, none⟩ = some (.iface 226 (.pointer (some X.eof)))) (hg : X.g < w.heap.size)
    (hd : w.heap[X.db]? = some (.cells (dcells all.length X.dcb (some ⟨X.rd, 0, none⟩) (.slice (some ⟨X.g, X.o, none⟩) X.D.length X.sc) 0 (-1)) 105 (0, 0)))
    (hrd : w.heap[X.rd]? = some (.cells #[.pointer (some ⟨X.bb, 0, none⟩), .int .i64 X.W, .int .u64 0, .int .i32 0, .int .i32 0] 225 (0, 0)))
    (hbb : ∃ cs, w.heap[X.bb]? = some (.cells cs 245 (0, 0)) ∧ BC cs (X.E all.length).R 0 0 0 0)
    (hdc : w.heap[X.dcb]? = some (.cells #[.iface 81 (.pointer (some ⟨X.pd, 0, none⟩)), .int .i64 X.N, .slice none 0 0, .slice none 0 0] 175 (0, 0))) (hbase : X.base ≤ w.heap.size) :
    DQ (VD := VD) vals X F all (X.own (.slice none 0 0)) w 0 := by
  refine ⟨⟨0, 0, 0, 0, .slice none 0 0, ⟨hrd, ⟨⟨0, -1, hd⟩, hrow, heof⟩, .inl rfl, by omega, by omega, by omega, 0, 0, 0, rs, ⟨⟨0, 0, hbb⟩, fun h => absurd h (by omega)⟩, by omega, hR, by simp, fun h => absurd h (by omega), Nat.zero_le _, ?_⟩, ⟨hdc, World.ownsRow_nil w _ 106 1, hVD, Nat.zero_le _⟩, ⟨fun h => (hX.f _ h).2.2.2 rfl, fun b hb => (by cases hb), fun e => (by cases e), hbase, blk_lt hdc, hF⟩, fun b hb => (by cases hb), rfl⟩, Nat.zero_le _, hg⟩
  simp [litVals, hall]
end Go.Proofs.YtdamippibpbjhaaGreatDoor

/-! Values of a dictionary are read in batches: texts. -/
namespace Go.Proofs.YtdamippibpbjhaaGreatDoor
open Go.RowKit

/-- A batch is read, or left out. -/
def readB1 (all : List Nat) (s : Nat × List Nat) (b : Int) : Nat × List Nat := (s.1 + b.natAbs, if b < 0 then s.2 else s.2 ++ (all.drop s.1).take b.natAbs)
def readB (all : List Nat) (bs : List Int) : Nat × List Nat := bs.foldl (readB1 all) (0, [])
theorem readB_succ (all : List Nat) (bs : List Int) (c : Nat) (hc : c < bs.length) : readB all (bs.take (c + 1)) = readB1 all (readB all (bs.take c)) (bs.getD c 0) := by
  unfold readB
  rw [List.take_add_one, List.getElem?_eq_getElem hc, List.foldl_append, List.getD_eq_getElem?_getD, List.getElem?_eq_getElem hc]
  rfl
theorem readB_len (all : List Nat) (bs : List Int) : (readB all bs).2.length ≤ (readB all bs).1 := by
  have key : ∀ (bs : List Int) (s : Nat × List Nat), s.2.length ≤ s.1 → (bs.foldl (readB1 all) s).2.length ≤ (bs.foldl (readB1 all) s).1 := by
    intro bs
    induction bs with
    | nil => exact fun s h => h
    | cons b bs ih =>
      refine fun s h => ih _ ?_
      unfold readB1
      split
      · simp only; omega
      · simp only [List.length_append, List.length_take]; omega
  exact key bs (0, []) (Nat.le_refl _)
theorem enters46 (args : Array Value) (w : World) : (callFunc 46 args).run Tryz.prog w = .ok (.enter 46 args) w := enters Tryz.func46 (by kernel_rfl) (by kernel_rfl) args w
theorem enters47 (args : Array Value) (w : World) : (callFunc 47 args).run Tryz.prog w = .ok (.enter 47 args) w := enters Tryz.func47 (by kernel_rfl) (by kernel_rfl) args w
theorem DQ.off {VD : World → Nat → Prop} {vals : Nat → Value} {X : DX} {F : Nat → Prop} (V : VDec VD X.pd X.N vals F) {all : List Nat} {O : Nat → Prop} {w w' : World} {v : Nat} (h : DQ (VD := VD) vals X F all O w v) {S : Nat → Prop} (hk : Keep S w w') (hS : ∀ b, S b → ¬ O b ∧ b ≠ X.g ∧ b ≠ 2 ∧ ¬ F b) : DQ (VD := VD) vals X F all O w' v := by
  obtain ⟨⟨cur, rep, lit, kk, dv, hrp, hst, hok, hfar, rfl⟩, hvl, hlg⟩ := h
  have key : ∀ b, X.own dv b → ¬ S b := fun b hb hs => (hS b hs).1 hb
  exact ⟨⟨cur, rep, lit, kk, dv, hrp.keep hk (key _ (.inl rfl)) (key _ (.inr (.inl rfl))) (fun h => (hS _ h).2.1 rfl) (fun h => (hS _ h).2.2.1 rfl) (key _ (.inr (.inr (.inl rfl)))), hst.keep V hk (key _ (.inr (.inr (.inr (.inl rfl))))) (fun b hb => key _ (.inr (.inr (.inr (.inr (.inr hb)))))) (fun b hb hs => (hS _ hs).2.2.2 hb), hok.next (.inl rfl) hk.size, hfar, rfl⟩, hvl, Nat.lt_of_lt_of_le hlg hk.size⟩
theorem DQ.lt {VD : World → Nat → Prop} {vals : Nat → Value} {X : DX} {F : Nat → Prop} (V : VDec VD X.pd X.N vals F) {all : List Nat} {O : Nat → Prop} {w : World} {v : Nat} (h : DQ (VD := VD) vals X F all O w v) : (∀ b, O b → b < w.heap.size) ∧ X.g < w.heap.size ∧ 2 < w.heap.size ∧ ∀ b, F b → b < w.heap.size := by
  obtain ⟨⟨cur, rep, lit, kk, dv, hrp, hst, hok, hfar, rfl⟩, hvl, hlg⟩ := h
  refine ⟨fun b hb => ?_, hlg, World.block_lt_of_cell? w _ hrp.src.eof, hok.Fl⟩
  obtain ⟨ri, rp, hrd⟩ := hrp.src.rd
  rcases hb with rfl | rfl | rfl | rfl | rfl | hb
  · obtain ⟨off, bo, p, rs, hb, _⟩ := hrp.pos; exact hb.lt
  · exact blk_lt hrd
  · exact blk_lt hrp.cells
  · exact blk_lt hst.cells
  · exact hok.Fl _ V.pF
  · exact (ownsRow_lt hst.own b hb).1
/-- c batches are read. -/
structure Dq2 {VD : World → Nat → Prop} (vals : Nat → Value) (et : TypeId) (X : DX) (F : Nat → Prop) (all : List Nat) (bs : List Int) (O : Nat → Prop) (w : World) (c : Nat) (vv : Value) (wr : World) : Prop where
  st : ∃ O', DQ (VD := VD) vals X F all O' wr (readB all (bs.take c)).1 ∧ wr.ownsRow w.heap.size et 1 vv (readB all (bs.take c)).2.length ((readB all (bs.take c)).2.map vals) ∧ (∀ b, O' b → O b ∨ w.heap.size ≤ b) ∧ (∀ g, vv.ownBlock = some g → ¬ O' g)
  keep : Keep O w wr

set_option maxRecDepth 100000 in
set_option maxHeartbeats 8000000 in
theorem decoded45 {VD : World → Nat → Prop} {vals : Nat → Value} {X : DX} {F : Nat → Prop} (V : VDec VD X.pd X.N vals F) (hform : ∀ j, ∃ a n c, vals j = .slice a n c) (hX : X.Ok F) {all : List Nat} {O : Nat → Prop} {w : World} (h : DQ (VD := VD) vals X F all O w 0) (hall : ∀ x ∈ all, x < X.N) (hall9 : all.length ≤ 20000)
    (gb ob cb : Nat) (bs : List Int) (hbs : Row w .i64 gb ob bs) (hgb : ¬ O gb) (hlen : bs.length ≤ 50) (hfit : ∀ c, c ≤ bs.length → (readB all (bs.take c)).1 ≤ all.length) :
    Calls Tryz.prog 45 #[.slice (some ⟨gb, ob, none⟩) bs.length cb, .func (.func 46) #[.pointer (some ⟨X.db, 0, none⟩)] #[], .func (.func 47) #[.pointer (some ⟨X.db, 0, none⟩)] #[]] w fun e w' =>
      ∃ out, e = .returned (.tuple #[out, .bool true]) ∧ w'.ownsRow w.heap.size 106 1 out (readB all bs).2.length ((readB all bs).2.map vals) ∧ Keep O w w' := by
  have hD0 : Dq2 (VD := VD) vals 106 X F all bs O w 0 (.slice none 0 0) w := ⟨⟨O, h, World.ownsRow_nil w _ 106 1, fun b hb => .inl hb, fun g hg => by cases hg⟩, Keep.refl _ _⟩
  obtain ⟨i2, hi2, hi2z⟩ := Option.map_eq_some_iff.1 info106
  simp only [Prod.mk.injEq] at hi2z
  obtain ⟨hz1, hz2, hz3⟩ := hi2z
  obtain ⟨N, hN⟩ : ∃ N, N = bs.length := ⟨_, rfl⟩
  rw [← hN]
  have HN := Lib.hid hN
  have hN50 : N ≤ 50 := by omega
  have hlt0 := h.lt V
  have HF := Lib.hid (And.intro hfit hlt0)
  clear hN hfit hlt0
  go_enter Tryz.func45, Tryz.ntmps45
  go_wp2_with fail
  go_loopw [6, 9, 10, 11, 12, 13, 14, 17] (fun vv _ _ _ _ _ _ i wr => ∃ c : Nat, c ≤ N ∧ i = .int .i64 c ∧ Dq2 (VD := VD) vals 106 X F all bs O w c vv wr) (fun _ _ _ _ _ _ _ i _ => N - (intOf i).toNat)
  case atStart => exact ⟨0, Nat.zero_le _, rfl, hD0⟩
  case round =>
    obtain ⟨c, hc, rfl, hD⟩ := hrel
    obtain ⟨⟨O1, hst, hown, hO1, hoo⟩, hk⟩ := hD
    by_cases hcN : c < N
    · have hcb : wr.cell? ⟨gb, ob + c, none⟩ = some (.int .i64 (bs.getD c 0)) := (hbs.keep hk hgb) c (by have := HN.out; omega)
      have hnx := readB_succ all bs c (by have := HN.out; omega)
      have hft := HF.out.1 (c + 1) (by have := HN.out; omega)
      rw [hnx] at hft
      generalize hbv : bs.getD c 0 = b at *
      have hol := readB_len all (bs.take c)
      generalize hrb : readB all (bs.take c) = rb at *
      obtain ⟨v, out⟩ := rb
      simp only [readB1] at hft hnx hst hown hol
      have hci : (0 : Int) ≤ (c : Int) := by omega
      have hcn : (c : Int) < (N : Int) := by omega
      clear hrb
      by_cases hneg : b < 0
      · obtain ⟨n, rfl⟩ : ∃ n : Nat, b = -(n : Int) := ⟨(-b).toNat, by omega⟩
        have hna : (-(n : Int)).natAbs = n := by omega
        rw [hna] at hft
        rw [hna, if_pos hneg] at hnx
        have HD := Lib.hid (ddiscard47 V hX hst hft (by omega) (by omega))
        have hnn : -(-(n : Int)) = (n : Int) := by omega
        have hn20 : n ≤ 20000 := by omega
        have HX := Lib.hid hnx
        clear hnx hft
        go_wp2_with fail
        refine HD.out.mono ?_
        rintro e w1 ⟨rfl, hk1, O2, hO2, hst2⟩
        have hk1 := hk1.mono (S' := O1) (fun b hb => hb.elim id (fun h => by cases h))
        have hown1 := ownsRow_keep hown hk1 hoo
        have HR := Lib.hid (show Dq2 (VD := VD) vals 106 X F all bs O w (c + 1) u6 w1 from ⟨⟨O2, by rw [HX.out]; exact hst2, by rw [HX.out]; exact hown1, fun b hb => by rcases hO2 b hb with h | h; exact hO1 b h; have := hk.size; exact .inr (by omega), fun g hg e => by rcases hO2 g e with h | h; exact hoo g hg h; have := (ownsRow_lt hown g hg).1; omega⟩, hk.step hk1 hO1⟩)
        clear HX hst hst2 hown hown1 hO1 hoo hk1 hk HD
        go_wp2_with fail
        go_roundw
        case rel => exact ⟨c + 1, hcN, by go_num, HR.out⟩
        case measure => simp [intOf]; omega
      · obtain ⟨n, rfl⟩ : ∃ n : Nat, b = (n : Int) := ⟨b.toNat, by omega⟩
        have hna : ((n : Int)).natAbs = n := by omega
        rw [hna] at hft
        rw [hna, if_neg hneg] at hnx
        have hmk := make24 (t := 107) (by kernel_rfl) info106 rfl (by omega) n (by omega) wr
        have hnn0 : (0 : Int) ≤ (n : Int) := by omega
        have hn20 : n ≤ 20000 := by omega
        have hnew := blk_new wr (.cells (madeCells #[.slice none 0 0] n) 106)
        have hkA : Keep (fun _ => False) wr (wr.alloc (.cells (madeCells #[.slice none 0 0] n) 106)) := (Keep.refl _ wr).alloc _
        have hst1 := hst.off V hkA (fun _ h => h.elim)
        have hown1 := ownsRow_keep hown hkA (fun _ _ h => h)
        have hltr := hst.lt V
        have hO1n : ¬ O1 wr.heap.size := fun e => by have := hltr.1 _ e; omega
        have HD := Lib.hid (ddecode46 V hform hX (co := n) hst1 hall hft (by omega) (by omega) hnew (by rw [size_madeCells]; simp) hO1n (by omega) (by omega) (fun e => by have := hltr.2.2.2 _ e; omega) (Nat.le_refl _))
        have hroom := hst.vl
        have hr0 := HF.out.2
        have HNX := Lib.hid hnx
        clear hnx
        go_wp2_with fail
        refine HD.out.mono ?_
        rintro e w1 ⟨rfl, ⟨hk1, O2, hO2, hst2⟩, ocs', hoc', hoz, hov⟩
        have hown2 := ownsRow_keep hown1 hk1 (fun g hg e => by rcases e with e | e; exact hoo g hg e; have := (ownsRow_lt hown g hg).1; cases e; omega)
        have hlenk : (((all.drop v).take n).map vals).length = n * 1 := by simp; omega
        have hnews : ∀ j u, (((all.drop v).take n).map vals)[j]? = some u → w1.cell? ((⟨wr.heap.size, 0, none⟩ : Addr).add j) = some u := fun j u hj => by
          have hj' : j < n := by have := (List.getElem?_eq_some_iff.1 hj).1; omega
          rw [addr_add0, blk_cell hoc', hov j hj']
          simp only [List.getElem?_map, List.getElem?_take, hj', if_true, List.getElem?_drop, List.getElem?_eq_getElem (show v + j < all.length by omega), Option.map_some] at hj
          rw [← hj, List.getD_eq_getElem?_getD, List.getElem?_eq_getElem (show v + j < all.length by omega)]
          rfl
        have hones : ∀ u ∈ ((all.drop v).take n).map vals, u.oneCell' = true := fun u hu => by simp only [List.mem_map] at hu; obtain ⟨x, _, rfl⟩ := hu; exact V.one x
        have hb1 : w.heap.size ≤ w1.heap.size := by have := hk.size; have := hk1.size; have := hkA.size; omega
        clear HD hst1 hown1 hnew hmk
        go_wp2_with (first | (at_builtin; refine wpList_append_own_at _ rfl _ _ _ rfl w.heap.size 106 i2 (.slice none 0 0) 1 24 (by kernel_rfl) hi2 hz1 hz2 hz3 rfl (by omega) u6 out.length (out.map vals) rfl hown2 ⟨wr.heap.size, 0, none⟩ n n (((all.drop v).take n).map vals) rfl hlenk hnews hones (by simp only [maxLen]; omega) (by omega) hb1 ?_))
        intro v' w2 hown3 hgrow _ hat3
        have hk2 := grown_keep hgrow
        have hst3 := hst2.off V hk2 (fun b hb => by
          have hlt := ownsRow_lt hown b hb
          refine ⟨fun e => ?_, by omega, by omega, fun e => by have := hr0.2.2.2 b e; omega⟩
          rcases hO2 b e with e | e
          · exact hoo b hb e
          · have := hkA.size; simp at e; omega)
        have hkw : Keep O w w2 := ((hk.step hkA (fun _ h => h.elim)).step hk1 (fun b hb => by
          rcases hb with hb | hb
          · exact hO1 b hb
          · cases hb; exact .inr hk.size)).step hk2 (fun b hb => .inr (ownsRow_lt hown b hb).2)
        have hown4 : w2.ownsRow w.heap.size 106 1 v' (out ++ (all.drop v).take n).length ((out ++ (all.drop v).take n).map vals) := by
          have e1 : (out ++ (all.drop v).take n).length = out.length + n := by
            have : (((all.drop v).take n).map vals).length = ((all.drop v).take n).length := by simp
            rw [List.length_append]; omega
          rw [e1, List.map_append, List.map_take, List.map_drop]
          exact hown3
        have hO2b : ∀ b, O2 b → O b ∨ w.heap.size ≤ b := fun b hb => by
          rcases hO2 b hb with e | e
          · exact hO1 b e
          · have := hk.size; have := hkA.size; exact .inr (by omega)
        have hoo2 : ∀ g, v'.ownBlock = some g → ¬ O2 g := fun g hg e => by
          rcases hat3 with hat3 | hat3
          · rw [hat3] at hg
            rcases hO2 g e with e | e
            · exact hoo g hg e
            · have := (ownsRow_lt hown g hg).1; simp at e; omega
          · rw [hat3] at hg
            cases hg
            have := (hst2.lt V).1 _ e
            omega
        have HR := Lib.hid (show Dq2 (VD := VD) vals 106 X F all bs O w (c + 1) v' w2 from ⟨⟨O2, by rw [HNX.out]; exact hst3, by rw [HNX.out]; exact hown4, hO2b, hoo2⟩, hkw⟩)
        clear hown3 hgrow hat3 hk2 hst2 hown2 hnews hones hk1 hkA hk hown hoo hO2 hst hoc' hov hst3 hown4 hO2b hoo2 hkw
        go_wp2_with fail
        go_roundw
        case rel => exact ⟨c + 1, hcN, by go_num, HR.out⟩
        case measure => simp [intOf]; omega
    · obtain rfl : c = N := by omega
      go_wp2_with fail
      go_ret2
      have := HN.out
      subst this
      rw [List.take_length] at hown
      exact ⟨u6, rfl, hown, hk⟩
set_option maxRecDepth 100000 in
set_option maxHeartbeats 4000000 in
theorem decoded45_nil (A : Option Addr) (cb : Nat) (f g : Value) (w : World) : Calls Tryz.prog 45 #[.slice A 0 cb, f, g] w fun e w' => e = .returned (.tuple #[.slice none 0 0, .bool true]) ∧ w' = w := by
  go_enter Tryz.func45, Tryz.ntmps45
  go_wp2_with fail
  go_loopw [6, 9, 10, 11, 12, 13, 14, 17] (fun vv _ _ _ _ _ _ i wr => vv = .slice none 0 0 ∧ i = .int .i64 0 ∧ wr = w) (fun _ _ _ _ _ _ _ _ _ => 0)
  case atStart => exact ⟨rfl, rfl, rfl⟩
  case round =>
    obtain ⟨rfl, rfl, rfl⟩ := hrel
    go_wp2_with fail
    go_ret2
    exact ⟨rfl, rfl⟩
end Go.Proofs.YtdamippibpbjhaaGreatDoor

/-! Values are made of texts. -/
namespace Go.Proofs.YtdamippibpbjhaaGreatDoor
open Go.RowKit

/-- The cells of a value that is a text. -/
def tcells (s : ByteArray) : List Value := [.bool false, .int .u64 0, .string s, .slice none 0 0]
theorem info47 : (Tryz.prog.info? 47).map (fun i => (i.zero, i.size, i.bytes)) = some (some (.agg #[.bool false, .int .u64 0, .string ⟨#[]⟩, .slice none 0 0]), 4, 56) := by kernel_rfl
theorem enters49 (args : Array Value) (w : World) : (callFunc 49 args).run Tryz.prog w = .ok (.enter 49 args) w := enters Tryz.func49 (by kernel_rfl) (by kernel_rfl) args w

set_option maxRecDepth 100000 in
set_option maxHeartbeats 4000000 in
theorem valueText49 (b o c : Nat) (l : List UInt8) (w : World) (hl : ∀ j (hj : j < l.length), w.cell? ⟨b, o + j, none⟩ = some (.int .u8 (l[j].toNat : Int))) : Calls Tryz.prog 49 #[.slice (some ⟨b, o, none⟩) l.length c] w fun e w' =>
    e = .returned (.agg #[.bool false, .int .u64 0, .string ⟨l.toArray⟩, .slice none 0 0]) ∧ Keep (fun _ => False) w w' := by
  have hkA : Keep (fun _ => False) w (w.alloc (.cells #[.bool false, .int .u64 0, .string ⟨#[]⟩, .slice none 0 0] 47)) := (Keep.refl _ w).alloc _
  have hcv := fun w1 (hk : Keep (fun _ => False) w w1) => run_convert_bytes_back (P := Tryz.prog) w1 106 9 5 ⟨b, o, none⟩ c l (by kernel_rfl) (by kernel_rfl) (by kernel_rfl) (fun j hj => by
    rw [show (⟨b, o, none⟩ : Addr).add j = ⟨b, o + j, none⟩ from by unfold Addr.add; split <;> simp_all]
    exact hk.cell (hl j hj) (fun h => h))
  have hcv1 := hcv _ hkA
  go_enter Tryz.func49, Tryz.ntmps49
  go_wp2_with fail
  exact bodyPost_ret (v := .agg #[.bool false, .int .u64 0, .string ⟨l.toArray⟩, .slice none 0 0]) (by simp [results, Tryz.results49, go_sem]) rfl ⟨rfl, (Keep.refl _ w).alloc _⟩

/-- Cells of many values. -/
def tcellsOf (S : Nat → ByteArray) (k : Nat) : List Value := (List.range k).flatMap fun j => tcells (S j)
theorem tcellsOf_succ (S : Nat → ByteArray) (k : Nat) : tcellsOf S (k + 1) = tcellsOf S k ++ tcells (S k) := by
  simp [tcellsOf, List.range_succ]
set_option maxRecDepth 100000 in
set_option maxHeartbeats 4000000 in
theorem valued48 (base : Nat) (A : Option Addr) (n c : Nat) (xs : List Value) (S : Nat → ByteArray) (w : World) (hn : n ≤ 20000) (hown : w.ownsRow base 106 1 (.slice A n c) n xs)
    (hcall : ∀ j, j < n → ∃ a m d, xs[j]? = some (.slice a m d) ∧ ∀ w1, Keep (fun _ => False) w w1 → Calls Tryz.prog 49 #[.slice a m d] w1 fun e w' => e = .returned (.agg #[.bool false, .int .u64 0, .string (S j), .slice none 0 0]) ∧ Keep (fun _ => False) w1 w') :
    Calls Tryz.prog 48 #[.slice A n c, .func (.func 49) #[] #[]] w fun e w' => ∃ v, e = .returned v ∧ w'.ownsRow w.heap.size 47 4 v n (tcellsOf S n) ∧ Keep (fun _ => False) w w' := by
  obtain ⟨i2, hi2, hi2z⟩ := Option.map_eq_some_iff.1 info47
  simp only [Prod.mk.injEq] at hi2z
  obtain ⟨hz1, hz2, hz3⟩ := hi2z
  have HC := Lib.hid hcall
  have HO := Lib.hid hown
  clear hcall hown
  go_enter Tryz.func48, Tryz.ntmps48
  go_wp2_with fail
  go_loopw [5, 7, 10] (fun vv _ i wr => ∃ k : Nat, k ≤ n ∧ i = .int .i64 k ∧ wr.ownsRow w.heap.size 47 4 vv k (tcellsOf S k) ∧ Keep (fun _ => False) w wr) (fun _ _ i _ => n - (intOf i).toNat)
  case atStart => exact ⟨0, Nat.zero_le _, rfl, World.ownsRow_nil w _ 47 4, Keep.refl _ w⟩
  case round =>
    obtain ⟨k, hk, rfl, hown, hkr⟩ := hrel
    by_cases hkn : k < n
    · obtain ⟨a, m, d, hx, hcl⟩ := HC.out k hkn
      obtain ⟨g, rfl, hcell⟩ := own_cell HO.out k hkn _ hx
      have hcell1 := hkr.cell hcell (fun h => h)
      have HL := Lib.hid (hcl wr hkr)
      have hki : (k : Int) < (n : Int) := by omega
      have hk0 : (0 : Int) ≤ (k : Int) := by omega
      clear hcl hcell hx
      go_wp2_with fail
      refine HL.out.mono ?_
      rintro e w1 ⟨rfl, hk1⟩
      have hown1 := ownsRow_keep hown hk1 (fun _ _ h => h)
      have hk2 := hkr.trans hk1
      have hkA : Keep (fun _ => False) w1 (w1.alloc (.cells #[.bool false, .int .u64 0, .string (S k), .slice none 0 0] 47)) := (Keep.refl _ w1).alloc _
      have hown2 := ownsRow_keep hown1 hkA (fun _ _ h => h)
      have hnew := blk_new w1 (.cells #[.bool false, .int .u64 0, .string (S k), .slice none 0 0] 47)
      have hnews : ∀ j u, (tcells (S k))[j]? = some u → (w1.alloc (.cells #[.bool false, .int .u64 0, .string (S k), .slice none 0 0] 47)).cell? ((⟨w1.heap.size, 0, none⟩ : Addr).add j) = some u := fun j u hj => by
        rw [addr_add0, blk_cell hnew]
        simpa [tcells] using hj
      have hb1 : w.heap.size ≤ (w1.alloc (.cells #[.bool false, .int .u64 0, .string (S k), .slice none 0 0] 47)).heap.size := (hk2.trans hkA).size
      have hones : ∀ u ∈ tcells (S k), u.oneCell' = true := fun u hu => by
        simp only [tcells, List.mem_cons, List.not_mem_nil, or_false] at hu
        rcases hu with rfl | rfl | rfl | rfl <;> rfl
      clear HL
      go_wp2_with (first | (at_builtin; refine wpList_append_own_at _ rfl _ _ _ rfl w.heap.size 47 i2 (.agg #[.bool false, .int .u64 0, .string ⟨#[]⟩, .slice none 0 0]) 4 56 (by kernel_rfl) hi2 hz1 hz2 hz3 rfl (by omega) u5 k (tcellsOf S k) rfl hown2 ⟨w1.heap.size, 0, none⟩ 1 1 (tcells (S k)) rfl rfl hnews hones (by simp only [maxLen]; omega) (by omega) hb1 ?_))
      intro v' w2 hown3 hgrow _ hat3
      rw [← tcellsOf_succ] at hown3
      have hkw : Keep (fun _ => False) w w2 := (hk2.trans hkA).step (grown_keep hgrow) (fun b hb => .inr (ownsRow_lt hown b hb).2)
      have HR := Lib.hid (And.intro hown3 hkw)
      clear hown hown1 hown2 hnew hnews hones hgrow hat3 hkA hk1 hk2 hkr hcell1 hb1 hown3 hkw
      go_wp2_with fail
      go_roundw
      case rel => exact ⟨k + 1, hkn, by go_num, HR.out.1, HR.out.2⟩
      case measure => simp [intOf]; omega
    · obtain rfl : k = n := by omega
      go_wp2_with fail
      go_ret
      exact ⟨u5, rfl, hown, hkr⟩
end Go.Proofs.YtdamippibpbjhaaGreatDoor
