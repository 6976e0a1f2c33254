import Derived.Test.YtdamippibpbjhaaGreatDoorYa06
import Derived.Test.YtdamippibpbjhaaGreatDoorYa01
import Derived.Test.YtdamippibpbjhaaGreatDoorYa07
/-! A little-endian word off a reader. -/
namespace Go.Proofs.YtdamippibpbjhaaGreatDoor
open Go.RowKit

set_option maxHeartbeats 8000000 in
set_option maxRecDepth 100000 in
theorem leU32_any (g o n c : Nat) (x0 x1 x2 x3 : Int) (w : World) (hn : 4 ≤ n)
    (r0 : 0 ≤ x0 ∧ x0 < 256) (r1 : 0 ≤ x1 ∧ x1 < 256) (r2 : 0 ≤ x2 ∧ x2 < 256) (r3 : 0 ≤ x3 ∧ x3 < 256)
    (c0 : w.cell? ⟨g, o, none⟩ = some (.int .u8 x0)) (c1 : w.cell? ⟨g, o + 1, none⟩ = some (.int .u8 x1)) (c2 : w.cell? ⟨g, o + 2, none⟩ = some (.int .u8 x2)) (c3 : w.cell? ⟨g, o + 3, none⟩ = some (.int .u8 x3)) :
    Calls Tryz.prog 174 #[.agg #[], .slice (some ⟨g, o, none⟩) n c] w fun e w' =>
      e = .returned (.int .u32 (x0 + x1 * 256 + x2 * 65536 + x3 * 16777216)) ∧ Keep (fun _ => False) w w' := by
  obtain ⟨l0, h0⟩ := r0; obtain ⟨l1, h1⟩ := r1; obtain ⟨l2, h2⟩ := r2; obtain ⟨l3, h3⟩ := r3
  have d0 := alloc_cell c0 (.cells #[] 331)
  have d1 := alloc_cell c1 (.cells #[] 331)
  have d2 := alloc_cell c2 (.cells #[] 331)
  have d3 := alloc_cell c3 (.cells #[] 331)
  have q0 : 0 < n := by omega
  have q1 : (1 : Int) < (n : Int) := by omega
  have q2 : (2 : Int) < (n : Int) := by omega
  have q3 : (3 : Int) < (n : Int) := by omega
  go_enter Tryz.func174, Tryz.ntmps174
  go_wp2
  go_quiet (fail)
  go_wp2
  go_ret
  refine ⟨?_, (((Keep.refl _ w).alloc _)).drewN _⟩
  simp (disch := omega) only [u32_or8, u32_or16, u32_or24]
  rfl
set_option maxRecDepth 100000 in
set_option maxHeartbeats 2000000 in
theorem full_any (rb : RB) (g o sc b bo n c i : Nat) (D : List Int) (cs : Array Value) (t : TypeId) (w : World) (hr : Rdr w rb g o sc D i) (hrow : Row w .u8 g o D) (hb : w.heap[b]? = some (.cells cs t (0, 0)))
    (hn : bo + n ≤ cs.size) (hnc : n ≤ c) (hbr : b ≠ rb) (hgb : g ≠ b) (hgr : g ≠ rb) (hi : i + n ≤ D.length) (hn0 : 0 < n) (hsc : D.length ≤ sc) (hD : D.length ≤ 140737488351232) :
    Calls Tryz.prog 216 #[.iface 208 (.pointer (some ⟨rb, rb.o, none⟩)), .slice (some ⟨b, bo, none⟩) n c] w fun e w' =>
      e = .returned (.tuple #[.int .i64 n, .nilIface]) ∧ Keep (fun k => k = rb ∨ k = b) w w' ∧ Rdr w' rb g o sc D (i + n) ∧
      w'.heap[b]? = some (.cells (putA cs bo (nums .u8 ((D.drop i).take n))) t (0, 0)) := by
  have HR := Lib.hid (least_any rb g o sc b bo n c i D cs t w hr hrow hb hn hnc hbr hgb hgr hi hn0 hsc hD)
  go_enter Tryz.func216, Tryz.ntmps216
  go_wp2_with fail
  refine HR.out.mono ?_
  rintro e w1 ⟨rfl, hk, hr1, hb1⟩
  go_wp2_with fail
  go_ret2
  exact ⟨rfl, hk, hr1, hb1⟩

theorem le32_bits (D : List Int) (h : Bytes D) (o : Nat) : D.getD o 0 + D.getD (o + 1) 0 * 256 + D.getD (o + 2) 0 * 65536 + D.getD (o + 3) 0 * 16777216 = (bitsAt D (8 * o) 32 : Nat) := by
  rw [bitsAt_byte D h o, bitsAt_byte D h (o + 1), bitsAt_byte D h (o + 2), bitsAt_byte D h (o + 3)]
  have h1 := bitsAt_add D (8 * o) 8 24
  have h2 := bitsAt_add D (8 * o + 8) 8 16
  have h3 := bitsAt_add D (8 * o + 16) 8 8
  rw [show 8 * (o + 1) = 8 * o + 8 by omega, show 8 * (o + 2) = 8 * o + 16 by omega, show 8 * (o + 3) = 8 * o + 24 by omega]
  simp only [Nat.reduceAdd, Nat.add_assoc] at h1 h2 h3
  omega

set_option maxRecDepth 100000 in
set_option maxHeartbeats 2000000 in
theorem word_said : WordSaid := by
  intro rb pk cp tb to_ i D cs t q w hD hrd hrow htb hto hne hpt hpr hi hcp h128
  have hrb := blk_lt hrd
  have htl := blk_lt htb
  have hpl : pk < w.heap.size := World.block_lt_of_cell? w _ (hrow 0 (by omega))
  have hA : Keep (fun _ => False) w (w.alloc (.cells #[.int .u8 0, .int .u8 0, .int .u8 0, .int .u8 0] 352)) := (Keep.refl _ w).alloc _
  have HF := Lib.hid (full_any (RB.plain rb) pk 0 cp w.heap.size 0 4 4 i D #[.int .u8 0, .int .u8 0, .int .u8 0, .int .u8 0] 352 (w.alloc (.cells #[.int .u8 0, .int .u8 0, .int .u8 0, .int .u8 0] 352)) ⟨q, hA.blk hrd (fun h => h)⟩
    (hrow.keep hA (fun h => h)) (blk_new _ _) (by simp) (by omega) (by show _ ≠ rb; omega) (by omega) hpr (by omega) (by omega) hcp (by omega))
  go_enter Tryz.func222, Tryz.ntmps222
  go_wp2_with fail
  refine HF.out.mono ?_
  rintro e w1 ⟨rfl, hk, ⟨q1, hr1⟩, hb1⟩
  have hk1 : Keep (fun k => k = rb ∨ k = tb) w w1 := (hA.mono (fun _ h => h.elim)).step hk (by rintro k (h | h); exact .inl (.inl h); exact .inr (by omega))
  have ht1 := hk.blk (hA.blk htb (fun h => h)) (by rintro (h | h); exact hne h; omega)
  have hx : ∀ j, j < 4 → w1.cell? ⟨w.heap.size, 0 + j, none⟩ = some (.int .u8 (D.getD (i + j) 0)) := fun j hj => by
    rw [blk_cell hb1, putA_in _ 0 _ j (by simp; omega) (by simp; omega), nums_get (by simp; omega)]
    simp [List.getD_eq_getElem?_getD, List.getElem?_drop, hj]
  have HU := Lib.hid (fun n => leU32_any w.heap.size 0 4 4 _ _ _ _ (w1.drewN n) (by omega) (hD (i + 0)) (hD (i + 1)) (hD (i + 2)) (hD (i + 3)) (hx 0 (by omega)) (hx 1 (by omega)) (hx 2 (by omega)) (hx 3 (by omega)))
  rw [Nat.add_zero, le32_bits D hD i] at HU
  have hcb := blk_cell ht1
  have hfb := blk_frozen ht1
  clear hx HF hA hk
  go_wp2_with fail
  refine wp_region_phases (by kernel_rfl) ?_
  refine wpAny_move 0 (by kernel_rfl) rfl (fun _ _ _ _ h => h) (fun K hK => ?_)
  go_wp2_with fail
  refine wpAny_block (C := fun w' => ∃ m, w' = w1.drewN m) 1 3 3 (by kernel_rfl) rfl ⟨1, rfl⟩ ?_
  simp only [List.take_succ_cons, List.take_zero, List.drop_succ_cons, List.drop_zero, Nat.reduceSub]
  repeat (go_big_quiet_step (fail))
  refine wpQuiet_nil ?_
  rintro _ ⟨nq, rfl⟩
  refine wpAny_alone 3 (by kernel_rfl) rfl ?_
  go_wp2_with fail
  refine (HU.out nq).mono ?_
  rintro e w2 ⟨rfl, hk2⟩
  have hk3 := (hk1.drewN nq).step hk2 (fun _ h => h.elim)
  have ht2 := hk2.blk (blk_drewN ht1 nq) (fun h => h)
  have hr2 := hk2.blk (blk_drewN hr1 nq) (fun h => h)
  have hcb := blk_cell ht2
  have hfb := blk_frozen ht2
  clear HU hk2 hk1 ht1 hb1 hr1
  go_wp2_with fail
  refine wpAny_block (C := fun w' => ∃ m, w' = w2.drewN m) 4 5 1 (by kernel_rfl) rfl ⟨0, rfl⟩ ?_
  simp only [List.take_succ_cons, List.take_zero, List.drop_succ_cons, List.drop_zero, Nat.reduceSub]
  repeat (go_big_quiet_step (fail))
  refine wpQuiet_nil ?_
  rintro _ ⟨nq2, rfl⟩
  refine wpAny_alone 5 (by kernel_rfl) rfl ?_
  go_wp2_with fail
  refine wpAny_end rfl ?_
  go_wp2_with fail
  go_end0
  exact ⟨rfl, (hk3.drewN nq2).setCell (.inl (.inr rfl)) _, ⟨q1, blk_far (blk_drewN hr2 nq2) (p := ⟨tb, to_, none⟩) hne _⟩, blk_set (blk_drewN ht2 nq2) to_ _⟩
end Go.Proofs.YtdamippibpbjhaaGreatDoor

/-! Regions and code of such functions. -/
namespace Go.Proofs.YtdamippibpbjhaaGreatDoor
open Go.RowKit

inductive UE where
  | normal | exit (id : Nat) | ret
def UE.den : UE → Exit
  | .normal => .normal
  | .exit id => .exit id
  | .ret => .ret
/-- Operations that only compute or read. -/
def upre : List Oper → US → Option US
  | [], st => some st
  | o :: rest, st => match o.guard, uval st o.op with
    | none, some v => upre rest (st.put o.dst v)
    | _, _ => none
/-- Such, and perhaps one at the end that writes. -/
def ureg (N : Nat) : List Oper → US → Option US
  | [], st => some st
  | o :: rest, st => match o.guard, uval st o.op with
    | none, some v => ureg N rest (st.put o.dst v)
    | none, none => match rest with
      | [] => ueff N st o
      | _ :: _ => none
    | _, _ => none
def uregD (N : Nat) (l : List Oper) (st : US) : Option US :=
  if blockB .any l.toArray 0 (l.length - 1) && aloneB .any l.toArray (l.length - 1) && decide (l.length = (l.length - 1) + 1) then
    match upre (l.take (l.length - 1)) st, l[l.length - 1]? with
    | some st1, some o => match o.guard with
      | none => ueff N st1 o
      | some _ => none
    | _, _ => none
  else none
def uxl (step : US → Option (UE × US)) : Nat → US → Option (UE × US)
  | 0, _ => none
  | n + 1, st => match step st with
    | some (.normal, st') => uxl step n st'
    | r => r
def ux (N : Nat) : Nat → Code → US → Option (UE × US)
  | 0, _, _ => none
  | f + 1, c, st => match c with
    | .skip => some (.normal, st)
    | .ret => some (.ret, st)
    | .exit id => some (.exit id, st)
    | .seq a b => match ux N f a st with
      | some (.normal, st') => ux N f b st'
      | r => r
    | .cond (.tmp t) a b => match st.tmps[t]? with
      | some (.bool true) => ux N f a st
      | some (.bool false) => ux N f b st
      | _ => none
    | .block id b => match ux N f b st with
      | some (.exit id', st') => if id' = id then some (.normal, st') else some (.exit id', st')
      | r => r
    | .loop b => uxl (ux N f b) f st
    | .region _ ops draw => (if draw then uregD N ops.toList st else ureg N ops.toList st).map fun st' => (.normal, st')
    | _ => none

theorem value_wp {p : UP} {st : US} {w : World} (hp : p.Wf) (hR : UR p st w) {o : Oper} {v : UV} (hv : uval st o.op = some v) {K : Act → World → Prop} {Q : Exit → Act → World → Prop}
    (hK : K ((st.put o.dst v).act p) w) : o.wp Tryz.prog (st.act p) w K Q := by
  unfold Oper.wp
  rw [uval_run hp hR hv]
  show K _ _
  rw [← US.put_act]
  exact hK

theorem reg_wp (HW : WordSaid) {p : UP} (hp : p.Wf) {ops : Array Oper} {Q : Exit → Act → World → Prop} : ∀ (l : List Oper) (st st' : US) (w : World), ureg p.N l st = some st' → UR p st w →
    (∀ w', UR p st' w' → Q .normal (st'.act p) w') → wpList Tryz.prog ops Q l (st.act p) w
  | [], st, st', w, h, hR, hQ => by cases h; exact hQ w hR
  | o :: rest, st, st', w, h, hR, hQ => by
    unfold ureg at h
    split at h
    · rename_i v hg hv
      exact wpList_plain hg fun K hK => value_wp hp hR hv (hK _ _ (reg_wp HW hp rest _ _ _ h (hR.put _ _) hQ))
    · rename_i hg hv
      cases rest with
      | nil => exact wpList_plain hg fun K hK => ueff_wp HW hp hR h fun w' hR' => hK _ _ (hQ w' hR')
      | cons x y => cases h
    · cases h

theorem pre_quiet {p : UP} (hp : p.Wf) {ops : Array Oper} {w : World} {Qa : Act → Prop} : ∀ (l : List Oper) (st st' : US), upre l st = some st' → UR p st w → Qa (st'.act p) →
    wpQuiet Tryz.prog ops (fun w' => ∃ m, w' = w.drewN m) Qa l (st.act p)
  | [], st, st', h, hR, hQ => by cases h; exact hQ
  | o :: rest, st, st', h, hR, hQ => by
    unfold upre at h
    split at h
    · rename_i v hg hv
      refine wpQuiet_step fun K hK => ?_
      simp only [Region.wanted, hg, if_true]
      refine ⟨v.den p, fun w' ⟨m, hm⟩ => ?_, ?_⟩
      · subst hm
        unfold Oper.quietAt
        rw [uval_run hp (hR.drewN m) hv]
        exact ⟨rfl, rfl⟩
      · rw [← US.put_act]
        exact hK _ (pre_quiet hp rest _ _ h (hR.put _ _) hQ)
    · cases h

theorem upre_R {p : UP} {w : World} : ∀ (l : List Oper) (st st' : US), upre l st = some st' → UR p st w → UR p st' w
  | [], st, st', h, hR => by cases h; exact hR
  | o :: rest, st, st', h, hR => by
    unfold upre at h
    split at h
    · exact upre_R rest _ _ h (hR.put _ _)
    · cases h

theorem regD_wp (HW : WordSaid) {p : UP} (hp : p.Wf) {id : Nat} {Q : Exit → Act → World → Prop} (l : List Oper) (st st' : US) (w : World) (h : uregD p.N l st = some st') (hR : UR p st w)
    (hQ : ∀ w', UR p st' w' → Q .normal (st'.act p) w') : (Code.region id l.toArray true).wp Tryz.prog Q (st.act p) w := by
  unfold uregD at h
  split at h
  · rename_i hB
    simp only [Bool.and_eq_true, decide_eq_true_eq] at hB
    obtain ⟨⟨h1, h2⟩, h3⟩ := hB
    split at h
    · rename_i st1 o hst1 ho
      split at h
      · rename_i hg
        refine wp_region_phases (by kernel_rfl) (wpAny_block (C := fun w' => ∃ m, w' = w.drewN m) 0 (l.length - 1) 1 h1 (by omega) ⟨1, rfl⟩ ?_)
        simp only [List.drop_zero, Nat.sub_zero]
        refine pre_quiet hp _ _ _ hst1 hR ?_
        rintro w' ⟨m, rfl⟩
        refine wpAny_alone (l.length - 1) h2 ho ?_
        refine wpList_plain hg fun K hK => ueff_wp HW hp ((upre_R _ _ _ hst1 hR).drewN m) h fun w2 hR2 => hK _ _ ?_
        exact wpAny_end h3 (hQ w2 hR2)
      · cases h
    · cases h
  · cases h

theorem ux_wp (HW : WordSaid) {p : UP} (hp : p.Wf) : ∀ (f : Nat) (c : Code) (st st' : US) (e : UE) (w : World) (Q : Exit → Act → World → Prop), ux p.N f c st = some (e, st') → UR p st w →
    (∀ w', UR p st' w' → Q e.den (st'.act p) w') → c.wp Tryz.prog Q (st.act p) w
  | 0, _, _, _, _, _, _, h, _, _ => by cases h
  | f + 1, c, st, st', e, w, Q, h, hR, hQ => by
    unfold ux at h
    split at h
    · cases h; exact wp_skip (hQ w hR)
    · cases h; exact wp_ret (hQ w hR)
    · cases h; exact wp_exit (hQ w hR)
    · rename_i a b
      refine wp_seq ?_
      split at h
      · rename_i st1 h1
        exact ux_wp HW hp f a st st1 .normal w _ h1 hR fun w1 hR1 => ux_wp HW hp f b st1 st' e w1 Q h hR1 hQ
      · rename_i r hr
        refine ux_wp HW hp f a st st' e w _ h hR fun w1 hR1 => ?_
        cases e with
        | normal => exact (hr st' h).elim
        | exit id => exact hQ w1 hR1
        | ret => exact hQ w1 hR1
    · rename_i t a b
      split at h
      · rename_i ht
        exact wp_cond_true (by simp [Act.eval, US.act, ht, UV.den]) (ux_wp HW hp f a st st' e w Q h hR hQ)
      · rename_i ht
        exact wp_cond_false (by simp [Act.eval, US.act, ht, UV.den]) (ux_wp HW hp f b st st' e w Q h hR hQ)
      · cases h
    · rename_i id b
      refine wp_block ?_
      split at h
      · rename_i id' st1 h1
        split at h
        · rename_i hid
          cases h
          exact ux_wp HW hp f b st st' (.exit id') w _ h1 hR fun w1 hR1 => by
            show Exit.inBlock id Q (.exit id') _ _
            simp only [Exit.inBlock, hid, if_true]
            exact hQ w1 hR1
        · rename_i hid
          cases h
          exact ux_wp HW hp f b st st' (.exit id') w _ h1 hR fun w1 hR1 => by
            show Exit.inBlock id Q (.exit id') _ _
            simp only [Exit.inBlock, hid, if_false]
            exact hQ w1 hR1
      · rename_i r hr
        refine ux_wp HW hp f b st st' e w _ h hR fun w1 hR1 => ?_
        cases e with
        | normal => exact hQ w1 hR1
        | exit id' => exact (hr id' st' h).elim
        | ret => exact hQ w1 hR1
    · rename_i b
      have key : ∀ (n : Nat) (st : US) (w : World), uxl (ux p.N f b) n st = some (e, st') → UR p st w → Code.rounds Tryz.prog b Q n (st.act p) w := by
        intro n
        induction n with
        | zero => intro st w h; cases h
        | succ n ih =>
          intro st w h hR
          unfold uxl at h
          rw [rounds_succ]
          split at h
          · rename_i st1 h1
            exact ux_wp HW hp f b st st1 .normal w _ h1 hR fun w1 hR1 => ih st1 w1 h hR1
          · rename_i r hr
            refine ux_wp HW hp f b st st' e w _ h hR fun w1 hR1 => ?_
            cases e with
            | normal => exact (hr st' h).elim
            | exit id => exact hQ w1 hR1
            | ret => exact hQ w1 hR1
      exact wp_loop_rounds f (key f st w h hR)
    · rename_i id ops draw
      simp only [Option.map_eq_some_iff, Prod.mk.injEq] at h
      obtain ⟨st1, h1, rfl, rfl⟩ := h
      obtain ⟨l⟩ := ops
      cases draw with
      | true => exact regD_wp HW hp l st st1 w h1 hR hQ
      | false => exact wp_region_lit (reg_wp HW hp l st st1 w h1 hR hQ)
    · cases h
end Go.Proofs.YtdamippibpbjhaaGreatDoor

/-! Each of the 32 functions that unpack 32 numbers. -/
namespace Go.Proofs.YtdamippibpbjhaaGreatDoor
open Go.RowKit

def ust (n : Nat) : US := ⟨.inp :: .out :: List.replicate (n - 2) .undef, List.replicate 32 none, none, true, 0⟩
def beqBits : Bits → Bits → Bool
  | [], [] => true
  | none :: l, none :: m => beqBits l m
  | some i :: l, some j :: m => i == j && beqBits l m
  | _, _ => false
theorem beqBits_eq : ∀ (l m : Bits), beqBits l m = true → l = m
  | [], [], _ => rfl
  | none :: l, none :: m, h => by rw [beqBits_eq l m h]
  | some i :: l, some j :: m, h => by
    simp only [beqBits, Bool.and_eq_true, beq_iff_eq] at h
    rw [h.1, beqBits_eq l m h.2]
  | [], _ :: _, h => by cases h
  | _ :: _, [], h => by simp [beqBits] at h
  | none :: _, some _ :: _, h => by cases h
  | some _ :: _, none :: _, h => by cases h
def finalB (N : Nat) (st : US) : Bool := (List.range 32).all fun k => match st.outs[k]? with
  | some (some l) => beqBits l (run (k * N) N)
  | _ => false
def runB (N fuel : Nat) (fn : Func) : Bool := match fn.body with
  | some c => match ux N fuel c (ust fn.ntmps) with
    | some (.normal, st) => finalB N st
    | some (.ret, st) => finalB N st
    | _ => false
  | none => false

theorem unpack_of (HW : WordSaid) {p : UP} (hp : p.Wf) (f : FuncId) (fn : Func) (hf : Tryz.prog.funcs[f]? = some fn) (hres : fn.results = #[]) (fuel : Nat) (hrun : runB p.N fuel fn = true)
    (hcs : p.w0.heap[p.ob]? = some (.cells p.cs0 p.ot (0, 0))) (hu : ∀ k, k < 32 → ∃ x : Int, 0 ≤ x ∧ x < 4294967296 ∧ p.cs0[p.oo + k]? = some (.int .u32 x))
    (hrd : ∃ q : Int, p.w0.heap[p.rb]? = some (.cells #[.slice (some ⟨p.pk, 0, none⟩) p.D.length p.cp, .int .i64 0, .int .i64 q] 101 (0, 0))) (hrow : Row p.w0 .u8 p.pk 0 p.D) :
    Calls Tryz.prog f #[.iface 208 (.pointer (some ⟨p.rb, 0, none⟩)), .slice (some ⟨p.ob, p.oo, none⟩) p.len p.cap] p.w0 fun e w' => e = .returned (.tuple #[]) ∧ Keep (fun k => k = p.ob ∨ k = p.rb) p.w0 w' ∧
      ∃ cs, w'.heap[p.ob]? = some (.cells cs p.ot (0, 0)) ∧ cs.size = p.cs0.size ∧ (∀ j, j < p.oo ∨ p.oo + 32 ≤ j → cs[j]? = p.cs0[j]?) ∧
        ∀ k, k < 32 → cs[p.oo + k]? = some (.int .u32 (bitsAt p.D (k * p.N) p.N : Nat)) := by
  unfold runB at hrun
  split at hrun
  · rename_i c hb
    have hR0 : UR p (ust fn.ntmps) p.w0 :=
      ⟨Keep.refl _ _, ⟨p.cs0, hcs, rfl, fun _ _ => rfl, hu, fun k l h => by
        simp only [ust, List.getElem?_replicate] at h
        split at h <;> cases h⟩, hrd, hrow, (fun l h => nomatch h), fun _ => rfl⟩
    have hact : (ust fn.ntmps).act p = { tmps := #[.iface 208 (.pointer (some ⟨p.rb, 0, none⟩)), .slice (some ⟨p.ob, p.oo, none⟩) p.len p.cap] ++ Array.replicate (fn.ntmps - 2) Go.undef, defers := [] } := by
      simp [US.act, ust, UV.den]
    have hfin : ∀ st w', finalB p.N st = true → UR p st w' → Keep (fun k => k = p.ob ∨ k = p.rb) p.w0 w' ∧
        ∃ cs, w'.heap[p.ob]? = some (.cells cs p.ot (0, 0)) ∧ cs.size = p.cs0.size ∧ (∀ j, j < p.oo ∨ p.oo + 32 ≤ j → cs[j]? = p.cs0[j]?) ∧
          ∀ k, k < 32 → cs[p.oo + k]? = some (.int .u32 (bitsAt p.D (k * p.N) p.N : Nat)) := by
      intro st w' hf hR
      obtain ⟨cs, h1, h2, h3, h4, h5⟩ := hR.outs
      refine ⟨hR.keep, cs, h1, h2, h3, fun k hk => ?_⟩
      have := List.all_eq_true.1 hf k (List.mem_range.2 hk)
      split at this
      · rename_i l hl
        rw [(h5 k l hl).2, beqBits_eq _ _ this, bval_run]
      · cases this
    refine calls_of_wp hf hb ?_
    show c.wp Tryz.prog _ { tmps := #[.iface 208 (.pointer (some ⟨p.rb, 0, none⟩)), .slice (some ⟨p.ob, p.oo, none⟩) p.len p.cap] ++ Array.replicate (fn.ntmps - 2) Go.undef, defers := [] } p.w0
    rw [← hact]
    split at hrun
    · rename_i st hst
      exact ux_wp HW hp fuel c _ st .normal _ _ hst hR0 fun w' hR => ⟨rfl, _, results_none hres _ _ _, rfl, hfin st w' hrun hR⟩
    · rename_i st hst
      exact ux_wp HW hp fuel c _ st .ret _ _ hst hR0 fun w' hR => ⟨rfl, _, results_none hres _ _ _, rfl, hfin st w' hrun hR⟩
    · cases hrun
  · cases hrun
end Go.Proofs.YtdamippibpbjhaaGreatDoor
