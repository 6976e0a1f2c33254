import Derived.Test.YtamkglgiaiejkaaGreatDoorYx02
import Derived.Test.YtamkglgiaiejkaaGreatDoorYx46
import Derived.Test.YtamkglgiaiejkaaGreatDoorRows
import Derived.Test.YtamkglgiaiejkaaGreatDoorTie
import Derived.Test.YtamkglgiaiejkaaGreatDoorCards
import Derived.ProofKit
import Derived.Lay
import Derived.LaidMore
import Derived.OpenShut
import Derived.SizedLaws
import Derived.ChangeBears2
import Derived.Carry
import Derived.Stop.LaidErr
import Derived.Lib.SmallJoins
import Derived.SevenTiedAt
namespace Go.Proofs.YtamkglgiaiejkaaGreatDoor
open Go.ChangeShapes Go.WideShapes Go.ChangeAt Go.RowKit

theorem pg_own : ownKnob Tryz.prog.godebug = none := by kernel_rfl
theorem pg_params : ([22, 22, 3, 3, 3].all fun t => Tryz.prog.readableRec t && decide (t < Tryz.prog.types.size)) = true := by kernel_rfl
theorem pg_vars : (Rows.fnRoundDecimal128ToSpec.vars.all (varOk Tryz.prog)) = true := by kernel_rfl
theorem trodAll_five {H : Type} {enc : TypeId × Value → H} {P : Program} {w : World} {base : Nat} {spare : Nat → Bool} {held : Bool} {t0 t1 t2 t3 t4 : TypeId} {args : Array Value} {ds : List (DataW H)} {ps : List MemPlace} (h : DataW.TrodAll enc P w base spare held [t0, t1, t2, t3, t4] args.toList ds ps) :
    ∃ v0 v1 v2 v3 v4 d0 d1 d2 d3 d4 p0 p1 p2 p3 p4, args = #[v0, v1, v2, v3, v4] ∧ ds = [d0, d1, d2, d3, d4] ∧ DataW.Trod enc P w base spare held t0 v0 d0 p0 ∧ DataW.Trod enc P w base spare held t1 v1 d1 p1 ∧ DataW.Trod enc P w base spare held t2 v2 d2 p2 ∧ DataW.Trod enc P w base spare held t3 v3 d3 p3 ∧ DataW.Trod enc P w base spare held t4 v4 d4 p4 := by
  obtain ⟨v0, vs0, d0, e0, p0, q0, hargs, rfl, rfl, h0, hr0⟩ := trodAll_cons h
  obtain ⟨v1, vs1, d1, e1, p1, q1, rfl, rfl, rfl, h1, hr1⟩ := trodAll_cons hr0
  obtain ⟨v2, vs2, d2, e2, p2, q2, rfl, rfl, rfl, h2, hr2⟩ := trodAll_cons hr1
  obtain ⟨v3, vs3, d3, e3, p3, q3, rfl, rfl, rfl, h3, hr3⟩ := trodAll_cons hr2
  obtain ⟨v4, vs4, d4, e4, p4, q4, rfl, rfl, rfl, h4, hr4⟩ := trodAll_cons hr3
  obtain ⟨rfl, rfl, rfl⟩ := trodAll_nil hr4
  exact ⟨v0, v1, v2, v3, v4, d0, d1, d2, d3, d4, p0, p1, p2, p3, p4, by cases args; simp_all, rfl, h0, h1, h2, h3, h4⟩

set_option maxHeartbeats 1600000 in
set_option maxRecDepth 100000 in
theorem fnRoundDecimal128To_lifted (os : Os) (started : os.Started) (H : Type) (enc : TypeId × Value → H) :
    ReturnsInHanded {} Tryz.checked os 3 .any (fun w args => (Rows.fnRoundDecimal128ToSpec.pre enc Tryz.prog Tryz.f3 [] false w args ∧ laidMetH Tryz.prog Rows.fnRoundDecimal128ToRow.laid w) ∧ sizedMet enc Tryz.prog Tryz.f3 (OpenSpec.ofChange Rows.fnRoundDecimal128ToSpec) false w args)
      (Rows.fnRoundDecimal128ToSpec.post enc Tryz.prog Tryz.f3 false true false false) := by
  refine returnsInHanded_of_change_and (C := Tryz.checked) (X := fun w _ => laidMetH Tryz.prog Rows.fnRoundDecimal128ToRow.laid w) (fun _ _ _ hh h => h.of_heap hh) pg_own started (by kernel_rfl) Tryz.func3
    (ChangeSpec.witness_shaped (enc := enc) (C := Tryz.checked) (os := os) (X := fun w _ => laidMetH Tryz.prog Rows.fnRoundDecimal128ToRow.laid w) false (World.laidAll Tryz.prog os Rows.fnRoundDecimal128ToRow.laid) #[.slice none 0 0, .slice none 0 0, .int .i64 0, .int .i64 0, .int .i64 0] 8 (World.laidAll_os _ _ _)
      (World.shaped_of_ZipB (by kernel_rfl) (by kernel_rfl)) (by kernel_rfl) (by kernel_rfl) (by kernel_rfl)
      (by rw [MakeChecks.laidMetH_plain _ _ _ (by kernel_rfl)]; exact laidMet_laidAll _ (by kernel_rfl) (by kernel_rfl))) ?_
  intro W base args ds gs before hval0 hW _ _ hL _
  have hval : ∀ (j : Nat) t v, Tryz.f3.params[j]? = some t → args[j]? = some v → Value.okWide Tryz.prog W .any base t v := hval0
  have hW' := hW
  obtain ⟨p, q, hA0, hV, rfl, hfz, hnd⟩ := hW
  have hA : DataW.TrodAll enc Tryz.prog W 0 (fun _ => true) true Tryz.f3.params.toList args.toList ds p := hA0
  rw [Tryz.params3] at hA hval
  rw [MakeChecks.laidMetH_plain _ _ _ (by kernel_rfl)] at hL
  have hargs : ∀ (W' : World), Below W.heap.size W W' → DataW.TrodAll enc Tryz.prog W' 0 (fun b => decide (b < W.heap.size)) true [22, 22, 3, 3, 3] args.toList ds p := fun W' hn =>
    trodAll_below kt_laidOut hn pg_params hA (fun x hx => hW'.lt x (List.mem_append_left _ hx))
  have hvars : ∀ (W' : World), Below W.heap.size W W' → DataW.TrodVars enc Tryz.prog W' (fun b => decide (b < W.heap.size)) Rows.fnRoundDecimal128ToSpec.vars gs q := fun W' hn =>
    trodVars_below kt_laidOut hn pg_vars hV (fun x hx => hW'.lt x (List.mem_append_right _ hx))
  obtain ⟨g0, g1, g2, g3, g4, g5, g6, rfl⟩ := seven_of (trodVars_length hV)
  obtain ⟨v0, v1, v2, v3, v4, d0, d1, d2, d3, d4, p0, p1, p2, p3, p4, rfl, rfl, h0, h1, h2, h3, h4⟩ := trodAll_five hA
  obtain ⟨a0, len0, cap0, rfl⟩ := okWide_slice Tryz.underlying22 (hval 0 22 v0 rfl rfl)
  obtain ⟨a1, len1, cap1, rfl⟩ := okWide_slice Tryz.underlying22 (hval 1 22 v1 rfl rfl)
  obtain ⟨n2, rfl, _, _, _⟩ := open_int Tryz.underlying3 (hval 2 3 v2 rfl rfl) h2
  obtain ⟨n3, rfl, _, _, _⟩ := open_int Tryz.underlying3 (hval 3 3 v3 rfl rfl) h3
  obtain ⟨n4, rfl, _, _, _⟩ := open_int Tryz.underlying3 (hval 4 3 v4 rfl rfl) h4
  obtain ⟨l0, hw0⟩ := words_of h0
  obtain ⟨l1, hw1⟩ := words_of h1
  refine (law3_any l0 l1 _ _ n2 n3 n4 W hw0 hw1 (thr_of_laid hL) (scales_of_laid hL)).mono fun e W' ⟨he, hk⟩ => ?_
  subst he
  have hB : Below W.heap.size W W' := hk.below (Nat.le_refl _) (fun k h => h.elim)
  exact ⟨_, rfl, _, _, _, [], _, _, hW', trodAll_mk1 (shut_bool Tryz.underlying4 _), hargs W' hB, hvars W' hB, hB.frame _, fun h => by cases h⟩
theorem fnRoundDecimal128To_holds : Rows.FnRoundDecimal128ToSaid :=
  OpenClaim.holds_of_wide 3 Tryz.f3 rfl rfl rfl rfl rfl rfl rfl ⟨rfl, rfl, rfl, rfl, rfl⟩ rfl rfl rfl rfl rfl kt_funcNamed Tryz.func3 kt_closed kt_inst kt_wrap
    (fun os started H enc _ => fnRoundDecimal128To_lifted os started H enc)
end Go.Proofs.YtamkglgiaiejkaaGreatDoor
