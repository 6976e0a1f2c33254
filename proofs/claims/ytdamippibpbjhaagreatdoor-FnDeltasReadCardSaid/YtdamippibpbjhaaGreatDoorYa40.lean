import Derived.Test.YtdamippibpbjhaaGreatDoorRows
import Derived.JoinedOf
import Derived.KernelRfl
/-! The closed facts of the row on deltas, each by itself. -/
namespace Go.Proofs.YtdamippibpbjhaaGreatDoor
theorem kf_and {a b : Bool} (ha : a = true) (hb : b = true) : (a && b) = true := by rw [ha, hb]; rfl
theorem kf_wf : Rows.fnDeltasReadRow.wf (OpenSpec.ofChange Rows.fnDeltasReadSpec) = true := by kernel_rfl
theorem kf_laidOut : laidOutB Tryz.prog = true := by kernel_rfl
theorem kf_mapsRowed : mapsRowed Tryz.prog = true := by kernel_rfl
theorem kf_params : Tryz.f3.params.all (Tryz.prog.readableRec ·) = true := by kernel_rfl
theorem kf_namedTie : namedTie Tryz.prog Rows.fnDeltasReadRow.named Rows.fnDeltasReadSpec.vars = true := by kernel_rfl
theorem kf_stops : (Rows.fnDeltasReadRow.stops == []) = true := by kernel_rfl
theorem kf_pstops : (Tryz.prog.stops == []) = true := by kernel_rfl
theorem kf_knobs : (Rows.fnDeltasReadRow.knobs == []) = true := by kernel_rfl
theorem kf_pknobs : (Tryz.prog.stopKnobs == []) = true := by kernel_rfl
theorem kf_inPlace : (Rows.fnDeltasReadRow.inPlace == Tryz.prog.inPlace 3) = true := by kernel_rfl
theorem kf_unfollowed : (Rows.fnDeltasReadRow.unfollowed == Tryz.prog.unfollowed 3) = true := by kernel_rfl
theorem kf_recurses : (Rows.fnDeltasReadRow.recurses == Tryz.prog.recurses 3) = true := by kernel_rfl
theorem kf_named : (Rows.fnDeltasReadRow.named == Tryz.prog.varsNamed 3) = true := by kernel_rfl
theorem kf_maps : (Rows.fnDeltasReadRow.maps == (Tryz.f3.params.toList ++ Rows.fnDeltasReadSpec.plain.varTypes Tryz.prog).any (Tryz.prog.mapsRec ·)) = true := by kernel_rfl
theorem kf_ifaces : (Rows.fnDeltasReadRow.ifaces == (Tryz.f3.params.toList ++ Rows.fnDeltasReadSpec.plain.varTypes Tryz.prog).any (Tryz.prog.ifacesRec ·)) = true := by kernel_rfl
theorem kf_mapsOut : (Rows.fnDeltasReadRow.mapsOut == Tryz.prog.mapsAmong Tryz.f3.resultTypes.toList) = true := by kernel_rfl
theorem kf_loops : (Rows.fnDeltasReadRow.loops == (Tryz.f3.params.toList ++ Rows.fnDeltasReadSpec.plain.varTypes Tryz.prog).any (Tryz.prog.loopsFrom ·)) = true := by kernel_rfl
theorem kf_wideKeys : (Rows.fnDeltasReadRow.wideKeys == (Tryz.f3.params.toList ++ Rows.fnDeltasReadSpec.plain.varTypes Tryz.prog ++ Tryz.f3.resultTypes.toList).any (Tryz.prog.wideKeysFrom ·)) = true := by kernel_rfl
theorem kf_vars : Rows.fnDeltasReadSpec.vars.all (Tryz.prog.varReadable ·) = true := by kernel_rfl
theorem kf_results : Tryz.f3.resultTypes.all (fun t => Tryz.prog.readableRec t && decide (t < Tryz.prog.types.size)) = true := by kernel_rfl
theorem kf_ifacesOut : (Rows.fnDeltasReadRow.ifacesOut == Tryz.f3.resultTypes.toList.any (Tryz.prog.ifacesRec ·)) = true := by kernel_rfl
theorem kf_loopsOut : (Rows.fnDeltasReadRow.loopsOut == Tryz.f3.resultTypes.toList.any (Tryz.prog.loopsFrom ·)) = true := by kernel_rfl
theorem kf_plainKeys : (Rows.fnDeltasReadRow.plainKeys == Tryz.prog.plainKeys) = true := by kernel_rfl
theorem kf_shortTexts : Rows.fnDeltasReadRow.shortTexts.isNone = true := by kernel_rfl
theorem kf_stopsHeard : Tryz.prog.stopsHeard = true := by kernel_rfl
theorem kf_mayEnter : Tryz.prog.mayEnter = true := by kernel_rfl
theorem kf_lifted : (Rows.fnDeltasReadRow.lifted == Tryz.prog.liftsFinal) = true := by kernel_rfl
theorem kf_make : (Tryz.prog.make == some Rows.fnDeltasReadRow.make) = true := by kernel_rfl
theorem kf_kinds : (Rows.fnDeltasReadRow.kinds == (if Rows.fnDeltasReadRow.domain.isEmpty then [] else Tryz.f3.params.toList.map fun t => match Tryz.prog.underlying t with | some (.int k) => some k | _ => Option.none)) = true := by kernel_rfl
theorem kf_pinned : (Rows.fnDeltasReadRow.pinned == Rows.fnDeltasReadRow.pinnedBy) = true := by kernel_rfl
theorem kf_veiled : (Rows.fnDeltasReadRow.veiled == (Tryz.f3.params.toList ++ Rows.fnDeltasReadSpec.plain.varTypes Tryz.prog ++ Tryz.f3.resultTypes.toList).any (Tryz.prog.veiledRec ·)) = true := by kernel_rfl
theorem kf_veiledFits : Rows.fnDeltasReadRow.veiledFits Tryz.prog Tryz.f3.params.toList (Tryz.f3.params.toList ++ Rows.fnDeltasReadSpec.plain.varTypes Tryz.prog ++ Tryz.f3.resultTypes.toList) = true := by kernel_rfl
theorem kf_funcNamed : Tryz.prog.funcNamed "given.example/pub-arrowroot/laws.FnDeltasRead" = some 3 := by kernel_rfl
theorem kf_inst : Tryz.f3.isInstance Tryz.prog Rows.fnDeltasReadRow.origin Rows.fnDeltasReadRow.targs := of_decide_eq_true (by kernel_rfl)
theorem kf_wrap : Tryz.f3.isWrapper Tryz.prog Rows.fnDeltasReadRow.wrapper Rows.fnDeltasReadRow.mainSum := by
  unfold Func.isWrapper
  first | (rw [if_pos (by decide +kernel)]; kernel_rfl) | (rw [if_neg (by decide +kernel)]; exact ⟨rfl, rfl⟩)
end Go.Proofs.YtdamippibpbjhaaGreatDoor
