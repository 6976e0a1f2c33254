import Derived.Test.YtamkglgiaiejkaaGreatDoorRows
import Derived.JoinedOf
import Derived.KernelRfl
/-! The closed facts of the row on decimals that are rounded to a multiple, each by itself. -/
namespace Go.Proofs.YtamkglgiaiejkaaGreatDoor
theorem kt_and {a b : Bool} (ha : a = true) (hb : b = true) : (a && b) = true := by rw [ha, hb]; rfl
theorem kt_wf : Rows.fnRoundDecimal128ToRow.wf (OpenSpec.ofChange Rows.fnRoundDecimal128ToSpec) = true := by kernel_rfl
theorem kt_laidOut : laidOutB Tryz.prog = true := by kernel_rfl
theorem kt_mapsRowed : mapsRowed Tryz.prog = true := by kernel_rfl
theorem kt_params : Tryz.f3.params.all (Tryz.prog.readableRec ·) = true := by kernel_rfl
theorem kt_namedTie : namedTie Tryz.prog Rows.fnRoundDecimal128ToRow.named Rows.fnRoundDecimal128ToSpec.vars = true := by kernel_rfl
theorem kt_stops : (Rows.fnRoundDecimal128ToRow.stops == []) = true := by kernel_rfl
theorem kt_pstops : (Tryz.prog.stops == []) = true := by kernel_rfl
theorem kt_knobs : (Rows.fnRoundDecimal128ToRow.knobs == []) = true := by kernel_rfl
theorem kt_pknobs : (Tryz.prog.stopKnobs == []) = true := by kernel_rfl
theorem kt_inPlace : (Rows.fnRoundDecimal128ToRow.inPlace == Tryz.prog.inPlace 3) = true := by kernel_rfl
theorem kt_unfollowed : (Rows.fnRoundDecimal128ToRow.unfollowed == Tryz.prog.unfollowed 3) = true := by kernel_rfl
theorem kt_recurses : (Rows.fnRoundDecimal128ToRow.recurses == Tryz.prog.recurses 3) = true := by kernel_rfl
theorem kt_named : (Rows.fnRoundDecimal128ToRow.named == Tryz.prog.varsNamed 3) = true := by kernel_rfl
theorem kt_maps : (Rows.fnRoundDecimal128ToRow.maps == (Tryz.f3.params.toList ++ Rows.fnRoundDecimal128ToSpec.plain.varTypes Tryz.prog).any (Tryz.prog.mapsRec ·)) = true := by kernel_rfl
theorem kt_ifaces : (Rows.fnRoundDecimal128ToRow.ifaces == (Tryz.f3.params.toList ++ Rows.fnRoundDecimal128ToSpec.plain.varTypes Tryz.prog).any (Tryz.prog.ifacesRec ·)) = true := by kernel_rfl
theorem kt_mapsOut : (Rows.fnRoundDecimal128ToRow.mapsOut == Tryz.prog.mapsAmong Tryz.f3.resultTypes.toList) = true := by kernel_rfl
theorem kt_loops : (Rows.fnRoundDecimal128ToRow.loops == (Tryz.f3.params.toList ++ Rows.fnRoundDecimal128ToSpec.plain.varTypes Tryz.prog).any (Tryz.prog.loopsFrom ·)) = true := by kernel_rfl
theorem kt_wideKeys : (Rows.fnRoundDecimal128ToRow.wideKeys == (Tryz.f3.params.toList ++ Rows.fnRoundDecimal128ToSpec.plain.varTypes Tryz.prog ++ Tryz.f3.resultTypes.toList).any (Tryz.prog.wideKeysFrom ·)) = true := by kernel_rfl
theorem kt_vars : Rows.fnRoundDecimal128ToSpec.vars.all (Tryz.prog.varReadable ·) = true := by kernel_rfl
theorem kt_results : Tryz.f3.resultTypes.all (fun t => Tryz.prog.readableRec t && decide (t < Tryz.prog.types.size)) = true := by kernel_rfl
theorem kt_ifacesOut : (Rows.fnRoundDecimal128ToRow.ifacesOut == Tryz.f3.resultTypes.toList.any (Tryz.prog.ifacesRec ·)) = true := by kernel_rfl
theorem kt_loopsOut : (Rows.fnRoundDecimal128ToRow.loopsOut == Tryz.f3.resultTypes.toList.any (Tryz.prog.loopsFrom ·)) = true := by kernel_rfl
theorem kt_plainKeys : (Rows.fnRoundDecimal128ToRow.plainKeys == Tryz.prog.plainKeys) = true := by kernel_rfl
theorem kt_shortTexts : Rows.fnRoundDecimal128ToRow.shortTexts.isNone = true := by kernel_rfl
theorem kt_stopsHeard : Tryz.prog.stopsHeard = true := by kernel_rfl
theorem kt_mayEnter : Tryz.prog.mayEnter = true := by kernel_rfl
theorem kt_lifted : (Rows.fnRoundDecimal128ToRow.lifted == Tryz.prog.liftsFinal) = true := by kernel_rfl
theorem kt_make : (Tryz.prog.make == some Rows.fnRoundDecimal128ToRow.make) = true := by kernel_rfl
theorem kt_kinds : (Rows.fnRoundDecimal128ToRow.kinds == (if Rows.fnRoundDecimal128ToRow.domain.isEmpty then [] else Tryz.f3.params.toList.map fun t => match Tryz.prog.underlying t with | some (.int k) => some k | _ => Option.none)) = true := by kernel_rfl
theorem kt_pinned : (Rows.fnRoundDecimal128ToRow.pinned == Rows.fnRoundDecimal128ToRow.pinnedBy) = true := by kernel_rfl
theorem kt_veiled : (Rows.fnRoundDecimal128ToRow.veiled == (Tryz.f3.params.toList ++ Rows.fnRoundDecimal128ToSpec.plain.varTypes Tryz.prog ++ Tryz.f3.resultTypes.toList).any (Tryz.prog.veiledRec ·)) = true := by kernel_rfl
theorem kt_veiledFits : Rows.fnRoundDecimal128ToRow.veiledFits Tryz.prog Tryz.f3.params.toList (Tryz.f3.params.toList ++ Rows.fnRoundDecimal128ToSpec.plain.varTypes Tryz.prog ++ Tryz.f3.resultTypes.toList) = true := by kernel_rfl
theorem kt_funcNamed : Tryz.prog.funcNamed "given.example/pub-arrowroot/laws.FnRoundDecimal128To" = some 3 := by kernel_rfl
theorem kt_inst : Tryz.f3.isInstance Tryz.prog Rows.fnRoundDecimal128ToRow.origin Rows.fnRoundDecimal128ToRow.targs := of_decide_eq_true (by kernel_rfl)
theorem kt_wrap : Tryz.f3.isWrapper Tryz.prog Rows.fnRoundDecimal128ToRow.wrapper Rows.fnRoundDecimal128ToRow.mainSum := by
  unfold Func.isWrapper
  first | (rw [if_pos (by decide +kernel)]; kernel_rfl) | (rw [if_neg (by decide +kernel)]; exact ⟨rfl, rfl⟩)
end Go.Proofs.YtamkglgiaiejkaaGreatDoor
