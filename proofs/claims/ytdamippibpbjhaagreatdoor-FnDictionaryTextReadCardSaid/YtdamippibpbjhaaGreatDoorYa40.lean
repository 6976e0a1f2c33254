import Derived.Test.YtdamippibpbjhaaGreatDoorRows
import Derived.JoinedOf
import Derived.KernelRfl
/-! The closed facts of the row on texts by a dictionary, each by itself. -/
namespace Go.Proofs.YtdamippibpbjhaaGreatDoor
theorem kt_and {a b : Bool} (ha : a = true) (hb : b = true) : (a && b) = true := by rw [ha, hb]; rfl
theorem kt_wf : Rows.fnDictionaryTextReadRow.wf (OpenSpec.ofChange Rows.fnDictionaryTextReadSpec) = true := by kernel_rfl
theorem kt_laidOut : laidOutB Tryz.prog = true := by kernel_rfl
theorem kt_mapsRowed : mapsRowed Tryz.prog = true := by kernel_rfl
theorem kt_params : Tryz.f4.params.all (Tryz.prog.readableRec ·) = true := by kernel_rfl
theorem kt_namedTie : namedTie Tryz.prog Rows.fnDictionaryTextReadRow.named Rows.fnDictionaryTextReadSpec.vars = true := by kernel_rfl
theorem kt_stops : (Rows.fnDictionaryTextReadRow.stops == []) = true := by kernel_rfl
theorem kt_pstops : (Tryz.prog.stops == []) = true := by kernel_rfl
theorem kt_knobs : (Rows.fnDictionaryTextReadRow.knobs == []) = true := by kernel_rfl
theorem kt_pknobs : (Tryz.prog.stopKnobs == []) = true := by kernel_rfl
theorem kt_inPlace : (Rows.fnDictionaryTextReadRow.inPlace == Tryz.prog.inPlace 4) = true := by kernel_rfl
theorem kt_unfollowed : (Rows.fnDictionaryTextReadRow.unfollowed == Tryz.prog.unfollowed 4) = true := by kernel_rfl
theorem kt_recurses : (Rows.fnDictionaryTextReadRow.recurses == Tryz.prog.recurses 4) = true := by kernel_rfl
theorem kt_named : (Rows.fnDictionaryTextReadRow.named == Tryz.prog.varsNamed 4) = true := by kernel_rfl
theorem kt_maps : (Rows.fnDictionaryTextReadRow.maps == (Tryz.f4.params.toList ++ Rows.fnDictionaryTextReadSpec.plain.varTypes Tryz.prog).any (Tryz.prog.mapsRec ·)) = true := by kernel_rfl
theorem kt_ifaces : (Rows.fnDictionaryTextReadRow.ifaces == (Tryz.f4.params.toList ++ Rows.fnDictionaryTextReadSpec.plain.varTypes Tryz.prog).any (Tryz.prog.ifacesRec ·)) = true := by kernel_rfl
theorem kt_mapsOut : (Rows.fnDictionaryTextReadRow.mapsOut == Tryz.prog.mapsAmong Tryz.f4.resultTypes.toList) = true := by kernel_rfl
theorem kt_loops : (Rows.fnDictionaryTextReadRow.loops == (Tryz.f4.params.toList ++ Rows.fnDictionaryTextReadSpec.plain.varTypes Tryz.prog).any (Tryz.prog.loopsFrom ·)) = true := by kernel_rfl
theorem kt_wideKeys : (Rows.fnDictionaryTextReadRow.wideKeys == (Tryz.f4.params.toList ++ Rows.fnDictionaryTextReadSpec.plain.varTypes Tryz.prog ++ Tryz.f4.resultTypes.toList).any (Tryz.prog.wideKeysFrom ·)) = true := by kernel_rfl
theorem kt_vars : Rows.fnDictionaryTextReadSpec.vars.all (Tryz.prog.varReadable ·) = true := by kernel_rfl
theorem kt_results : Tryz.f4.resultTypes.all (fun t => Tryz.prog.readableRec t && decide (t < Tryz.prog.types.size)) = true := by kernel_rfl
theorem kt_ifacesOut : (Rows.fnDictionaryTextReadRow.ifacesOut == Tryz.f4.resultTypes.toList.any (Tryz.prog.ifacesRec ·)) = true := by kernel_rfl
theorem kt_loopsOut : (Rows.fnDictionaryTextReadRow.loopsOut == Tryz.f4.resultTypes.toList.any (Tryz.prog.loopsFrom ·)) = true := by kernel_rfl
theorem kt_plainKeys : (Rows.fnDictionaryTextReadRow.plainKeys == Tryz.prog.plainKeys) = true := by kernel_rfl
theorem kt_shortTexts : Rows.fnDictionaryTextReadRow.shortTexts.isNone = true := by kernel_rfl
theorem kt_stopsHeard : Tryz.prog.stopsHeard = true := by kernel_rfl
theorem kt_mayEnter : Tryz.prog.mayEnter = true := by kernel_rfl
theorem kt_lifted : (Rows.fnDictionaryTextReadRow.lifted == Tryz.prog.liftsFinal) = true := by kernel_rfl
theorem kt_make : (Tryz.prog.make == some Rows.fnDictionaryTextReadRow.make) = true := by kernel_rfl
theorem kt_kinds : (Rows.fnDictionaryTextReadRow.kinds == (if Rows.fnDictionaryTextReadRow.domain.isEmpty then [] else Tryz.f4.params.toList.map fun t => match Tryz.prog.underlying t with | some (.int k) => some k | _ => Option.none)) = true := by kernel_rfl
theorem kt_pinned : (Rows.fnDictionaryTextReadRow.pinned == Rows.fnDictionaryTextReadRow.pinnedBy) = true := by kernel_rfl
theorem kt_veiled : (Rows.fnDictionaryTextReadRow.veiled == (Tryz.f4.params.toList ++ Rows.fnDictionaryTextReadSpec.plain.varTypes Tryz.prog ++ Tryz.f4.resultTypes.toList).any (Tryz.prog.veiledRec ·)) = true := by kernel_rfl
theorem kt_veiledFits : Rows.fnDictionaryTextReadRow.veiledFits Tryz.prog Tryz.f4.params.toList (Tryz.f4.params.toList ++ Rows.fnDictionaryTextReadSpec.plain.varTypes Tryz.prog ++ Tryz.f4.resultTypes.toList) = true := by kernel_rfl
theorem kt_funcNamed : Tryz.prog.funcNamed "given.example/pub-arrowroot/laws.FnDictionaryTextRead" = some 4 := by kernel_rfl
theorem kt_inst : Tryz.f4.isInstance Tryz.prog Rows.fnDictionaryTextReadRow.origin Rows.fnDictionaryTextReadRow.targs := of_decide_eq_true (by kernel_rfl)
theorem kt_wrap : Tryz.f4.isWrapper Tryz.prog Rows.fnDictionaryTextReadRow.wrapper Rows.fnDictionaryTextReadRow.mainSum := by
  unfold Func.isWrapper
  first | (rw [if_pos (by decide +kernel)]; kernel_rfl) | (rw [if_neg (by decide +kernel)]; exact ⟨rfl, rfl⟩)
end Go.Proofs.YtdamippibpbjhaaGreatDoor
