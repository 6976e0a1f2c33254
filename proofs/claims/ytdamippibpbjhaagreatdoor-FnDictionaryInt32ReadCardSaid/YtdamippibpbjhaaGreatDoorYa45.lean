import Derived.Test.YtdamippibpbjhaaGreatDoorRows
import Derived.JoinedOf
import Derived.KernelRfl
/-! The closed facts of the row on numbers by a dictionary, each by itself. -/
namespace Go.Proofs.YtdamippibpbjhaaGreatDoor
theorem kv_and {a b : Bool} (ha : a = true) (hb : b = true) : (a && b) = true := by rw [ha, hb]; rfl
theorem kv_wf : Rows.fnDictionaryInt32ReadRow.wf (OpenSpec.ofChange Rows.fnDictionaryInt32ReadSpec) = true := by kernel_rfl
theorem kv_laidOut : laidOutB Tryz.prog = true := by kernel_rfl
theorem kv_mapsRowed : mapsRowed Tryz.prog = true := by kernel_rfl
theorem kv_params : Tryz.f5.params.all (Tryz.prog.readableRec ·) = true := by kernel_rfl
theorem kv_namedTie : namedTie Tryz.prog Rows.fnDictionaryInt32ReadRow.named Rows.fnDictionaryInt32ReadSpec.vars = true := by kernel_rfl
theorem kv_stops : (Rows.fnDictionaryInt32ReadRow.stops == []) = true := by kernel_rfl
theorem kv_pstops : (Tryz.prog.stops == []) = true := by kernel_rfl
theorem kv_knobs : (Rows.fnDictionaryInt32ReadRow.knobs == []) = true := by kernel_rfl
theorem kv_pknobs : (Tryz.prog.stopKnobs == []) = true := by kernel_rfl
theorem kv_inPlace : (Rows.fnDictionaryInt32ReadRow.inPlace == Tryz.prog.inPlace 5) = true := by kernel_rfl
theorem kv_unfollowed : (Rows.fnDictionaryInt32ReadRow.unfollowed == Tryz.prog.unfollowed 5) = true := by kernel_rfl
theorem kv_recurses : (Rows.fnDictionaryInt32ReadRow.recurses == Tryz.prog.recurses 5) = true := by kernel_rfl
theorem kv_named : (Rows.fnDictionaryInt32ReadRow.named == Tryz.prog.varsNamed 5) = true := by kernel_rfl
theorem kv_maps : (Rows.fnDictionaryInt32ReadRow.maps == (Tryz.f5.params.toList ++ Rows.fnDictionaryInt32ReadSpec.plain.varTypes Tryz.prog).any (Tryz.prog.mapsRec ·)) = true := by kernel_rfl
theorem kv_ifaces : (Rows.fnDictionaryInt32ReadRow.ifaces == (Tryz.f5.params.toList ++ Rows.fnDictionaryInt32ReadSpec.plain.varTypes Tryz.prog).any (Tryz.prog.ifacesRec ·)) = true := by kernel_rfl
theorem kv_mapsOut : (Rows.fnDictionaryInt32ReadRow.mapsOut == Tryz.prog.mapsAmong Tryz.f5.resultTypes.toList) = true := by kernel_rfl
theorem kv_loops : (Rows.fnDictionaryInt32ReadRow.loops == (Tryz.f5.params.toList ++ Rows.fnDictionaryInt32ReadSpec.plain.varTypes Tryz.prog).any (Tryz.prog.loopsFrom ·)) = true := by kernel_rfl
theorem kv_wideKeys : (Rows.fnDictionaryInt32ReadRow.wideKeys == (Tryz.f5.params.toList ++ Rows.fnDictionaryInt32ReadSpec.plain.varTypes Tryz.prog ++ Tryz.f5.resultTypes.toList).any (Tryz.prog.wideKeysFrom ·)) = true := by kernel_rfl
theorem kv_vars : Rows.fnDictionaryInt32ReadSpec.vars.all (Tryz.prog.varReadable ·) = true := by kernel_rfl
theorem kv_results : Tryz.f5.resultTypes.all (fun t => Tryz.prog.readableRec t && decide (t < Tryz.prog.types.size)) = true := by kernel_rfl
theorem kv_ifacesOut : (Rows.fnDictionaryInt32ReadRow.ifacesOut == Tryz.f5.resultTypes.toList.any (Tryz.prog.ifacesRec ·)) = true := by kernel_rfl
theorem kv_loopsOut : (Rows.fnDictionaryInt32ReadRow.loopsOut == Tryz.f5.resultTypes.toList.any (Tryz.prog.loopsFrom ·)) = true := by kernel_rfl
theorem kv_plainKeys : (Rows.fnDictionaryInt32ReadRow.plainKeys == Tryz.prog.plainKeys) = true := by kernel_rfl
theorem kv_shortTexts : Rows.fnDictionaryInt32ReadRow.shortTexts.isNone = true := by kernel_rfl
theorem kv_stopsHeard : Tryz.prog.stopsHeard = true := by kernel_rfl
theorem kv_mayEnter : Tryz.prog.mayEnter = true := by kernel_rfl
theorem kv_lifted : (Rows.fnDictionaryInt32ReadRow.lifted == Tryz.prog.liftsFinal) = true := by kernel_rfl
theorem kv_make : (Tryz.prog.make == some Rows.fnDictionaryInt32ReadRow.make) = true := by kernel_rfl
theorem kv_kinds : (Rows.fnDictionaryInt32ReadRow.kinds == (if Rows.fnDictionaryInt32ReadRow.domain.isEmpty then [] else Tryz.f5.params.toList.map fun t => match Tryz.prog.underlying t with | some (.int k) => some k | _ => Option.none)) = true := by kernel_rfl
theorem kv_pinned : (Rows.fnDictionaryInt32ReadRow.pinned == Rows.fnDictionaryInt32ReadRow.pinnedBy) = true := by kernel_rfl
theorem kv_veiled : (Rows.fnDictionaryInt32ReadRow.veiled == (Tryz.f5.params.toList ++ Rows.fnDictionaryInt32ReadSpec.plain.varTypes Tryz.prog ++ Tryz.f5.resultTypes.toList).any (Tryz.prog.veiledRec ·)) = true := by kernel_rfl
theorem kv_veiledFits : Rows.fnDictionaryInt32ReadRow.veiledFits Tryz.prog Tryz.f5.params.toList (Tryz.f5.params.toList ++ Rows.fnDictionaryInt32ReadSpec.plain.varTypes Tryz.prog ++ Tryz.f5.resultTypes.toList) = true := by kernel_rfl
theorem kv_funcNamed : Tryz.prog.funcNamed "given.example/pub-arrowroot/laws.FnDictionaryInt32Read" = some 5 := by kernel_rfl
theorem kv_inst : Tryz.f5.isInstance Tryz.prog Rows.fnDictionaryInt32ReadRow.origin Rows.fnDictionaryInt32ReadRow.targs := of_decide_eq_true (by kernel_rfl)
theorem kv_wrap : Tryz.f5.isWrapper Tryz.prog Rows.fnDictionaryInt32ReadRow.wrapper Rows.fnDictionaryInt32ReadRow.mainSum := by
  unfold Func.isWrapper
  first | (rw [if_pos (by decide +kernel)]; kernel_rfl) | (rw [if_neg (by decide +kernel)]; exact ⟨rfl, rfl⟩)
end Go.Proofs.YtdamippibpbjhaaGreatDoor
