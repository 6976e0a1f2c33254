import Derived.Test.YtdamippibpbjhaaGreatDoorYa45
/-! The closed facts of the row on numbers by a dictionary, joined. -/
namespace Go.Proofs.YtdamippibpbjhaaGreatDoor
set_option maxRecDepth 100000 in
theorem kv_closed : joinedFacts Tryz.prog 5 Tryz.f5 Rows.fnDictionaryInt32ReadSpec Rows.fnDictionaryInt32ReadRow = true := by
  unfold joinedFacts
  exact (kv_and (kv_and (kv_and (kv_and (kv_and (kv_and (kv_and (kv_and (kv_and (kv_and (kv_and (kv_and (kv_and (kv_and (kv_and (kv_and (kv_and (kv_and (kv_and (kv_and (kv_and (kv_and (kv_and (kv_and (kv_and (kv_and (kv_and (kv_and (kv_and (kv_and (kv_and kv_wf kv_laidOut) kv_mapsRowed) kv_params) kv_namedTie) kv_stops) kv_pstops) kv_knobs) kv_pknobs) kv_inPlace) kv_unfollowed) kv_recurses) kv_named) kv_maps) kv_ifaces) kv_mapsOut) kv_loops) kv_wideKeys) kv_vars) kv_results) kv_ifacesOut) kv_loopsOut) kv_plainKeys) kv_shortTexts) kv_stopsHeard) kv_mayEnter) kv_lifted) kv_make) kv_kinds) kv_pinned) kv_veiled) kv_veiledFits)
end Go.Proofs.YtdamippibpbjhaaGreatDoor
