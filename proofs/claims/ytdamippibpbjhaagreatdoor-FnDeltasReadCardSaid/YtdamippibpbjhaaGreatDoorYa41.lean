import Derived.Test.YtdamippibpbjhaaGreatDoorYa40
/-! The closed facts of the row on deltas, joined. -/
namespace Go.Proofs.YtdamippibpbjhaaGreatDoor
set_option maxRecDepth 100000 in
theorem kf_closed : joinedFacts Tryz.prog 3 Tryz.f3 Rows.fnDeltasReadSpec Rows.fnDeltasReadRow = true := by
  unfold joinedFacts
  exact (kf_and (kf_and (kf_and (kf_and (kf_and (kf_and (kf_and (kf_and (kf_and (kf_and (kf_and (kf_and (kf_and (kf_and (kf_and (kf_and (kf_and (kf_and (kf_and (kf_and (kf_and (kf_and (kf_and (kf_and (kf_and (kf_and (kf_and (kf_and (kf_and (kf_and (kf_and kf_wf kf_laidOut) kf_mapsRowed) kf_params) kf_namedTie) kf_stops) kf_pstops) kf_knobs) kf_pknobs) kf_inPlace) kf_unfollowed) kf_recurses) kf_named) kf_maps) kf_ifaces) kf_mapsOut) kf_loops) kf_wideKeys) kf_vars) kf_results) kf_ifacesOut) kf_loopsOut) kf_plainKeys) kf_shortTexts) kf_stopsHeard) kf_mayEnter) kf_lifted) kf_make) kf_kinds) kf_pinned) kf_veiled) kf_veiledFits)
end Go.Proofs.YtdamippibpbjhaaGreatDoor
