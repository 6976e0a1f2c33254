import Derived.Test.YtamkglgiaiejkaaGreatDoorYx01
/-! The closed facts of the row on decimals that are rounded to a multiple, joined. -/
namespace Go.Proofs.YtamkglgiaiejkaaGreatDoor
set_option maxRecDepth 100000 in
theorem kt_closed : joinedFacts Tryz.prog 3 Tryz.f3 Rows.fnRoundDecimal128ToSpec Rows.fnRoundDecimal128ToRow = true := by
  unfold joinedFacts
  exact (kt_and (kt_and (kt_and (kt_and (kt_and (kt_and (kt_and (kt_and (kt_and (kt_and (kt_and (kt_and (kt_and (kt_and (kt_and (kt_and (kt_and (kt_and (kt_and (kt_and (kt_and (kt_and (kt_and (kt_and (kt_and (kt_and (kt_and (kt_and (kt_and (kt_and (kt_and kt_wf kt_laidOut) kt_mapsRowed) kt_params) kt_namedTie) kt_stops) kt_pstops) kt_knobs) kt_pknobs) kt_inPlace) kt_unfollowed) kt_recurses) kt_named) kt_maps) kt_ifaces) kt_mapsOut) kt_loops) kt_wideKeys) kt_vars) kt_results) kt_ifacesOut) kt_loopsOut) kt_plainKeys) kt_shortTexts) kt_stopsHeard) kt_mayEnter) kt_lifted) kt_make) kt_kinds) kt_pinned) kt_veiled) kt_veiledFits)
end Go.Proofs.YtamkglgiaiejkaaGreatDoor
