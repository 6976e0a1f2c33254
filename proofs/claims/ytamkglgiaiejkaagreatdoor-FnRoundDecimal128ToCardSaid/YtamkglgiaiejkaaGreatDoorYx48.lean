import Derived.Test.YtamkglgiaiejkaaGreatDoorRows
import Derived.ProofKit
import Derived.SevenTiedAt
namespace Go.Proofs.YtamkglgiaiejkaaGreatDoor
theorem cd_wf : Rows.fnRoundDecimal128ToRow.wfByText (OpenSpec.ofChange Rows.fnRoundDecimal128ToSpec) = true := by kernel_rfl
theorem cd_main : Tryz.pinned.checked.prog.mainIs = some (true, "1a5e7a9675115752e1489929fe1f34c641ef663e3b444b63919a1c554d8d4017".toList) := by kernel_rfl
theorem cd_named : Tryz.prog.funcNamed "given.example/pub-arrowroot/laws.FnRoundDecimal128To" = some 3 := by kernel_rfl
theorem cd_looks : false = Tryz.pinned.checked.prog.looks [] := by kernel_rfl
theorem cd_stand : ([22, 22, 3, 3, 3].all fun u => !Tryz.prog.wantsStandIn u) = true := by kernel_rfl
end Go.Proofs.YtamkglgiaiejkaaGreatDoor
