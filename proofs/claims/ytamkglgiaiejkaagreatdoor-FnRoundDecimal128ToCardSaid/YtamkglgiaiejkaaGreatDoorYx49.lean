import Derived.Test.YtamkglgiaiejkaaGreatDoorRows
import Derived.ProofKit
import Derived.SevenTiedAt
namespace Go.Proofs.YtamkglgiaiejkaaGreatDoor
theorem cd_goes : false = Rows.fnRoundDecimal128ToRow.goesBy Tryz.pinned.checked.prog := by kernel_rfl
end Go.Proofs.YtamkglgiaiejkaaGreatDoor
