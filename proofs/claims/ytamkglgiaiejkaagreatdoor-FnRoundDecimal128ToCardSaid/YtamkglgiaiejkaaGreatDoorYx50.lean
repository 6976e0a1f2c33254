/- FnRoundDecimal128To: a decimal that is rounded to a multiple of another one of its scale, in a mode, is the number that the reference says, and one that has more digits than the precision then is refused: for every input the law returns true, and every argument and every listed variable reads as before. Conditions: the package-level variables that the row lists hold what the program's text lays (tied by the card). -/
import Derived.Test.YtamkglgiaiejkaaGreatDoorYx47
import Derived.Test.YtamkglgiaiejkaaGreatDoorYx48
import Derived.Test.YtamkglgiaiejkaaGreatDoorYx49
import Derived.Test.YtamkglgiaiejkaaGreatDoorRows
import Derived.Test.YtamkglgiaiejkaaGreatDoorTie
import Derived.Test.YtamkglgiaiejkaaGreatDoorCards
import Derived.ProofKit
import Derived.SevenTiedAt
namespace Go.Proofs.YtamkglgiaiejkaaGreatDoor
theorem fnRoundDecimal128To_card_holds : Rows.FnRoundDecimal128ToCardSaid :=
  Claim7.holds_tied_plain_at .later [] [.data, .data, .data, .data, .data, .data, .data, .data, .data, .wider, .data, .pinned] true (true, "1a5e7a9675115752e1489929fe1f34c641ef663e3b444b63919a1c554d8d4017") false
    fnRoundDecimal128To_holds (fun _ h => by cases h) cd_wf (fun _ h => by cases h) fnRoundDecimal128To_row_tie rfl ⟨rfl, rfl⟩ cd_main rfl
    (fun f fn hf hfn => by
      obtain rfl : f = 3 := Option.some.inj (cd_named.symm.trans hf) |>.symm
      obtain rfl : fn = Tryz.f3 := (Option.some.inj (Tryz.func3.symm.trans hfn)).symm
      exact ⟨cd_looks, fun j t ht => by
        rw [Tryz.params3] at ht
        have hm : t ∈ [22, 22, 3, 3, 3] := by simpa using Array.mem_of_getElem? ht
        exact (show Tryz.prog.wantsStandIn t = false by simpa using List.all_eq_true.1 cd_stand t hm)⟩)
    cd_goes
#print axioms fnRoundDecimal128To_card_holds
end Go.Proofs.YtamkglgiaiejkaaGreatDoor
