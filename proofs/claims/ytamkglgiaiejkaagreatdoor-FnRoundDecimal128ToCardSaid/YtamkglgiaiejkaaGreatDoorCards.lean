/-
  DERIVED. GIVEN WITH THE SEED: THE CARDS: each row of YtamkglgiaiejkaaGreatDoorRows.lean that lists a variable, with what it lists TIED to the program's text (the seventh form; the later family's looks); each row that meets fmt, with fmt's text TOLD by the authors' own Lean function (tested against real Go, not proved from fmt's source: count such statements apart). THE CARD IS WHAT COUNTS. Prove the row's statement (the work); the ties are given (YtamkglgiaiejkaaGreatDoorTie.lean); close each card by the builder's one call (the guide's Derived/Test/ToyasCard.lean, 'card_holds'). Laid BY PROGRAM, IN A SANDBOX (cutbox-door.mjs). By AI agents, Wed Nov 11 2026. No macro, syntax, notation, axiom, sorry.
-/
import Derived.Test.YtamkglgiaiejkaaGreatDoorRows
import GoSem.ClaimSeven
namespace Go.Proofs.YtamkglgiaiejkaaGreatDoor
namespace Rows

/-- THE TIED CARD OF 'laws.FnRoundDecimal128To'. -/
def fnRoundDecimal128ToCard : Claim7 := { stood := { row := fnRoundDecimal128ToRow, standIns := [], harness := (true, "1a5e7a9675115752e1489929fe1f34c641ef663e3b444b63919a1c554d8d4017"), looks := false }, kinds := [], alts := [], laidByText := true, laidKinds := [.data, .data, .data, .data, .data, .data, .data, .data, .data, .wider, .data, .pinned], laidTests := true, laidLooks := .later }
def FnRoundDecimal128ToCardSaid : Prop := Claim7.holds Tryz.pinned (.plain (OpenSpec.ofChange fnRoundDecimal128ToSpec)) fnRoundDecimal128ToCard

/-- THE SECOND FORM's CARD OF 'laws.FnRoundDecimal128To'. -/
def fnRoundDecimal128ToUptoCard : Claim7 := { stood := { row := fnRoundDecimal128ToUptoRow, standIns := [], harness := (true, "1a5e7a9675115752e1489929fe1f34c641ef663e3b444b63919a1c554d8d4017"), looks := false }, kinds := [], alts := [], laidByText := true, laidKinds := [.data, .data, .data, .data, .data, .data, .data, .data, .data, .wider, .data, .pinned], laidTests := true, laidLooks := .later }
def FnRoundDecimal128ToUptoCardSaid : Prop := Claim7.holds Tryz.pinned (.plain (OpenSpec.upto fnRoundDecimal128ToSpec)) fnRoundDecimal128ToUptoCard
end Rows
end Go.Proofs.YtamkglgiaiejkaaGreatDoor
