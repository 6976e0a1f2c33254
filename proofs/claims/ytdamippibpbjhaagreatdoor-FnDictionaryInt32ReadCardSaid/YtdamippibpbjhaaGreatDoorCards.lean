/-
  DERIVED. GIVEN WITH THE SEED: THE CARDS: each row of YtdamippibpbjhaaGreatDoorRows.lean that lists a variable, with what it lists TIED to the program's text (the seventh form; the later family's looks); each row that meets fmt, with fmt's text TOLD by the authors' own Lean function (tested against real Go, not proved from fmt's source: count such statements apart). THE CARD IS WHAT COUNTS. Prove the row's statement (the work); the ties are given (YtdamippibpbjhaaGreatDoorTie.lean); close each card by the builder's one call (the guide's Derived/Test/ToyasCard.lean, 'card_holds'). Laid BY PROGRAM, IN A SANDBOX (cutbox-door.mjs). By AI agents, Wed Nov 11 2026. No macro, syntax, notation, axiom, sorry.
-/
import Derived.Test.YtdamippibpbjhaaGreatDoorRows
import GoSem.ClaimSeven
namespace Go.Proofs.YtdamippibpbjhaaGreatDoor
namespace Rows

/-- THE TIED CARD OF 'laws.FnDeltasRead'. -/
def fnDeltasReadCard : Claim7 := { stood := { row := fnDeltasReadRow, standIns := [], harness := (true, "34835d5007dda4f527edb23964953bbbf50ab3bc038100cceb874db339aef2da"), looks := true }, kinds := [], alts := [], laidByText := true, laidKinds := [.sentinel, .sentinel, .sentinel, .sentinel], laidTests := true, laidLooks := .later }
def FnDeltasReadCardSaid : Prop := Claim7.holds Tryz.pinned (.plain (OpenSpec.ofChange fnDeltasReadSpec)) fnDeltasReadCard

/-- THE TIED CARD OF 'laws.FnDictionaryTextRead'. -/
def fnDictionaryTextReadCard : Claim7 := { stood := { row := fnDictionaryTextReadRow, standIns := [], harness := (true, "34835d5007dda4f527edb23964953bbbf50ab3bc038100cceb874db339aef2da"), looks := true }, kinds := [], alts := [], laidByText := true, laidKinds := [.sentinel, .sentinel, .sentinel, .sentinel], laidTests := true, laidLooks := .later }
def FnDictionaryTextReadCardSaid : Prop := Claim7.holds Tryz.pinned (.plain (OpenSpec.ofChange fnDictionaryTextReadSpec)) fnDictionaryTextReadCard

/-- THE TIED CARD OF 'laws.FnDictionaryInt32Read'. -/
def fnDictionaryInt32ReadCard : Claim7 := { stood := { row := fnDictionaryInt32ReadRow, standIns := [], harness := (true, "34835d5007dda4f527edb23964953bbbf50ab3bc038100cceb874db339aef2da"), looks := true }, kinds := [], alts := [], laidByText := true, laidKinds := [.sentinel, .sentinel, .sentinel, .sentinel], laidTests := true, laidLooks := .later }
def FnDictionaryInt32ReadCardSaid : Prop := Claim7.holds Tryz.pinned (.plain (OpenSpec.ofChange fnDictionaryInt32ReadSpec)) fnDictionaryInt32ReadCard

/-- THE TIED CARD OF 'laws.FnDictionaryInt64Between'. -/
def fnDictionaryInt64BetweenCard : Claim7 := { stood := { row := fnDictionaryInt64BetweenRow, standIns := [], harness := (true, "34835d5007dda4f527edb23964953bbbf50ab3bc038100cceb874db339aef2da"), looks := true }, kinds := [], alts := [], laidByText := true, laidKinds := [.sentinel, .sentinel, .sentinel, .sentinel, .data, .data], laidTests := true, laidLooks := .later }
def FnDictionaryInt64BetweenCardSaid : Prop := Claim7.holds Tryz.pinned (.plain (OpenSpec.ofChange fnDictionaryInt64BetweenSpec)) fnDictionaryInt64BetweenCard

/-- THE SECOND FORM's CARD OF 'laws.FnDeltasRead'. -/
def fnDeltasReadUptoCard : Claim7 := { stood := { row := fnDeltasReadUptoRow, standIns := [], harness := (true, "34835d5007dda4f527edb23964953bbbf50ab3bc038100cceb874db339aef2da"), looks := true }, kinds := [], alts := [], laidByText := true, laidKinds := [.sentinel, .sentinel, .sentinel, .sentinel], laidTests := true, laidLooks := .later }
def FnDeltasReadUptoCardSaid : Prop := Claim7.holds Tryz.pinned (.plain (OpenSpec.upto fnDeltasReadSpec)) fnDeltasReadUptoCard

/-- THE SECOND FORM's CARD OF 'laws.FnDictionaryTextRead'. -/
def fnDictionaryTextReadUptoCard : Claim7 := { stood := { row := fnDictionaryTextReadUptoRow, standIns := [], harness := (true, "34835d5007dda4f527edb23964953bbbf50ab3bc038100cceb874db339aef2da"), looks := true }, kinds := [], alts := [], laidByText := true, laidKinds := [.sentinel, .sentinel, .sentinel, .sentinel], laidTests := true, laidLooks := .later }
def FnDictionaryTextReadUptoCardSaid : Prop := Claim7.holds Tryz.pinned (.plain (OpenSpec.upto fnDictionaryTextReadSpec)) fnDictionaryTextReadUptoCard

/-- THE SECOND FORM's CARD OF 'laws.FnDictionaryInt32Read'. -/
def fnDictionaryInt32ReadUptoCard : Claim7 := { stood := { row := fnDictionaryInt32ReadUptoRow, standIns := [], harness := (true, "34835d5007dda4f527edb23964953bbbf50ab3bc038100cceb874db339aef2da"), looks := true }, kinds := [], alts := [], laidByText := true, laidKinds := [.sentinel, .sentinel, .sentinel, .sentinel], laidTests := true, laidLooks := .later }
def FnDictionaryInt32ReadUptoCardSaid : Prop := Claim7.holds Tryz.pinned (.plain (OpenSpec.upto fnDictionaryInt32ReadSpec)) fnDictionaryInt32ReadUptoCard

/-- THE SECOND FORM's CARD OF 'laws.FnDictionaryInt64Between'. -/
def fnDictionaryInt64BetweenUptoCard : Claim7 := { stood := { row := fnDictionaryInt64BetweenUptoRow, standIns := [], harness := (true, "34835d5007dda4f527edb23964953bbbf50ab3bc038100cceb874db339aef2da"), looks := true }, kinds := [], alts := [], laidByText := true, laidKinds := [.sentinel, .sentinel, .sentinel, .sentinel, .data, .data], laidTests := true, laidLooks := .later }
def FnDictionaryInt64BetweenUptoCardSaid : Prop := Claim7.holds Tryz.pinned (.plain (OpenSpec.upto fnDictionaryInt64BetweenSpec)) fnDictionaryInt64BetweenUptoCard
end Rows
end Go.Proofs.YtdamippibpbjhaaGreatDoor
