/-
  DERIVED. GIVEN WITH THE SEED: THE CARDS: each row of YtafpgikhcjildaaGreatDoorRows.lean that lists a variable, with what it lists TIED to the program's text (the seventh form; the later family's looks); each row that meets fmt, with fmt's text TOLD by the authors' own Lean function (tested against real Go, not proved from fmt's source: count such statements apart). THE CARD IS WHAT COUNTS. Prove the row's statement (the work); the ties are given (YtafpgikhcjildaaGreatDoorTie.lean); close each card by the builder's one call (the guide's Derived/Test/ToyasCard.lean, 'card_holds'). Laid BY PROGRAM, IN A SANDBOX (cutbox-door.mjs). By AI agents, Wed Nov 11 2026. No macro, syntax, notation, axiom, sorry.
-/
import Derived.Test.YtafpgikhcjildaaGreatDoorRows
import GoSem.ClaimSeven
namespace Go.Proofs.YtafpgikhcjildaaGreatDoor
namespace Rows

/-- THE TIED CARD OF 'laws.FnWatchTops'. -/
def fnWatchTopsCard : Claim7 := { stood := { row := fnWatchTopsRow, standIns := [], harness := (true, "f21bdaca59ccb6c659c52f7258c44ed0cb6a06026dba79ed827a07b941b1a804"), looks := true }, kinds := [], alts := [], laidByText := true, laidKinds := [.handle, .sentinel], laidTests := true, laidLooks := .later }
def FnWatchTopsCardSaid : Prop := Claim7.holds Tryz.pinned (.plain (OpenSpec.ofChange fnWatchTopsSpec)) fnWatchTopsCard

/-- THE SECOND FORM's CARD OF 'laws.FnWatchTops'. -/
def fnWatchTopsUptoCard : Claim7 := { stood := { row := fnWatchTopsUptoRow, standIns := [], harness := (true, "f21bdaca59ccb6c659c52f7258c44ed0cb6a06026dba79ed827a07b941b1a804"), looks := true }, kinds := [], alts := [], laidByText := true, laidKinds := [.handle, .sentinel], laidTests := true, laidLooks := .later }
def FnWatchTopsUptoCardSaid : Prop := Claim7.holds Tryz.pinned (.plain (OpenSpec.upto fnWatchTopsSpec)) fnWatchTopsUptoCard
end Rows
end Go.Proofs.YtafpgikhcjildaaGreatDoor
