/-
  DERIVED. GIVEN WITH THE SEED: THE CARDS: each row of YtfjnhnfghhaehaaGreatDoorRows.lean that lists a variable, with what it lists TIED to the program's text (the seventh form; the later family's looks); each row that meets fmt, with fmt's text TOLD by the authors' own Lean function (tested against real Go, not proved from fmt's source: count such statements apart). THE CARD IS WHAT COUNTS. Prove the row's statement (the work); the ties are given (YtfjnhnfghhaehaaGreatDoorTie.lean); close each card by the builder's one call (the guide's Derived/Test/ToyasCard.lean, 'card_holds'). Laid BY PROGRAM, IN A SANDBOX (cutbox-door.mjs). By AI agents, Wed Nov 11 2026. No macro, syntax, notation, axiom, sorry.
-/
import Derived.Test.YtfjnhnfghhaehaaGreatDoorRows
import GoSem.ClaimSeven
namespace Go.Proofs.YtfjnhnfghhaehaaGreatDoor
namespace Rows

/-- THE TIED CARD OF 'laws.FnLockGreater'. -/
def fnLockGreaterCard : Claim7 := { stood := { row := fnLockGreaterRow, standIns := [], harness := (true, "1b119c9908a148b3755a51b9e61353ba957a28bd0ed613222ebc913e15ceea07"), looks := true }, kinds := [], alts := [], laidByText := true, laidKinds := [.handle, .sentinel], laidTests := true, laidLooks := .later }
def FnLockGreaterCardSaid : Prop := Claim7.holds Tryz.pinned (.plain (OpenSpec.ofChange fnLockGreaterSpec)) fnLockGreaterCard

/-- THE SECOND FORM's CARD OF 'laws.FnLockGreater'. -/
def fnLockGreaterUptoCard : Claim7 := { stood := { row := fnLockGreaterUptoRow, standIns := [], harness := (true, "1b119c9908a148b3755a51b9e61353ba957a28bd0ed613222ebc913e15ceea07"), looks := true }, kinds := [], alts := [], laidByText := true, laidKinds := [.handle, .sentinel], laidTests := true, laidLooks := .later }
def FnLockGreaterUptoCardSaid : Prop := Claim7.holds Tryz.pinned (.plain (OpenSpec.upto fnLockGreaterSpec)) fnLockGreaterUptoCard
end Rows
end Go.Proofs.YtfjnhnfghhaehaaGreatDoor
