/-
  DERIVED. GIVEN WITH THE SEED: THE CARDS: each row of YtkgihpebghmnbaaGreatDoorRows.lean that lists a variable, with what it lists TIED to the program's text (the seventh form; the later family's looks); each row that meets fmt, with fmt's text TOLD by the authors' own Lean function (tested against real Go, not proved from fmt's source: count such statements apart). THE CARD IS WHAT COUNTS. Prove the row's statement (the work); the ties are given (YtkgihpebghmnbaaGreatDoorTie.lean); close each card by the builder's one call (the guide's Derived/Test/ToyasCard.lean, 'card_holds'). Laid BY PROGRAM, IN A SANDBOX (cutbox-door.mjs). By AI agents, Wed Nov 11 2026. No macro, syntax, notation, axiom, sorry.
-/
import Derived.Test.YtkgihpebghmnbaaGreatDoorRows
import GoSem.ClaimSeven
namespace Go.Proofs.YtkgihpebghmnbaaGreatDoor
namespace Rows

/-- THE TIED CARD OF 'laws.FnSignedCovers'. -/
def fnSignedCoversCard : Claim7 := { stood := { row := fnSignedCoversRow, standIns := [], harness := (true, "cad241129fb4cc0485431ac06fe55a2fecc40fa50f610a7a93ad4f32b81d5394"), looks := true }, kinds := [], alts := [], laidByText := true, laidKinds := [.handle, .sentinel], laidTests := true, laidLooks := .later }
def FnSignedCoversCardSaid : Prop := Claim7.holds Tryz.pinned (.plain (OpenSpec.ofChange fnSignedCoversSpec)) fnSignedCoversCard

/-- THE SECOND FORM's CARD OF 'laws.FnSignedCovers'. -/
def fnSignedCoversUptoCard : Claim7 := { stood := { row := fnSignedCoversUptoRow, standIns := [], harness := (true, "cad241129fb4cc0485431ac06fe55a2fecc40fa50f610a7a93ad4f32b81d5394"), looks := true }, kinds := [], alts := [], laidByText := true, laidKinds := [.handle, .sentinel], laidTests := true, laidLooks := .later }
def FnSignedCoversUptoCardSaid : Prop := Claim7.holds Tryz.pinned (.plain (OpenSpec.upto fnSignedCoversSpec)) fnSignedCoversUptoCard
end Rows
end Go.Proofs.YtkgihpebghmnbaaGreatDoor
