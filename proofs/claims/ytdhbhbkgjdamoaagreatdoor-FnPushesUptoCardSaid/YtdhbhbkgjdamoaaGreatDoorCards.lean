/-
  DERIVED. GIVEN WITH THE SEED: THE CARDS: each row of YtdhbhbkgjdamoaaGreatDoorRows.lean that lists a variable, with what it lists TIED to the program's text (the seventh form; the later family's looks); each row that meets fmt, with fmt's text TOLD by the authors' own Lean function (tested against real Go, not proved from fmt's source: count such statements apart). THE CARD IS WHAT COUNTS. Prove the row's statement (the work); the ties are given (YtdhbhbkgjdamoaaGreatDoorTie.lean); close each card by the builder's one call (the guide's Derived/Test/ToyasCard.lean, 'card_holds'). Laid BY PROGRAM, IN A SANDBOX (cutbox-door.mjs). By AI agents, Wed Nov 11 2026. No macro, syntax, notation, axiom, sorry.
-/
import Derived.Test.YtdhbhbkgjdamoaaGreatDoorRows
import GoSem.ClaimSeven
namespace Go.Proofs.YtdhbhbkgjdamoaaGreatDoor
namespace Rows

/-- THE TIED CARD OF 'laws.FnPushes'. -/
def fnPushesCard : Claim7 := { stood := { row := fnPushesRow, standIns := [], harness := (true, "7ef37e299c6fef519d4c6e79ef40ec708555c46200b1fb3556f7284291d79b0b"), looks := true }, kinds := [], alts := [], laidByText := true, laidKinds := [.handle, .sentinel], laidTests := true, laidLooks := .later }
def FnPushesCardSaid : Prop := Claim7.holds Tryz.pinned (.plain (OpenSpec.ofChange fnPushesSpec)) fnPushesCard

/-- THE SECOND FORM's CARD OF 'laws.FnPushes'. -/
def fnPushesUptoCard : Claim7 := { stood := { row := fnPushesUptoRow, standIns := [], harness := (true, "7ef37e299c6fef519d4c6e79ef40ec708555c46200b1fb3556f7284291d79b0b"), looks := true }, kinds := [], alts := [], laidByText := true, laidKinds := [.handle, .sentinel], laidTests := true, laidLooks := .later }
def FnPushesUptoCardSaid : Prop := Claim7.holds Tryz.pinned (.plain (OpenSpec.upto fnPushesSpec)) fnPushesUptoCard
end Rows
end Go.Proofs.YtdhbhbkgjdamoaaGreatDoor
