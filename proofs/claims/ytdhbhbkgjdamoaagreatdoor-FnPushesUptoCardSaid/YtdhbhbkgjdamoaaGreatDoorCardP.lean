/- FnPushes: shortest pushes leave the elements that they push on top of what lay there: the law returns true for every input of bulk at most 1048576, and the input reads as it did; no other condition beyond what the card itself says (the listed variables of the library start as the program's text lays them). -/
import Derived.Test.YtdhbhbkgjdamoaaGreatDoorRowP
import Derived.Test.YtdhbhbkgjdamoaaGreatDoorLawP
import Derived.Test.YtdhbhbkgjdamoaaGreatDoorCards
import Derived.Test.YtdhbhbkgjdamoaaGreatDoorTie
import Derived.SevenTiedAt
namespace Go.Proofs.YtdhbhbkgjdamoaaGreatDoor
open Go

set_option maxRecDepth 100000

theorem pushes_upto_card : Rows.FnPushesUptoCardSaid :=
  Claim7.holds_tied_plain_at .later [] [.handle, .sentinel] true _ true
    (row_holds law_walk_p) (fun _ h => by cases h) (by kernel_rfl) (fun _ h => by cases h) fnPushesUpto_row_tie rfl ⟨rfl, rfl⟩ (by kernel_rfl) rfl
    (fun f fn hf hfn => by
      obtain rfl : f = 3 := Option.some.inj ((show Tryz.prog.funcNamed "pub-mintmark/laws.FnPushes" = some 3 by kernel_rfl).symm.trans hf) |>.symm
      obtain rfl : fn = Tryz.f3 := (Option.some.inj (Tryz.func3.symm.trans hfn)).symm
      exact ⟨by kernel_rfl, fun j t ht => by
        rw [Tryz.params3] at ht
        have hm : t ∈ [22, 22] := by simpa using Array.mem_of_getElem? ht
        have hall : ([22, 22].all fun u => !Tryz.prog.wantsStandIn u) = true := by kernel_rfl
        exact (show Tryz.prog.wantsStandIn t = false by simpa using List.all_eq_true.1 hall t hm)⟩)
    (by kernel_rfl)
#print axioms pushes_upto_card
end Go.Proofs.YtdhbhbkgjdamoaaGreatDoor
