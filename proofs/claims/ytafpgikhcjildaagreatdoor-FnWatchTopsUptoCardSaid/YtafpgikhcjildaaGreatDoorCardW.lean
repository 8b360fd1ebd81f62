/- FnWatchTops: while elements are pushed one behind the other, the top of the stack that is watched is the one that was pushed last: the law returns true for every input of bulk at most 1048576, and the input reads as it did; no other condition beyond what the card itself says (the listed variables of the library start as the program's text lays them). -/
import Derived.Test.YtafpgikhcjildaaGreatDoorRowW
import Derived.Test.YtafpgikhcjildaaGreatDoorLawW
import Derived.Test.YtafpgikhcjildaaGreatDoorCards
import Derived.Test.YtafpgikhcjildaaGreatDoorTie
import Derived.SevenTiedAt
namespace Go.Proofs.YtafpgikhcjildaaGreatDoor
open Go

set_option maxRecDepth 100000

theorem watch_tops_upto_card : Rows.FnWatchTopsUptoCardSaid :=
  Claim7.holds_tied_plain_at .later [] [.handle, .sentinel] true _ true
    (row_holds law_walk_w) (fun _ h => by cases h) (by kernel_rfl) (fun _ h => by cases h) fnWatchTopsUpto_row_tie rfl ⟨rfl, rfl⟩ (by kernel_rfl) rfl
    (fun f fn hf hfn => by
      obtain rfl : f = 3 := Option.some.inj ((show Tryz.prog.funcNamed "pub-mintmark/laws.FnWatchTops" = some 3 by kernel_rfl).symm.trans hf) |>.symm
      obtain rfl : fn = Tryz.f3 := (Option.some.inj (Tryz.func3.symm.trans hfn)).symm
      exact ⟨by kernel_rfl, fun j t ht => by
        rw [Tryz.params3] at ht
        have hm : t ∈ [22] := by simpa using Array.mem_of_getElem? ht
        have hall : ([22].all fun u => !Tryz.prog.wantsStandIn u) = true := by kernel_rfl
        exact (show Tryz.prog.wantsStandIn t = false by simpa using List.all_eq_true.1 hall t hm)⟩)
    (by kernel_rfl)
#print axioms watch_tops_upto_card
end Go.Proofs.YtafpgikhcjildaaGreatDoor
