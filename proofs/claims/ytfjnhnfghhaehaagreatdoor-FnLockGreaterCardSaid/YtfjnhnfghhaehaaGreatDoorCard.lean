/- FnLockGreater: a lock that a transaction's lock meets is met by each greater one of its kind: the law returns true for every input, and the input reads as it did; no condition beyond what the card itself says (the listed variables of the library start as the program's text lays them). -/
import Derived.Test.YtfjnhnfghhaehaaGreatDoorRow
import Derived.Test.YtfjnhnfghhaehaaGreatDoorLaw
import Derived.Test.YtfjnhnfghhaehaaGreatDoorCards
import Derived.Test.YtfjnhnfghhaehaaGreatDoorTie
import Derived.SevenTiedAt
namespace Go.Proofs.YtfjnhnfghhaehaaGreatDoor
open Go

set_option maxRecDepth 100000

theorem lock_greater_card : Rows.FnLockGreaterCardSaid :=
  Claim7.holds_tied_plain_at .later [] [.handle, .sentinel] true (true, "1b119c9908a148b3755a51b9e61353ba957a28bd0ed613222ebc913e15ceea07") true
    (row_holds law_walk_all) (fun _ h => by cases h) (by kernel_rfl) (fun _ h => by cases h) fnLockGreater_row_tie rfl ⟨rfl, rfl⟩ (by kernel_rfl) rfl
    (fun f fn hf hfn => by
      obtain rfl : f = 3 := Option.some.inj ((show Tryz.prog.funcNamed "pub-mintmark/laws.FnLockGreater" = some 3 by kernel_rfl).symm.trans hf) |>.symm
      obtain rfl : fn = Tryz.f3 := (Option.some.inj (Tryz.func3.symm.trans hfn)).symm
      exact ⟨by kernel_rfl, fun j t ht => by
        rw [Tryz.params3] at ht
        have hm : t ∈ [2, 22, 22] := by simpa using Array.mem_of_getElem? ht
        have hall : ([2, 22, 22].all fun u => !Tryz.prog.wantsStandIn u) = true := by kernel_rfl
        exact (show Tryz.prog.wantsStandIn t = false by simpa using List.all_eq_true.1 hall t hm)⟩)
    (by kernel_rfl)
#print axioms lock_greater_card
end Go.Proofs.YtfjnhnfghhaehaaGreatDoor
