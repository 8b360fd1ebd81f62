/- FnSignedCovers: when an output of a transaction has another value, a signature that speaks of no output stays right, and so does one that speaks of its own output alone, if that is another one; else a signature is right just if it would be for the hash as it is now: the law returns true for every input, and the input reads as it did; no condition beyond what the card itself says (the listed variables of the library start as the program's text lays them). -/
import Derived.Test.YtkgihpebghmnbaaGreatDoorRowS
import Derived.Test.YtkgihpebghmnbaaGreatDoorCards
import Derived.Test.YtkgihpebghmnbaaGreatDoorTie
import Derived.SevenTiedAt
namespace Go.Proofs.YtkgihpebghmnbaaGreatDoor
open Go

set_option maxRecDepth 100000

theorem signed_covers_card : Rows.FnSignedCoversCardSaid :=
  Claim7.holds_tied_plain_at .later [] [.handle, .sentinel] true _ true
    row_holds (fun _ h => by cases h) (by kernel_rfl) (fun _ h => by cases h) fnSignedCovers_row_tie rfl ⟨rfl, rfl⟩ (by kernel_rfl) rfl
    (fun f fn hf hfn => by
      obtain rfl : f = 3 := Option.some.inj ((show Tryz.prog.funcNamed "pub-mintmark/laws.FnSignedCovers" = some 3 by kernel_rfl).symm.trans hf) |>.symm
      obtain rfl : fn = Tryz.f3 := (Option.some.inj (Tryz.func3.symm.trans hfn)).symm
      exact ⟨by kernel_rfl, fun j t ht => by
        rw [Tryz.params3] at ht
        have hm : t ∈ [22, 27, 3, 3, 2] := by simpa using Array.mem_of_getElem? ht
        have hall : ([22, 27, 3, 3, 2].all fun u => !Tryz.prog.wantsStandIn u) = true := by kernel_rfl
        exact (show Tryz.prog.wantsStandIn t = false by simpa using List.all_eq_true.1 hall t hm)⟩)
    (by kernel_rfl)
#print axioms signed_covers_card
end Go.Proofs.YtkgihpebghmnbaaGreatDoor
