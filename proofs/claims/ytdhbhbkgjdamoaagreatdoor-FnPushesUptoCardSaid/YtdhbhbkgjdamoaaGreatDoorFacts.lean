/- The closed facts of FnPushes's row (of inputs up to a bulk), those that walk over the whole program apart from each other. -/
import Derived.Test.YtdhbhbkgjdamoaaGreatDoorRows
import Derived.JoinedOf
import Derived.JoinedCond
namespace Go.Proofs.YtdhbhbkgjdamoaaGreatDoor
open Go

set_option maxRecDepth 100000

theorem cf_inPlace : (Rows.fnPushesUptoRow.inPlace == Tryz.pinned.checked.prog.inPlace 3) = true := by kernel_rfl
theorem cf_unfollowed : (Rows.fnPushesUptoRow.unfollowed == Tryz.pinned.checked.prog.unfollowed 3) = true := by kernel_rfl
theorem cf_recurses : (Rows.fnPushesUptoRow.recurses == Tryz.pinned.checked.prog.recurses 3) = true := by kernel_rfl
theorem cf_named : (Rows.fnPushesUptoRow.named == Tryz.pinned.checked.prog.varsNamed 3) = true := by kernel_rfl
theorem row_closed : joinedFacts Tryz.pinned.checked.prog 3 Tryz.f3 (Rows.OpenSpec.upto Rows.fnPushesSpec).bare Rows.fnPushesUptoRow = true := by
  unfold joinedFacts
  rw [cf_inPlace, cf_unfollowed, cf_recurses, cf_named]
  kernel_rfl
end Go.Proofs.YtdhbhbkgjdamoaaGreatDoor
