/- The closed facts of FnWatchTops's row (of inputs up to a bulk), those that walk over the whole program apart from each other. -/
import Derived.Test.YtafpgikhcjildaaGreatDoorRows
import Derived.JoinedOf
import Derived.JoinedCond
namespace Go.Proofs.YtafpgikhcjildaaGreatDoor
open Go

set_option maxRecDepth 100000

theorem cf_inPlace : (Rows.fnWatchTopsUptoRow.inPlace == Tryz.pinned.checked.prog.inPlace 3) = true := by kernel_rfl
theorem cf_unfollowed : (Rows.fnWatchTopsUptoRow.unfollowed == Tryz.pinned.checked.prog.unfollowed 3) = true := by kernel_rfl
theorem cf_recurses : (Rows.fnWatchTopsUptoRow.recurses == Tryz.pinned.checked.prog.recurses 3) = true := by kernel_rfl
theorem cf_named : (Rows.fnWatchTopsUptoRow.named == Tryz.pinned.checked.prog.varsNamed 3) = true := by kernel_rfl
theorem row_closed : joinedFacts Tryz.pinned.checked.prog 3 Tryz.f3 (Rows.OpenSpec.upto Rows.fnWatchTopsSpec).bare Rows.fnWatchTopsUptoRow = true := by
  unfold joinedFacts
  rw [cf_inPlace, cf_unfollowed, cf_recurses, cf_named]
  kernel_rfl
end Go.Proofs.YtafpgikhcjildaaGreatDoor
