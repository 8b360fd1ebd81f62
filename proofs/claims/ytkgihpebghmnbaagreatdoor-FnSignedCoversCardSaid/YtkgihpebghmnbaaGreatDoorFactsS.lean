/- The closed facts of FnSignedCovers's row, those that walk over the whole program apart from each other. -/
import Derived.Test.YtkgihpebghmnbaaGreatDoorRows
import Derived.JoinedOf
namespace Go.Proofs.YtkgihpebghmnbaaGreatDoor
open Go

set_option maxRecDepth 100000

theorem cf_inPlace : (Rows.fnSignedCoversRow.inPlace == Tryz.pinned.checked.prog.inPlace 3) = true := by kernel_rfl
theorem cf_unfollowed : (Rows.fnSignedCoversRow.unfollowed == Tryz.pinned.checked.prog.unfollowed 3) = true := by kernel_rfl
theorem cf_recurses : (Rows.fnSignedCoversRow.recurses == Tryz.pinned.checked.prog.recurses 3) = true := by kernel_rfl
theorem cf_named : (Rows.fnSignedCoversRow.named == Tryz.pinned.checked.prog.varsNamed 3) = true := by kernel_rfl
theorem row_closed : joinedFacts Tryz.pinned.checked.prog 3 Tryz.f3 Rows.fnSignedCoversSpec Rows.fnSignedCoversRow = true := by
  unfold joinedFacts
  rw [cf_inPlace, cf_unfollowed, cf_recurses, cf_named]
  kernel_rfl
end Go.Proofs.YtkgihpebghmnbaaGreatDoor
