/- What the walk of FnWatchTops says. -/
import Derived.Test.YtafpgikhcjildaaGreatDoorSzs
import Derived.Test.YtafpgikhcjildaaGreatDoorAppend
import Derived.Test.YtafpgikhcjildaaGreatDoorProg
namespace Go.Proofs.YtafpgikhcjildaaGreatDoor
open Go.RowKit Go.Proofs

set_option maxRecDepth 100000

/-- What the law's walk says. -/
def LawSaid : Prop := ∀ (W : World) (A : Option Addr) (n c : Nat) (vs : List Value) (xss : List (List UInt8)), Cells W A n vs → RdL W.heap.size W vs xss →
  szs xss + xss.length ≤ 1048576 →
  Calls Tryz.prog 3 #[.slice A n c] W fun e w' => e = .returned (.bool true) ∧ Below W.heap.size W w'
end Go.Proofs.YtafpgikhcjildaaGreatDoor
