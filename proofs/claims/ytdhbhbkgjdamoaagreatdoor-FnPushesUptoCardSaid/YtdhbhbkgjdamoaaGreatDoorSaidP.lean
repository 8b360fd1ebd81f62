/- What the walk of FnPushes says. -/
import Derived.Test.YtdhbhbkgjdamoaaGreatDoorSzs
import Derived.Test.YtdhbhbkgjdamoaaGreatDoorAppend
import Derived.Test.YtdhbhbkgjdamoaaGreatDoorProg
namespace Go.Proofs.YtdhbhbkgjdamoaaGreatDoor
open Go.RowKit Go.Proofs

set_option maxRecDepth 100000

/-- What the law's walk says. -/
def LawSaid : Prop := ∀ (W : World) (A1 A2 : Option Addr) (n1 c1 n2 c2 : Nat) (vs1 vs2 : List Value) (xss1 xss2 : List (List UInt8)), Cells W A1 n1 vs1 → RdL W.heap.size W vs1 xss1 → Cells W A2 n2 vs2 → RdL W.heap.size W vs2 xss2 →
  szs xss1 + xss1.length + (szs xss2 + xss2.length) ≤ 1048576 →
  Calls Tryz.prog 3 #[.slice A1 n1 c1, .slice A2 n2 c2] W fun e w' => e = .returned (.bool true) ∧ Below W.heap.size W w'
end Go.Proofs.YtdhbhbkgjdamoaaGreatDoor
