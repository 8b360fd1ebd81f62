/- What an engine is; worlds below. -/
import Derived.Test.YtafpgikhcjildaaGreatDoorLockGo
import Derived.Test.YtafpgikhcjildaaGreatDoorRead
namespace Go.Proofs.YtafpgikhcjildaaGreatDoor
open Go.RowKit Go.Proofs

set_option maxRecDepth 100000

/-- What the machine is that is built for a lock's spend. -/
def EngPost (w : World) (d : List UInt8) (l : Nat) (e : Ending) (w' : World) : Prop :=
  ∃ g B sb pb po n c rn rc ib cs, e = .returned (.tuple #[.pointer (some ⟨g, 0, none⟩), .nilIface]) ∧ Vm w' g B cs [] ∧ En cs sb 1 0 0 (.slice (some ⟨pb, po, none⟩) n c) 0 (-1) ∧ n ≤ 10000 ∧
    Rd 0 w' (.slice (some ⟨pb, po, none⟩) n c) (code (lockT d)) ∧ cs[0]? = some (.int .u32 8) ∧ cs[2]? = some (.slice (some ⟨rn, 0, none⟩) 1 rc) ∧ cs[4]? = some (.int .u32 l) ∧ cs[5]? = some (.int .i64 0) ∧ cs[24]? = some (.bool false) ∧ cs[33]? = some .nilFunc ∧
    rn < B.n ∧ rn ≠ g ∧ ib < B.n ∧ ib ≠ g ∧ w'.cell? ⟨rn, 0, none⟩ = some (.pointer (some ⟨ib, 0, none⟩)) ∧ w'.cell? ⟨ib, 35, none⟩ = some (.int .u32 100) ∧ Below w.heap.size w w' ∧ w.heap.size ≤ g ∧ w.heap.size ≤ B.n

theorem Fs.toBelow {b g : Nat} {B : Bd} {w w' : World} (h : Fs g B w w') (hw : b ≤ w.heap.size) (hg : b ≤ g) (hB : b ≤ B.n) : Below b w w' :=
  Fm.toBelow h hw fun k hk hm => by
    rcases hm with rfl | ⟨hm, -⟩ <;> omega
theorem Below.trans' {b : Nat} {w w1 w2 : World} (h : Below b w w1) (hb : b ≤ w1.heap.size) (k : Below b w1 w2) : Below b w w2 :=
  ⟨k.os.trans h.os, k.tape.trans h.tape, k.output.trans h.output, Nat.le_trans h.size k.size, fun j hj => (k.block j hj).trans (h.block j hj)⟩
theorem Below.lower {b b' : Nat} {w w1 : World} (h : Below b w w1) (hb : b' ≤ b) : Below b' w w1 := ⟨h.os, h.tape, h.output, h.size, fun j hj => h.block j (by omega)⟩
end Go.Proofs.YtafpgikhcjildaaGreatDoor
