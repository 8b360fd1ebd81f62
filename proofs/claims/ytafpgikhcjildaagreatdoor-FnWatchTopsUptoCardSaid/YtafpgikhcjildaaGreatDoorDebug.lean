/- A new machine that tells its steps. -/
import Derived.Test.YtafpgikhcjildaaGreatDoorEngine
import Derived.Test.YtafpgikhcjildaaGreatDoorTold
namespace Go.Proofs.YtafpgikhcjildaaGreatDoor
open Go.RowKit Go.Proofs

set_option maxRecDepth 100000

theorem flags0 : Flags 0 := ⟨by decide, by decide, by decide, by decide, by decide⟩

/-- NewDebugEngine: the new machine, its last cell the function that is told. -/
theorem debug_any (w : World) (tb ib n c cs1 rn rc : Nat) (fl amount : Int) (fty : TypeId) (fx : Value) (A As : Option Addr) (ts : List Tok) (ver lock : Int) (txo : Value) (fid : FuncId) (cap : Array Value)
    (hfl : Flags fl) (hpub : Rd 0 w (.slice A n c) (code ts)) (hts : ∀ t ∈ ts, TokS t) (hn0 : 0 < n) (hn : n ≤ 10000)
    (htx : Blk w tb 74 #[.int .i32 ver, .slice (some ⟨rn, 0, none⟩) 1 rc, txo, .int .u32 lock])
    (htxo : ∃ A n c, txo = .slice A n c)
    (hrow : w.cell? ⟨rn, 0, none⟩ = some (.pointer (some ⟨ib, 0, none⟩))) (hsig : w.cell? ⟨ib, 33, none⟩ = some (.slice As 0 cs1)) :
    Calls Tryz.prog 13 #[.slice A n c, .pointer (some ⟨tb, 0, none⟩), .int .i64 0, .int .u32 fl, .pointer none, .pointer none, .int .i64 amount, .iface fty fx, .func (.func fid) #[] cap] w fun e w' =>
      ∃ g sb, e = .returned (.tuple #[.pointer (some ⟨g, 0, none⟩), .nilIface]) ∧ w.heap.size ≤ g ∧ w.heap.size ≤ sb ∧ g < sb ∧
        Blk w' g 84 ((cells1 fl amount (.iface fty fx) (.int .i32 ver) (.slice (some ⟨rn, 0, none⟩) 1 rc) txo (.int .u32 lock) sb (.slice A n c)).setIfInBounds 33 (.func (.func fid) #[] cap)) ∧
        Blk w' sb 24 #[.slice As 0 cs1, .slice A n c] ∧ Below w.heap.size w w' := by
  have H := Lib.hid (newEngine_any w tb ib 0 n c cs1 rn rc fl amount fty fx A As ts ver 0 lock txo #[] hfl hpub hts hn0 hn htx htxo hrow hsig)
  clear hpub hts htx htxo hrow hsig hfl
  go_enter Tryz.func13, Tryz.ntmps13
  go_wp2_with fail
  refine H.out.mono ?_
  rintro e w1 ⟨g, sb, rfl, hg, hsb, hgs, hblk, hrow, hb⟩
  have hlt := hblk.lt
  have hfz := hblk.frozen
  have c33 := hblk.cell 33
  change _ = some Value.nilFunc at c33
  have HB := Lib.hid hblk
  have HR := Lib.hid hrow
  have HL := Lib.hid hb
  clear hblk hrow hb H
  have hst : (store ⟨g, 33, none⟩ (.func (.func fid) #[] cap)).run Tryz.prog w1 = .ok () (w1.setCell ⟨g, 33, none⟩ (.func (.func fid) #[] cap)) := by
    rw [run_store _ _ _ _ _ rfl, c33, hfz]
    rfl
  go_wp2
  go_ret2
  exact ⟨g, sb, rfl, hg, hsb, hgs, HB.out.set_ 33 _, HR.out.far (p := ⟨g, 33, none⟩) (Nat.ne_of_gt hgs) _, HL.out.setCell (p := ⟨g, 33, none⟩) hg _⟩
end Go.Proofs.YtafpgikhcjildaaGreatDoor
