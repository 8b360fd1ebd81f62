/- DROP, the bytes of a number, and the check of a lock. -/
import Derived.Test.YtafpgikhcjildaaGreatDoorMach
namespace Go.Proofs.YtafpgikhcjildaaGreatDoor
open Go.RowKit Go.Proofs

set_option maxRecDepth 100000

theorem dropN1_vm (w : World) (g : Nat) (B : Bd) (cs : Array Value) (xss : List (List UInt8)) (xs : List UInt8) (h : Vm w g B cs (xss ++ [xs])) (hn : xss.length ≤ 100000) :
    Calls Tryz.prog 40 #[.pointer (some ⟨g, 23, none⟩), .int .i32 1] w (Leaves w g B cs xss) := by
  have H := Lib.hid (pop_vm w g B cs xss xs h hn)
  clear h
  go_enter Tryz.func40, Tryz.ntmps40
  go_wp2
  refine wp_loop_rounds 2 ?_
  rw [rounds_succ]
  go_wp2_with fail
  refine H.out.mono ?_
  rintro e w' ⟨v, rfl, -, h⟩
  have h := Lib.hid h
  go_wp2
  rw [rounds_succ]
  go_wp2
  go_ret
  exact ⟨rfl, h.out⟩

theorem drop_vm (w : World) (g : Nat) (B : Bd) (cs : Array Value) (xss : List (List UInt8)) (xs : List UInt8) (op data : Value) (h : Vm w g B cs (xss ++ [xs])) (hn : xss.length ≤ 100000) :
    Calls Tryz.prog 102 #[op, data, .pointer (some ⟨g, 0, none⟩)] w (Leaves w g B cs xss) := by
  have H := Lib.hid (dropN1_vm w g B cs xss xs h hn)
  have hbl := h.blk.lt
  clear h
  go_enter Tryz.func102, Tryz.ntmps102
  go_wp2_with fail
  refine H.out.mono ?_
  rintro e w' ⟨rfl, h⟩
  have h := Lib.hid h
  go_wp2
  go_ret
  exact ⟨rfl, h.out⟩

/-- hasFlag. -/
theorem hasFlag_any (w : World) (g : Nat) (fl m r : Int) (hr : bits .and .u32 fl m = r) (h : w.cell? ⟨g, 0, none⟩ = some (.int .u32 fl)) :
    Calls Tryz.prog 27 #[.pointer (some ⟨g, 0, none⟩), .int .u32 m] w fun e w' => e = .returned (.bool (r == m)) ∧ w = w' := by
  go_enter Tryz.func27, Tryz.ntmps27
  go_wp2
  go_ret
  exact ⟨rfl, rfl⟩

/-- A fault of the machine. -/
def Fault (r : Value) : Prop := ∃ (c : Int) (s : ByteArray), r = .iface 101 (.agg #[.int .i64 c, .string s]) ∧ 0 ≤ c ∧ c ≤ 1000

/-- Whether a lock is met. -/
def Met (a l : Int) : Prop := a ≤ l ∧ (a < 500000000 ↔ l < 500000000)
def LockEnd (w : World) (a l : Int) (e : Ending) (w' : World) : Prop := ∃ r, e = .returned r ∧ Below w.heap.size w w' ∧ ((r = .nilIface ∧ Met a l) ∨ (Fault r ∧ ¬ Met a l))
theorem LockEnd.good {w : World} {a l : Int} (h : Met a l) : LockEnd w a l (.returned .nilIface) w := ⟨_, rfl, Below.refl _ _, .inl ⟨rfl, h⟩⟩
theorem LockEnd.bad {w w' : World} {a l c : Int} {s : ByteArray} (h : ¬ Met a l) (h0 : 0 ≤ c) (h1 : c ≤ 1000) (hb : Below w.heap.size w w') : LockEnd w a l (.returned (.iface 101 (.agg #[.int .i64 c, .string s]))) w' := ⟨_, rfl, hb, .inr ⟨⟨c, s, rfl, h0, h1⟩, h⟩⟩

/-- verifyLockTime. -/
theorem verifyLock_any (w : World) (l a : Int) (hl : 0 ≤ l) (hl2 : l < 4294967296) (ha : 0 ≤ a) (ha2 : a < 1099511627776) :
    Calls Tryz.prog 162 #[.int .i64 l, .int .i64 500000000, .int .i64 a] w (LockEnd w a l) := by
  rcases (show (l < 500000000 ∧ a < 500000000) ∨ (l < 500000000 ∧ ¬ a < 500000000) ∨ (¬ l < 500000000 ∧ a < 500000000) ∨ (¬ l < 500000000 ∧ ¬ a < 500000000) by omega) with ⟨h1, h2⟩ | ⟨h1, h2⟩ | ⟨h1, h2⟩ | ⟨h1, h2⟩
  · by_cases h3 : l < a
    · have HM : Hid (¬ Met a l) := fun ⟨h, _⟩ => by omega
      go_enter Tryz.func162, Tryz.ntmps162
      go_wp2_with fail
      refine (scriptError_any _ _ _).mono ?_
      rintro e w1 ⟨rfl, h⟩
      have h := Lib.hid h
      go_wp2
      go_ret
      exact LockEnd.bad HM.out (by omega) (by omega) h.out
    · have HM : Hid (Met a l) := ⟨by omega, by omega⟩
      go_enter Tryz.func162, Tryz.ntmps162
      go_wp2
      go_ret
      exact LockEnd.good HM.out
  · have HM : Hid (¬ Met a l) := fun ⟨_, h⟩ => by omega
    go_enter Tryz.func162, Tryz.ntmps162
    go_wp2_with fail
    refine (scriptError_any _ _ _).mono ?_
    rintro e w1 ⟨rfl, h⟩
    have h := Lib.hid h
    go_wp2
    go_ret
    exact LockEnd.bad HM.out (by omega) (by omega) h.out
  · have HM : Hid (¬ Met a l) := fun ⟨_, h⟩ => by omega
    have e1 : ¬ (500000000 ≤ a) := by omega
    have e2 : decide (500000000 ≤ a) = false := by simp; omega
    have e3 : 500000000 ≤ l := by omega
    go_enter Tryz.func162, Tryz.ntmps162
    go_wp2_with fail
    refine (scriptError_any _ _ _).mono ?_
    rintro e w1 ⟨rfl, h⟩
    have h := Lib.hid h
    go_wp2
    go_ret
    exact LockEnd.bad HM.out (by omega) (by omega) h.out
  · have e1 : 500000000 ≤ a := by omega
    have e2 : decide (500000000 ≤ a) = true := by simp; omega
    have e3 : 500000000 ≤ l := by omega
    by_cases h3 : l < a
    · have HM : Hid (¬ Met a l) := fun ⟨h, _⟩ => by omega
      go_enter Tryz.func162, Tryz.ntmps162
      go_wp2_with fail
      refine (scriptError_any _ _ _).mono ?_
      rintro e w1 ⟨rfl, h⟩
      have h := Lib.hid h
      go_wp2
      go_ret
      exact LockEnd.bad HM.out (by omega) (by omega) h.out
    · have HM : Hid (Met a l) := ⟨by omega, by omega⟩
      go_enter Tryz.func162, Tryz.ntmps162
      go_wp2
      go_ret
      exact LockEnd.good HM.out
end Go.Proofs.YtafpgikhcjildaaGreatDoor
