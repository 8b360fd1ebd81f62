/- Execute, of a machine whose steps are known. -/
import Derived.Test.YtafpgikhcjildaaGreatDoorRead
import Derived.Test.YtafpgikhcjildaaGreatDoorExec
import Derived.Deep.LoopGhost
namespace Go.Proofs.YtafpgikhcjildaaGreatDoor
open Go.RowKit Go.Proofs

set_option maxRecDepth 100000

/-- The last check's answer. -/
def Ends (g : Nat) (R : Value → World → Prop) (w : World) : Prop :=
  Calls Tryz.prog 25 #[.pointer (some ⟨g, 0, none⟩), .bool true] w fun e w' => ∃ r, e = .returned r ∧ Ret r ∧ R r w'
/-- n steps at most bring the machine to its end. -/
def Goes (g : Nat) (R : Value → World → Prop) : Nat → World → Prop
  | 0, _ => False
  | n + 1, w => Calls Tryz.prog 24 #[.pointer (some ⟨g, 0, none⟩)] w fun e w' =>
      (∃ r, e = .returned (.tuple #[.bool true, r]) ∧ Fault r ∧ R r w') ∨
      (e = .returned (.tuple #[.bool true, .nilIface]) ∧ w'.cell? ⟨g, 33, none⟩ = some .nilFunc ∧ g < w'.heap.size ∧ Ends g R w') ∨
      (e = .returned (.tuple #[.bool false, .nilIface]) ∧ w'.cell? ⟨g, 33, none⟩ = some .nilFunc ∧ g < w'.heap.size ∧ Goes g R n w')

theorem execute_goes (w : World) (g n : Nat) (R : Value → World → Prop) (h : Goes g R n w) (hg : g < w.heap.size) (h6 : w.cell? ⟨g, 6, none⟩ = some (.int .u16 0)) (h33 : w.cell? ⟨g, 33, none⟩ = some .nilFunc) :
    Calls Tryz.prog 17 #[.pointer (some ⟨g, 0, none⟩)] w fun e w' => ∃ r, e = .returned r ∧ Ret r ∧ R r w' := by
  have HG := Lib.hid h
  have hnf : ∀ w : World, (binOp BinOp.neq 47 .nilFunc .nilFunc).run Tryz.prog w = .ok (.bool false) w := fun _ => by kernel_rfl
  clear h
  go_enter Tryz.func17, Tryz.ntmps17
  go_wp2_with fail
  clear h6 h33
  go_loopg [5] (n + 1) (fun k s5 wx => (s5 = .bool false ∧ ∃ m, k = m + 1 ∧ Goes g R m wx) ∨ (s5 = .bool true ∧ k = 0 ∧ Ends g R wx))
  case atStart => exact .inl ⟨rfl, n, rfl, HG.out⟩
  case round =>
    rcases hrel with ⟨rfl, m, rfl, hgo⟩ | ⟨rfl, rfl, hfin⟩
    · cases m with
      | zero => exact hgo.elim
      | succ m =>
      have HG2 := Lib.hid hgo
      clear hgo
      go_wp2_with fail
      refine Calls.mono (show Calls _ _ _ _ _ from HG2.out) ?_
      rintro e w1 (⟨r, rfl, ⟨cd, s, rfl, h0, h1⟩, hr⟩ | ⟨rfl, h33, hlt, hc⟩ | ⟨rfl, h33, hlt, hc⟩)
      · have hr := Lib.hid hr
        go_wp2
        go_ret
        exact ⟨_, rfl, .inr ⟨cd, s, rfl, h0, h1⟩, hr.out⟩
      · have hc := Lib.hid hc
        go_wp2
        go_roundg 0
        case measure => omega
        case rel => exact .inr ⟨rfl, rfl, hc.out⟩
      · have hc := Lib.hid hc
        go_wp2
        go_roundg (m + 1)
        case measure => omega
        case rel => exact .inl ⟨rfl, m, rfl, hc.out⟩
    · have HE := Lib.hid hfin
      clear hfin
      go_wp2_with fail
      refine Calls.mono (show Calls _ _ _ _ _ from HE.out) ?_
      rintro e w1 ⟨r, rfl, hret, hr⟩
      have hr := Lib.hid hr
      rcases hret with rfl | ⟨cd, s, rfl, h0, h1⟩
      · go_wp2
        go_ret
        exact ⟨_, rfl, .inl rfl, hr.out⟩
      · go_wp2
        go_ret
        exact ⟨_, rfl, .inr ⟨cd, s, rfl, h0, h1⟩, hr.out⟩

/-- kindOf. -/
theorem kind_nil (w : World) :
    Calls Tryz.prog 16 #[.nilIface] w fun e w' => e = .returned (.int .i64 0) ∧ w = w' := by
  go_enter Tryz.func16, Tryz.ntmps16
  go_wp2
  go_ret
  exact ⟨rfl, rfl⟩
theorem kind_fault (w : World) (r : Value) (h : Fault r) :
    Calls Tryz.prog 16 #[r] w fun e w' => (∃ k : Int, e = .returned (.int .i64 k) ∧ 1 ≤ k ∧ k ≤ 1001) ∧ Below w.heap.size w w' := by
  obtain ⟨c, s, rfl, h0, h1⟩ := h
  have hta : ∀ w : World, (Instr.typeAssert (.iface 101 (.agg #[.int .i64 c, .string s])) 43 101 true).run Tryz.prog w = .ok (.tuple #[.agg #[.int .i64 c, .string s], .bool true]) w := fun _ => by kernel_rfl
  go_enter Tryz.func16, Tryz.ntmps16
  go_wp2
  go_ret
  exact ⟨⟨_, rfl, by omega, by omega⟩, (Below.refl _ _).alloc (Nat.le_refl _) _⟩
end Go.Proofs.YtafpgikhcjildaaGreatDoor
