/- FnLockGreater's row: for every input the law returns true, and the input reads as it did. -/
import Derived.Test.YtfjnhnfghhaehaaGreatDoorRows
import Derived.Test.YtfjnhnfghhaehaaGreatDoorBase
import Derived.ChangeSame
import Derived.ChangeVars
import Derived.JoinedOf
import Derived.RowKit
import Derived.RowKitTokens
import Derived.LaidLaws
import Derived.LaidHandle
import Derived.LaidMore
import Derived.OpenShut
import Derived.ProofKit
import Derived.Stop.Joined
namespace Go.Proofs.YtfjnhnfghhaehaaGreatDoor
open Go.ChangeShapes Go.WideShapes Go.ChangeAt Go.RowKit

set_option maxRecDepth 100000

theorem ownKnob_none : ownKnob Tryz.prog.godebug = none := by kernel_rfl

/-- The door's own heap meets the condition on the listed variables. -/
theorem door_met (os : Os) (args : Array Value) : laidMetH Tryz.prog Rows.fnLockGreaterRow.laid ((World.doorLaid Tryz.prog 400 os).forCall (fun _ _ => 0) ⟨#[], args, []⟩).memory :=
  laidMetH_of_parts3 (fuel := 8) (laidMet_of_run' 8 (by kernel_rfl) (by kernel_rfl)) (by kernel_rfl) (by kernel_rfl)

/-- What the law's walk says. -/
def LawSaid : Prop := ∀ (W : World) (asked lock greater : Int), (Lit.int .i64 asked).wf = true → (Lit.int .u32 lock).wf = true → (Lit.int .u32 greater).wf = true →
  Calls Tryz.prog 3 #[.int .i64 asked, .int .u32 lock, .int .u32 greater] W fun e w' => e = .returned (.bool true) ∧ Below W.heap.size W w'

theorem row_lifted (hLaw : LawSaid) (os : Os) (started : os.Started) (H : Type) (enc : TypeId × Value → H) :
    ReturnsInHanded {} Tryz.checked os 3 .any (fun w args => (Rows.fnLockGreaterSpec.pre enc Tryz.prog Tryz.f3 [] false w args ∧ laidMetH Tryz.prog Rows.fnLockGreaterRow.laid w) ∧ sizedMet enc Tryz.prog Tryz.f3 (OpenSpec.ofChange Rows.fnLockGreaterSpec) false w args)
      (Rows.fnLockGreaterSpec.post enc Tryz.prog Tryz.f3 false true false false) := by
  refine returnsInHanded_of_change_and (C := Tryz.checked) (X := fun w _ => laidMetH Tryz.prog Rows.fnLockGreaterRow.laid w) (fun _ _ _ hh h => h.of_heap hh) ownKnob_none started (by kernel_rfl) Tryz.func3
    (ChangeSpec.witness_shaped (enc := enc) (C := Tryz.checked) (os := os) (X := fun w _ => laidMetH Tryz.prog Rows.fnLockGreaterRow.laid w) false (World.doorLaid Tryz.prog 400 os) #[.int .i64 0, .int .u32 0, .int .u32 0] 8 rfl (World.shaped_of_RefB (by kernel_rfl) (by kernel_rfl)) (by kernel_rfl) (by kernel_rfl) (by kernel_rfl) (door_met os _)) ?_
  intro W base args ds gs before hval0 hW _ _ hL _
  have hval : ∀ (j : Nat) t v, Tryz.f3.params[j]? = some t → args[j]? = some v → Value.okWide Tryz.prog W .any base t v := hval0
  have hW' := hW
  obtain ⟨p, q, hA0, hV, rfl, hfz, hnd⟩ := hW
  have hA : DataW.TrodAll enc Tryz.prog W 0 (fun _ => true) true Tryz.f3.params.toList args.toList ds p := hA0
  rw [Tryz.params3] at hA hval
  obtain ⟨v0, v1, v2, d0, d1, d2, p0, p1, p2, rfl, rfl, rfl, h0, h1, h2⟩ := trodAll_three hA
  obtain ⟨rfl, rfl⟩ := trodVars_none hV
  obtain ⟨a, rfl, rfl, rfl, wa⟩ := open_int Tryz.underlying2 (hval 0 2 v0 rfl rfl) h0
  obtain ⟨b, rfl, rfl, rfl, wb⟩ := open_int Tryz.underlying22 (hval 1 22 v1 rfl rfl) h1
  obtain ⟨c, rfl, rfl, rfl, wc⟩ := open_int Tryz.underlying22 (hval 2 22 v2 rfl rfl) h2
  clear hA0 hval0
  simp only [List.append_nil] at hW'
  refine (hLaw W a b c wa wb wc).mono fun e W' ⟨he, hb⟩ => ?_
  subst he
  have e1 : Rows.fnLockGreaterSpec.fn H ([.lit (.int .i64 a), .lit (.int .u32 b), .lit (.int .u32 c)] ++ []) = { results := [.lit (.bool true)], args := [.lit (.int .i64 a), .lit (.int .u32 b), .lit (.int .u32 c)] } := by simp [Rows.fnLockGreaterSpec]
  refine ⟨_, rfl, _, _, _, [], [], [], hW', ?_, ?_, ?_, hb.frame _, fun h => by cases h⟩
  · rw [e1]; exact trodAll_mk1 (shut_bool Tryz.underlying4 true)
  · rw [e1]; exact trodAll_mk3 (shut_int Tryz.underlying2 wa) (shut_int Tryz.underlying22 wb) (shut_int Tryz.underlying22 wc)
  · rw [e1]; rfl

theorem row_holds (hLaw : LawSaid) : Rows.FnLockGreaterSaid :=
  OpenClaim.holds_of_wide 3 Tryz.f3 rfl rfl rfl rfl rfl rfl rfl ⟨rfl, rfl, rfl, rfl, rfl⟩ rfl rfl rfl rfl rfl (by kernel_rfl) Tryz.func3 (by kernel_rfl)
    (of_decide_eq_true (by kernel_rfl)) (by unfold Func.isWrapper; first | (rw [if_pos (by decide +kernel)]; kernel_rfl) | (rw [if_neg (by decide +kernel)]; exact ⟨rfl, rfl⟩))
    (fun os started H enc _ => row_lifted hLaw os started H enc)
end Go.Proofs.YtfjnhnfghhaehaaGreatDoor
