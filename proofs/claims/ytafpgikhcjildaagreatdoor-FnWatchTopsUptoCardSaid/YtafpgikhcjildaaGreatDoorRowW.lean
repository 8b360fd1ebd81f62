/- FnWatchTops's row (of inputs up to a bulk): the law returns true, and the input reads as it did. -/
import Derived.Test.YtafpgikhcjildaaGreatDoorFactsW
import Derived.Test.YtafpgikhcjildaaGreatDoorBase
import Derived.ChangeSame
import Derived.ChangeVars
import Derived.JoinedOf
import Derived.RowKit
import Derived.RowKitTokens
import Derived.LaidLaws
import Derived.LaidHandle
import Derived.LaidMore
import Derived.OpenShut
import Derived.ProofKit
import Derived.Stop.Joined
import Derived.Carry
import Derived.JoinedCond
import Derived.Test.YtafpgikhcjildaaGreatDoorCondAnd
import Derived.Test.YtafpgikhcjildaaGreatDoorBulk
import Derived.Test.YtafpgikhcjildaaGreatDoorSaidW
namespace Go.Proofs.YtafpgikhcjildaaGreatDoor
open Go.ChangeShapes Go.WideShapes Go.ChangeAt Go.RowKit Go.Proofs

set_option maxRecDepth 100000

theorem ownKnob_none : ownKnob Tryz.prog.godebug = none := by kernel_rfl

/-- The door's own heap meets the condition on the listed variables. -/
theorem door_met (os : Os) (args : Array Value) : laidMetH Tryz.prog Rows.fnWatchTopsUptoRow.laid ((World.doorLaid Tryz.prog 400 os).forCall (fun _ _ => 0) ⟨#[], args, []⟩).memory :=
  laidMetH_of_parts3 (fuel := 8) (laidMet_of_run' 8 (by kernel_rfl) (by kernel_rfl)) (by kernel_rfl) (by kernel_rfl)

theorem laid_out : laidOutB Tryz.prog = true := by kernel_rfl

theorem row_lifted (hLaw : LawSaid) (os : Os) (started : os.Started) (H : Type) (enc : TypeId × Value → H) (F0 : Stop.Interp) :
    ReturnsInHanded {} Tryz.checked os 3 .any (fun w args => ((Rows.OpenSpec.upto Rows.fnWatchTopsSpec).pre enc Tryz.prog Tryz.f3 [] false w args ∧ laidMetH Tryz.prog Rows.fnWatchTopsUptoRow.laid w) ∧ sizedMet enc Tryz.prog Tryz.f3 (Rows.OpenSpec.upto Rows.fnWatchTopsSpec) false w args)
      (((Rows.OpenSpec.upto Rows.fnWatchTopsSpec).at F0).post enc Tryz.prog Tryz.f3 false true false false) := by
  refine returnsInHanded_of_cond_and (C := Tryz.checked) (s := Rows.OpenSpec.upto Rows.fnWatchTopsSpec) (k := Rows.uptoSmall) rfl (X := fun w _ => laidMetH Tryz.prog Rows.fnWatchTopsUptoRow.laid w) (fun _ _ _ hh h => h.of_heap hh) ownKnob_none started (by kernel_rfl) Tryz.func3
    (witness_cond (enc := enc) (C := Tryz.checked) (s := Rows.OpenSpec.upto Rows.fnWatchTopsSpec) (k := Rows.uptoSmall) rfl (X := fun w _ => laidMetH Tryz.prog Rows.fnWatchTopsUptoRow.laid w) false (World.doorLaid Tryz.prog 400 os) #[.slice none 0 0] 8 rfl (World.shaped_of_RefB (by kernel_rfl) (by kernel_rfl)) (by kernel_rfl)
      (x := ([.nil], [], [])) (by kernel_rfl) (by kernel_rfl) (by kernel_rfl) (by kernel_rfl) (door_met os _)) ?_
  intro W base args ds gs before hval0 hW _ hk _ _
  have hval : ∀ (j : Nat) t v, Tryz.f3.params[j]? = some t → args[j]? = some v → Value.okWide Tryz.prog W .any base t v := hval0
  have hW' := hW
  obtain ⟨p, q, hA0, hV, rfl, hfz, hnd⟩ := hW
  have hA : DataW.TrodAll enc Tryz.prog W 0 (fun _ => true) true Tryz.f3.params.toList args.toList ds p := hA0
  rw [Tryz.params3] at hA hval
  obtain ⟨v0, d0, rfl, rfl, h0⟩ := trodAll_one hA
  obtain ⟨rfl, rfl⟩ := trodVars_none hV
  obtain ⟨a0, len0, cap0, rfl⟩ := okWide_slice Tryz.underlying22 (hval 0 22 v0 rfl rfl)
  clear hA0 hval0 hA hval
  simp only [List.append_nil] at hW' hk
  have hlt : ∀ x ∈ p, x.block < W.heap.size := fun x hx => hW'.lt x (by simpa using hx)
  have hargs0 : ∀ W' : World, Below W.heap.size W W' → DataW.Trod enc Tryz.prog W' 0 (fun b => decide (b < W.heap.size)) true 22 (.slice a0 len0 cap0) d0 p := fun W' hb =>
    Below.trod laid_out (by kernel_rfl) (of_decide_eq_true (by kernel_rfl)) h0 hb (fun x hx => hlt x hx)
  obtain ⟨fu0, hf0⟩ := h0
  obtain ⟨n1, c1, A1, vs1, xss1, e1, -, hc1, hr1, hd1⟩ := rows_read hf0
  simp [Value.cells] at e1
  obtain ⟨rfl, rfl, rfl⟩ := e1
  have hb : Rows.uptoBulk d0 + 0 ≤ 1048576 := of_decide_eq_true hk
  have hb1 := bulk_read hd1
  refine (hLaw W _ _ _ vs1 xss1 hc1 hr1 (by simp only at hb1; omega)).mono fun e W' ⟨he, hb⟩ => ?_
  subst he
  have e1 : ((Rows.OpenSpec.upto Rows.fnWatchTopsSpec).at F0).fn H ([d0] ++ []) = { results := [.lit (.bool true)], args := [d0] } := by rfl
  refine ⟨_, rfl, _, _, _, [], p, [], hW', ?_, ?_, ?_, hb.frame _, fun h => by cases h⟩
  · rw [e1]; exact trodAll_mk1 (shut_bool Tryz.underlying4 true)
  · rw [e1]; exact trodAll_mk1 (hargs0 W' hb)
  · rw [e1]; rfl

theorem row_holds (hLaw : LawSaid) : Rows.FnWatchTopsUptoSaid :=
  OpenClaim.holds_of_cond 3 Tryz.f3 rfl rfl rfl rfl rfl rfl rfl ⟨rfl, rfl, rfl, rfl, rfl⟩ rfl rfl rfl rfl rfl (by kernel_rfl) Tryz.func3 row_closed
    (of_decide_eq_true (by kernel_rfl)) (by unfold Func.isWrapper; first | (rw [if_pos (by decide +kernel)]; kernel_rfl) | (rw [if_neg (by decide +kernel)]; exact ⟨rfl, rfl⟩))
    (fun os started H enc _ F0 => row_lifted hLaw os started H enc F0)
end Go.Proofs.YtafpgikhcjildaaGreatDoor
