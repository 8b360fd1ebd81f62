/- FnSignedCovers's row: for every input the law returns true, and the input reads as it did. -/
import Derived.Test.YtkgihpebghmnbaaGreatDoorFactsS
import Derived.Test.YtkgihpebghmnbaaGreatDoorG15
import Derived.Test.YtkgihpebghmnbaaGreatDoorG25
import Derived.Test.YtkgihpebghmnbaaGreatDoorLawS
import Derived.Carry
namespace Go.Proofs.YtkgihpebghmnbaaGreatDoor
open Go.ChangeShapes Go.WideShapes Go.ChangeAt Go.RowKit Go.Proofs

set_option maxRecDepth 100000

theorem ownKnob_none : ownKnob Tryz.prog.godebug = none := by kernel_rfl

/-- The door's own heap meets the condition on the listed variables. -/
theorem door_met (os : Os) (args : Array Value) : laidMetH Tryz.prog Rows.fnSignedCoversRow.laid ((World.doorLaid Tryz.prog 400 os).forCall (fun _ _ => 0) ⟨#[], args, []⟩).memory :=
  laidMetH_of_parts3 (fuel := 8) (laidMet_of_run' 8 (by kernel_rfl) (by kernel_rfl)) (by kernel_rfl) (by kernel_rfl)

theorem laid_out : laidOutB Tryz.prog = true := by kernel_rfl

theorem row_lifted (os : Os) (started : os.Started) (H : Type) (enc : TypeId × Value → H) :
    ReturnsInHanded {} Tryz.checked os 3 .any (fun w args => (Rows.fnSignedCoversSpec.pre enc Tryz.prog Tryz.f3 [] false w args ∧ laidMetH Tryz.prog Rows.fnSignedCoversRow.laid w) ∧ sizedMet enc Tryz.prog Tryz.f3 (OpenSpec.ofChange Rows.fnSignedCoversSpec) false w args)
      (Rows.fnSignedCoversSpec.post enc Tryz.prog Tryz.f3 false true false false) := by
  refine handed_shaped (C := Tryz.checked) (X := fun w _ => laidMetH Tryz.prog Rows.fnSignedCoversRow.laid w) (fun _ _ _ hh h => h.of_heap hh) ownKnob_none started (by kernel_rfl) Tryz.func3
    (ChangeSpec.witness_shaped (enc := enc) (C := Tryz.checked) (os := os) (X := fun w _ => laidMetH Tryz.prog Rows.fnSignedCoversRow.laid w) false (World.doorLaid Tryz.prog 400 os) #[.agg (Array.replicate 32 (.int .u8 0)), .agg #[.int .i32 0, .slice none 0 0, .slice none 0 0, .int .u32 0], .int .i64 0, .int .i64 0, .int .i64 0] 8 rfl (World.shaped_of_RefB (by kernel_rfl) (by kernel_rfl)) (by kernel_rfl) (by kernel_rfl) (by kernel_rfl) (door_met os _)) ?_
  intro W base args ds gs before hsh hval0 hW
  obtain ⟨kc, hk⟩ := kt_of hsh
  have hval : ∀ (j : Nat) t v, Tryz.f3.params[j]? = some t → args[j]? = some v → Value.okWide Tryz.prog W .any base t v := hval0
  have hW' := hW
  obtain ⟨p, q, hA0, hV, rfl, hfz, hnd⟩ := hW
  have hA : DataW.TrodAll enc Tryz.prog W 0 (fun _ => true) true Tryz.f3.params.toList args.toList ds p := hA0
  rw [Tryz.params3] at hA hval
  obtain ⟨v0, v1, v2, v3, v4, d0, d1, d2, d3, d4, p0, p1, p2, p3, p4, rfl, rfl, rfl, h0, h1, h2, h3, h4⟩ := trodAll_five hA
  obtain ⟨rfl, rfl⟩ := trodVars_none hV
  obtain ⟨sh, hsl, rfl⟩ := short_read (hval 0 22 v0 rfl rfl) h0
  obtain ⟨Ai, Ao, ci, co, t, rfl, hsrc⟩ := tx_read (hval 1 27 v1 rfl rfl) h1
  have k2 := h2
  have k3 := h3
  have k4 := h4
  obtain ⟨a, rfl, -, -, -⟩ := open_int Tryz.underlying3 (hval 2 3 v2 rfl rfl) k2
  obtain ⟨b, rfl, -, -, -⟩ := open_int Tryz.underlying3 (hval 3 3 v3 rfl rfl) k3
  obtain ⟨c, rfl, -, -, -⟩ := open_int Tryz.underlying2 (hval 4 2 v4 rfl rfl) k4
  clear hA0 hval0 hA hval k2 k3 k4
  simp only [List.append_nil] at hW'
  have hlt : ∀ x ∈ p0 ++ (p1 ++ (p2 ++ (p3 ++ p4))), x.block < W.heap.size := fun x hx => hW'.lt x hx
  refine (law_covers kc W.heap.size W Ai Ao ci co t sh hsl hk hsrc a b c).mono fun e W' ⟨he, hb⟩ => ?_
  subst he
  have r0 := Below.trod laid_out (by kernel_rfl) (of_decide_eq_true (by kernel_rfl)) h0 hb (fun x hx => hlt x (by simp [hx]))
  have r1 := Below.trod laid_out (by kernel_rfl) (of_decide_eq_true (by kernel_rfl)) h1 hb (fun x hx => hlt x (by simp [hx]))
  have r2 := Below.trod laid_out (by kernel_rfl) (of_decide_eq_true (by kernel_rfl)) h2 hb (fun x hx => hlt x (by simp [hx]))
  have r3 := Below.trod laid_out (by kernel_rfl) (of_decide_eq_true (by kernel_rfl)) h3 hb (fun x hx => hlt x (by simp [hx]))
  have r4 := Below.trod laid_out (by kernel_rfl) (of_decide_eq_true (by kernel_rfl)) h4 hb (fun x hx => hlt x (by simp [hx]))
  have e1 : Rows.fnSignedCoversSpec.fn H ([d0, d1, d2, d3, d4] ++ []) = { results := [.lit (.bool true)], args := [d0, d1, d2, d3, d4] } := by rfl
  refine ⟨_, rfl, _, _, _, [], p0 ++ (p1 ++ (p2 ++ (p3 ++ p4))), [], hW', ?_, ?_, ?_, hb.frame _, fun h => by cases h⟩
  · rw [e1]; exact trodAll_mk1 (shut_bool Tryz.underlying4 true)
  · rw [e1]; exact trodAll_cons_mk r0 (trodAll_mk4 r1 r2 r3 r4)
  · rw [e1]; rfl

theorem row_holds : Rows.FnSignedCoversSaid :=
  OpenClaim.holds_of_wide 3 Tryz.f3 rfl rfl rfl rfl rfl rfl rfl ⟨rfl, rfl, rfl, rfl, rfl⟩ rfl rfl rfl rfl rfl (by kernel_rfl) Tryz.func3 row_closed
    (of_decide_eq_true (by kernel_rfl)) (by unfold Func.isWrapper; first | (rw [if_pos (by decide +kernel)]; kernel_rfl) | (rw [if_neg (by decide +kernel)]; exact ⟨rfl, rfl⟩))
    (fun os started H enc _ => row_lifted os started H enc)
end Go.Proofs.YtkgihpebghmnbaaGreatDoor
