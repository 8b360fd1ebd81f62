/- An opcode executed: what stands ahead of its own code. -/
import Derived.Test.YtkgihpebghmnbaaGreatDoorG07
namespace Go.Proofs.YtkgihpebghmnbaaGreatDoor
open Go.RowKit Go.Proofs

set_option maxRecDepth 100000

theorem disabled_small (w : World) (v : Nat) (hv : (v : Int) ≤ 96) :
    Calls Tryz.prog 83 #[.int .u8 v] w fun e w' => e = .returned (.bool false) ∧ w = w' := by
  go_enter Tryz.func83, Tryz.ntmps83
  go_wp2
  go_ret
  exact ⟨rfl, rfl⟩
theorem illegal_small (w : World) (v : Nat) (hv : (v : Int) ≤ 96) :
    Calls Tryz.prog 84 #[.int .u8 v] w fun e w' => e = .returned (.bool false) ∧ w = w' := by
  go_enter Tryz.func84, Tryz.ntmps84
  go_wp2
  go_ret
  exact ⟨rfl, rfl⟩

/-- Neither disabled nor always illegal. -/
def Plain (v : Nat) : Prop := ∀ w : World,
  (Calls Tryz.prog 83 #[.int .u8 v] w fun e w' => e = .returned (.bool false) ∧ w = w') ∧
  (Calls Tryz.prog 84 #[.int .u8 v] w fun e w' => e = .returned (.bool false) ∧ w = w')
theorem plain_small (v : Nat) (hv : v ≤ 96) : Plain v := fun w => ⟨disabled_small w v (by omega), illegal_small w v (by omega)⟩
theorem plain117 : Plain 117 := fun w => ⟨calls_reckoned (c := Tryz.f83.body.getD .skip) 2000 w Tryz.func83 (by kernel_rfl) 34 Tryz.ntmps83 (show 1 ≤ 34 by omega) 2 Tryz.results83 [] (.bool false) [] [] (by kernel_rfl) (fun _ h => by cases h) ⟨rfl, rfl⟩, calls_reckoned (c := Tryz.f84.body.getD .skip) 2000 w Tryz.func84 (by kernel_rfl) 8 Tryz.ntmps84 (show 1 ≤ 8 by omega) 2 Tryz.results84 [] (.bool false) [] [] (by kernel_rfl) (fun _ h => by cases h) ⟨rfl, rfl⟩⟩
theorem plain118 : Plain 118 := fun w => ⟨calls_reckoned (c := Tryz.f83.body.getD .skip) 2000 w Tryz.func83 (by kernel_rfl) 34 Tryz.ntmps83 (show 1 ≤ 34 by omega) 2 Tryz.results83 [] (.bool false) [] [] (by kernel_rfl) (fun _ h => by cases h) ⟨rfl, rfl⟩, calls_reckoned (c := Tryz.f84.body.getD .skip) 2000 w Tryz.func84 (by kernel_rfl) 8 Tryz.ntmps84 (show 1 ≤ 8 by omega) 2 Tryz.results84 [] (.bool false) [] [] (by kernel_rfl) (fun _ h => by cases h) ⟨rfl, rfl⟩⟩
theorem plain136 : Plain 136 := fun w => ⟨calls_reckoned (c := Tryz.f83.body.getD .skip) 2000 w Tryz.func83 (by kernel_rfl) 34 Tryz.ntmps83 (show 1 ≤ 34 by omega) 2 Tryz.results83 [] (.bool false) [] [] (by kernel_rfl) (fun _ h => by cases h) ⟨rfl, rfl⟩, calls_reckoned (c := Tryz.f84.body.getD .skip) 2000 w Tryz.func84 (by kernel_rfl) 8 Tryz.ntmps84 (show 1 ≤ 8 by omega) 2 Tryz.results84 [] (.bool false) [] [] (by kernel_rfl) (fun _ h => by cases h) ⟨rfl, rfl⟩⟩
theorem plain169 : Plain 169 := fun w => ⟨calls_reckoned (c := Tryz.f83.body.getD .skip) 2000 w Tryz.func83 (by kernel_rfl) 34 Tryz.ntmps83 (show 1 ≤ 34 by omega) 2 Tryz.results83 [] (.bool false) [] [] (by kernel_rfl) (fun _ h => by cases h) ⟨rfl, rfl⟩, calls_reckoned (c := Tryz.f84.body.getD .skip) 2000 w Tryz.func84 (by kernel_rfl) 8 Tryz.ntmps84 (show 1 ≤ 8 by omega) 2 Tryz.results84 [] (.bool false) [] [] (by kernel_rfl) (fun _ h => by cases h) ⟨rfl, rfl⟩⟩
theorem plain172 : Plain 172 := fun w => ⟨calls_reckoned (c := Tryz.f83.body.getD .skip) 2000 w Tryz.func83 (by kernel_rfl) 34 Tryz.ntmps83 (show 1 ≤ 34 by omega) 2 Tryz.results83 [] (.bool false) [] [] (by kernel_rfl) (fun _ h => by cases h) ⟨rfl, rfl⟩, calls_reckoned (c := Tryz.f84.body.getD .skip) 2000 w Tryz.func84 (by kernel_rfl) 8 Tryz.ntmps84 (show 1 ≤ 8 by omega) 2 Tryz.results84 [] (.bool false) [] [] (by kernel_rfl) (fun _ h => by cases h) ⟨rfl, rfl⟩⟩
theorem plain177 : Plain 177 := fun w => ⟨calls_reckoned (c := Tryz.f83.body.getD .skip) 2000 w Tryz.func83 (by kernel_rfl) 34 Tryz.ntmps83 (show 1 ≤ 34 by omega) 2 Tryz.results83 [] (.bool false) [] [] (by kernel_rfl) (fun _ h => by cases h) ⟨rfl, rfl⟩, calls_reckoned (c := Tryz.f84.body.getD .skip) 2000 w Tryz.func84 (by kernel_rfl) 8 Tryz.ntmps84 (show 1 ≤ 8 by omega) 2 Tryz.results84 [] (.bool false) [] [] (by kernel_rfl) (fun _ h => by cases h) ⟨rfl, rfl⟩⟩

theorem branch_any (w : World) (g c : Nat) (A : Option Addr) (h : w.cell? ⟨g, 27, none⟩ = some (.slice A 0 c)) :
    Calls Tryz.prog 85 #[.pointer (some ⟨g, 0, none⟩)] w fun e w' => e = .returned (.bool true) ∧ w = w' := by
  go_enter Tryz.func85, Tryz.ntmps85
  go_wp2
  go_ret
  exact ⟨rfl, rfl⟩

/-- The machine's cells that an opcode's execution reads. -/
structure ExOk (w : World) (g : Nat) : Prop where
  lt : g < w.heap.size
  c32 : w.cell? ⟨g, 32, none⟩ = some (.pointer none)
  c27 : w.cell? ⟨g, 27, none⟩ = some (.slice none 0 0)

/-- A push is short enough for the rules at hand: they do not ask, or it is no push with bytes behind it, or the check lets it. -/
def MinOk (w : World) (g ob v n c : Nat) (A : Option Addr) : Prop := w.cell? ⟨g, 24, none⟩ = some (.bool false) ∨ (w.cell? ⟨g, 24, none⟩ = some (.bool true) ∧ (78 < v ∨
  (v ≤ 78 ∧ Calls Tryz.prog 87 #[.pointer (some ⟨ob, 0, none⟩), .slice A n c] w fun e w' => e = .returned .nilIface ∧ w = w')))

/-- A value that is no fault, or one. -/
def Ret (r : Value) : Prop := r = .nilIface ∨ Fault r

/-- executeOpcode at a small opcode. -/
theorem exec_small (w : World) (g ob v n c : Nat) (A : Option Addr) (f : FuncId) (S : Value → World → Prop) (hS : ∀ r w', S r w' → Ret r)
    (hv : v ≤ 96) (hr : RunsTo v f) (hg : ExOk w g) (hob : w.cell? ⟨ob, 0, none⟩ = some (.int .u8 v)) (hn : n ≤ 520) (hmin : MinOk w g ob v n c A)
    (h : Calls Tryz.prog f #[.pointer (some ⟨ob, 0, none⟩), .slice A n c, .pointer (some ⟨g, 0, none⟩)] w fun e w' => ∃ r, e = .returned r ∧ S r w') :
    Calls Tryz.prog 56 #[.pointer (some ⟨g, 0, none⟩), .pointer (some ⟨ob, 0, none⟩), .slice A n c] w fun e w' => ∃ r, e = .returned r ∧ S r w' := by
  obtain ⟨hlt, c32, c27⟩ := hg
  have hobl := World.block_lt_of_cell? w _ hob
  have HR := Lib.hid (hr w ob (.slice A n c) (.pointer (some ⟨g, 0, none⟩)) _ hob h)
  have HS := Lib.hid hS
  have hv1 : (v : Int) ≤ 96 := by omega
  have hn1 : (n : Int) ≤ 520 := by omega
  have HB := Lib.hid (branch_any w g 0 none c27)
  clear h hS hr
  rcases hmin with c24 | ⟨c24, hv78 | ⟨hv78, hM⟩⟩
  · go_enter Tryz.func56, Tryz.ntmps56
    go_wp2_with fail
    refine (disabled_small w v hv1).mono ?_
    rintro e w1 ⟨rfl, rfl⟩
    go_wp2_with fail
    refine (illegal_small w v hv1).mono ?_
    rintro e w1 ⟨rfl, rfl⟩
    go_wp2_with fail
    refine HB.out.mono ?_
    rintro e w1 ⟨rfl, rfl⟩
    go_wp2_with fail
    refine HR.out.mono ?_
    rintro e w1 ⟨r, rfl, hs⟩
    have hs' := Lib.hid hs
    rcases HS.out _ _ hs with rfl | ⟨cd, s, rfl, h1, h2⟩
    · clear hs
      go_wp2
      go_ret
      exact ⟨_, rfl, hs'.out⟩
    · clear hs
      go_wp2
      go_ret
      exact ⟨_, rfl, hs'.out⟩
  · have hv2 : ¬ ((v : Int) ≤ 78) := by omega
    go_enter Tryz.func56, Tryz.ntmps56
    go_wp2_with fail
    refine (disabled_small w v hv1).mono ?_
    rintro e w1 ⟨rfl, rfl⟩
    go_wp2_with fail
    refine (illegal_small w v hv1).mono ?_
    rintro e w1 ⟨rfl, rfl⟩
    go_wp2_with fail
    refine HB.out.mono ?_
    rintro e w1 ⟨rfl, rfl⟩
    go_wp2_with fail
    refine HB.out.mono ?_
    rintro e w1 ⟨rfl, rfl⟩
    go_wp2_with fail
    refine HR.out.mono ?_
    rintro e w1 ⟨r, rfl, hs⟩
    have hs' := Lib.hid hs
    rcases HS.out _ _ hs with rfl | ⟨cd, s, rfl, h1, h2⟩
    · clear hs
      go_wp2
      go_ret
      exact ⟨_, rfl, hs'.out⟩
    · clear hs
      go_wp2
      go_ret
      exact ⟨_, rfl, hs'.out⟩
  · have hv2 : (v : Int) ≤ 78 := by omega
    have hv0 : (0 : Int) ≤ (v : Int) := by omega
    have HM := Lib.hid hM
    clear hM
    go_enter Tryz.func56, Tryz.ntmps56
    go_wp2_with fail
    refine (disabled_small w v hv1).mono ?_
    rintro e w1 ⟨rfl, rfl⟩
    go_wp2_with fail
    refine (illegal_small w v hv1).mono ?_
    rintro e w1 ⟨rfl, rfl⟩
    go_wp2_with fail
    refine HB.out.mono ?_
    rintro e w1 ⟨rfl, rfl⟩
    go_wp2_with fail
    refine HB.out.mono ?_
    rintro e w1 ⟨rfl, rfl⟩
    go_wp2_with fail
    refine HM.out.mono ?_
    rintro e w1 ⟨rfl, rfl⟩
    go_wp2_with fail
    refine HR.out.mono ?_
    rintro e w1 ⟨r, rfl, hs⟩
    have hs' := Lib.hid hs
    rcases HS.out _ _ hs with rfl | ⟨cd, s, rfl, h1, h2⟩
    · clear hs
      go_wp2
      go_ret
      exact ⟨_, rfl, hs'.out⟩
    · clear hs
      go_wp2
      go_ret
      exact ⟨_, rfl, hs'.out⟩

/-- executeOpcode at one that is counted. -/
theorem exec_great (w : World) (g ob v k n c : Nat) (A : Option Addr) (f : FuncId) (S : Value → World → Prop) (hS : ∀ r w', S r w' → Ret r)
    (hv : 97 ≤ v) (hv2 : v ≤ 255) (hv3 : v ≠ 171) (hp : Plain v) (hr : RunsTo v f) (hg : ExOk w g) (c24 : w.cell? ⟨g, 24, none⟩ = some (.bool false)) (hfz : w.frozen? ⟨g, 28, none⟩ = false) (c28 : w.cell? ⟨g, 28, none⟩ = some (.int .i64 k)) (hk : k ≤ 200) (hne : ob ≠ g) (hob : w.cell? ⟨ob, 0, none⟩ = some (.int .u8 v))
    (h : Calls Tryz.prog f #[.pointer (some ⟨ob, 0, none⟩), .slice A n c, .pointer (some ⟨g, 0, none⟩)] (w.setCell ⟨g, 28, none⟩ (.int .i64 (k + 1))) fun e w' => ∃ r, e = .returned r ∧ S r w') :
    Calls Tryz.prog 56 #[.pointer (some ⟨g, 0, none⟩), .pointer (some ⟨ob, 0, none⟩), .slice A n c] w fun e w' => ∃ r, e = .returned r ∧ S r w' := by
  obtain ⟨hlt, c32, c27⟩ := hg
  have hobl := World.block_lt_of_cell? w _ hob
  have hob' : (w.setCell ⟨g, 28, none⟩ (.int .i64 (k + 1))).cell? ⟨ob, 0, none⟩ = some (.int .u8 v) := by
    rw [World.cell?_setCell_far _ ⟨g, 28, none⟩ ⟨ob, 0, none⟩ _ (Ne.symm hne)]; exact hob
  have HR := Lib.hid (hr _ ob (.slice A n c) (.pointer (some ⟨g, 0, none⟩)) _ hob' h)
  have HS := Lib.hid hS
  have hv1 : 97 ≤ (v : Int) := by omega
  have hv4 : ¬ ((v : Int) = 171) := by omega
  have hv5 : ((v : Int) == 171) = false := by simp; omega
  have hk1 : (k : Int) ≤ 200 := by omega
  have HP := Lib.hid hp
  clear h hS hr hob' hp
  go_enter Tryz.func56, Tryz.ntmps56
  go_wp2_with fail
  refine (HP.out w).1.mono ?_
  rintro e w1 ⟨rfl, rfl⟩
  go_wp2_with fail
  refine (HP.out w).2.mono ?_
  rintro e w1 ⟨rfl, rfl⟩
  go_wp2_with fail
  refine (branch_any _ g 0 none (by rw [World.cell?_setCell_other _ _ _ _ (by simp)]; exact c27)).mono ?_
  rintro e w1 ⟨rfl, rfl⟩
  go_wp2_with fail
  refine HR.out.mono ?_
  rintro e w1 ⟨r, rfl, hs⟩
  have hs' := Lib.hid hs
  rcases HS.out _ _ hs with rfl | ⟨cd, s, rfl, h1, h2⟩
  · clear hs
    go_wp2
    go_ret
    exact ⟨_, rfl, hs'.out⟩
  · clear hs
    go_wp2
    go_ret
    exact ⟨_, rfl, hs'.out⟩
end Go.Proofs.YtkgihpebghmnbaaGreatDoor
