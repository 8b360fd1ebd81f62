/- Small numbers of scripts as bytes. -/
import Derived.Test.YtafpgikhcjildaaGreatDoorStkb
namespace Go.Proofs.YtafpgikhcjildaaGreatDoor
open Go.RowKit Go.Proofs

set_option maxRecDepth 100000

theorem make09 : ∀ w : World, (Instr.makeSlice 24 (.int .i64 0) (.int .i64 9)).run Tryz.prog w = .ok (.slice (some ⟨w.heap.size, 0, none⟩) 0 9) (w.alloc (.cells #[.int .u8 0, .int .u8 0, .int .u8 0, .int .u8 0, .int .u8 0, .int .u8 0, .int .u8 0, .int .u8 0, .int .u8 0] 5)) := fun _ => by kernel_rfl

theorem and255 (n : Int) (h1 : 1 ≤ n) (h2 : n ≤ 16) : bits BinOp.and IntKind.i64 n 255 = n := by
  rcases (show n = 1 ∨ n = 2 ∨ n = 3 ∨ n = 4 ∨ n = 5 ∨ n = 6 ∨ n = 7 ∨ n = 8 ∨ n = 9 ∨ n = 10 ∨ n = 11 ∨ n = 12 ∨ n = 13 ∨ n = 14 ∨ n = 15 ∨ n = 16 by omega) with h | h | h | h | h | h | h | h | h | h | h | h | h | h | h | h <;> (subst h; decide)

theorem and128 (n : Int) (h1 : 1 ≤ n) (h2 : n ≤ 16) : bits BinOp.and IntKind.u8 n 128 = 0 := by
  rcases (show n = 1 ∨ n = 2 ∨ n = 3 ∨ n = 4 ∨ n = 5 ∨ n = 6 ∨ n = 7 ∨ n = 8 ∨ n = 9 ∨ n = 10 ∨ n = 11 ∨ n = 12 ∨ n = 13 ∨ n = 14 ∨ n = 15 ∨ n = 16 by omega) with h | h | h | h | h | h | h | h | h | h | h | h | h | h | h | h <;> (subst h; decide)

/-- Bytes of a number from 1 to 16. -/
theorem bytes_small (w : World) (n : Int) (h1 : 1 ≤ n) (h2 : n ≤ 16) :
    Calls Tryz.prog 197 #[.int .i64 n] w fun e w' => ∃ A c, e = .returned (.slice A 1 c) ∧ w'.ownsRow w.heap.size 5 1 (.slice A 1 c) 1 [.int .u8 n] ∧ Below w.heap.size w w' := by
  obtain ⟨i0, hi, hz0, hz1, hz2⟩ := info_parts info_u8
  have hmk := make09
  have hne : (n == 0) = false := by simp; omega
  have hand := and255 n h1 h2
  have hmod : n % 256 = n := by omega
  have hone : Hid (∀ u ∈ [Value.int .u8 n], u.oneCell' = true) := by intro u hu; simp at hu; subst hu; rfl
  have hown := World.ownsRow_made (base := w.heap.size) (e := 5) (size := 1) w #[.int .u8 0, .int .u8 0, .int .u8 0, .int .u8 0, .int .u8 0, .int .u8 0, .int .u8 0, .int .u8 0, .int .u8 0] 9 (Nat.le_refl _) (by simp [maxLen]) rfl
  have hO := Lib.hid (hown.alloc (.cells #[.int .u8 n] 5))
  clear hown
  have hb : Hid (w.heap.size ≤ ((w.alloc (.cells #[.int .u8 0, .int .u8 0, .int .u8 0, .int .u8 0, .int .u8 0, .int .u8 0, .int .u8 0, .int .u8 0, .int .u8 0] 5)).alloc (.cells #[.int .u8 n] 5)).heap.size) := by show _ ≤ _; simp; omega
  go_enter Tryz.func197, Tryz.ntmps197
  go_wp2
  refine wp_loop_rounds 2 ?_
  rw [rounds_succ]
  go_wp2_with (at_builtin; refine Stop.mk ?_)
  refine Stop.go ?_
  refine wpList_append_cells _ rfl (.tmp 16) (.tmp 20) 24 rfl w.heap.size 5 i0 _ 1 Tryz.underlying24 hi hz0 hz1 hz2 rfl _ 0 [] rfl hO.out (some ⟨w.heap.size + 1, 0, none⟩) 1 1 [.int .u8 n] rfl ?_ hone.out (by omega) (by omega) hb.out ?_
  · have := Cells.one (w.alloc (.cells #[.int .u8 0, .int .u8 0, .int .u8 0, .int .u8 0, .int .u8 0, .int .u8 0, .int .u8 0, .int .u8 0, .int .u8 0] 5)) (.int .u8 n) 5
    simpa using this
  intro v' w1 hown' hgrow hat
  simp only [Nat.zero_add, List.nil_append] at hown'
  obtain ⟨A', c', rfl⟩ := own_form hown'
  have hbel : Below w.heap.size w w1 := (((Below.refl _ _).alloc (Nat.le_refl _) _).alloc (by simp) _).grown hgrow (by simp; omega) (fun k hk => by injection hk with hk; exact Nat.le_of_eq hk)
  obtain ⟨g, cap, hform, hbg, hlt⟩ := hown'.form (by omega)
  injection hform with e1 e2 e3
  subst e1; subst e3
  have hx : w1.cell? ⟨g, 0, none⟩ = some (.int .u8 n) := by
    have := hown'.cells (g := g) rfl 0 (.int .u8 n) rfl
    rwa [addr_add, Nat.zero_add] at this
  have hf : w1.frozen? ⟨g, 0, none⟩ = false := hown'.frozenAt 0
  have HB := Lib.hid hbel
  have HO := Lib.hid hown'
  clear hbel hown' hgrow hat
  go_wp2
  rw [rounds_succ]
  have hdiv : n / 256 = 0 := by omega
  have hand8 := and128 n h1 h2
  go_wp2
  go_ret
  exact ⟨_, _, rfl, HO.out, HB.out⟩
end Go.Proofs.YtafpgikhcjildaaGreatDoor
