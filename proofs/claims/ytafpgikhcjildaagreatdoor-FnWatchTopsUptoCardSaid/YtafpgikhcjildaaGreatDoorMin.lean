/- The check that a push is the shortest: it lets the shortest. -/
import Derived.Test.YtafpgikhcjildaaGreatDoorExec
namespace Go.Proofs.YtafpgikhcjildaaGreatDoor
open Go.RowKit Go.Proofs

set_option maxRecDepth 100000

def MinLets (w : World) (ob n c : Nat) (A : Option Addr) : Prop := Calls Tryz.prog 62 #[.pointer (some ⟨ob, 0, none⟩), .slice A n c] w fun e w' => e = .returned .nilIface ∧ w = w'

theorem min0 (w : World) (ob c : Nat) (A : Option Addr) (h : w.cell? ⟨ob, 0, none⟩ = some (.int .u8 0)) : MinLets w ob 0 c A := by
  unfold MinLets
  go_enter Tryz.func62, Tryz.ntmps62
  go_wp2
  go_ret
  exact ⟨rfl, rfl⟩

theorem min1 (w : World) (ob c b o : Nat) (x : Int) (h : w.cell? ⟨ob, 0, none⟩ = some (.int .u8 1)) (hx : w.cell? ⟨b, o, none⟩ = some (.int .u8 x)) (h0 : x = 0 ∨ (17 ≤ x ∧ x ≠ 129)) : MinLets w ob 1 c (some ⟨b, o, none⟩) := by
  unfold MinLets
  rcases h0 with rfl | ⟨h1, h2⟩
  · go_enter Tryz.func62, Tryz.ntmps62
    go_wp2
    go_ret
    exact ⟨rfl, rfl⟩
  · have h3 : decide (1 ≤ x) = true := decide_eq_true (by omega)
    have h3' : 1 ≤ x := by omega
    have h4 : decide (x ≤ 16) = false := decide_eq_false (by omega)
    have h4' : ¬ (x ≤ 16) := by omega
    have h5 : (x == 129) = false := by simpa using h2
    go_enter Tryz.func62, Tryz.ntmps62
    go_wp2
    go_ret
    exact ⟨rfl, rfl⟩

theorem minN (w : World) (ob c n : Nat) (A : Option Addr) (v : Int) (h : w.cell? ⟨ob, 0, none⟩ = some (.int .u8 v)) (hn : 2 ≤ n) (hv : (n ≤ 75 ∧ v = n) ∨ (76 ≤ n ∧ n ≤ 255 ∧ v = 76) ∨ (256 ≤ n ∧ n ≤ 65535 ∧ v = 77)) : MinLets w ob n c A := by
  unfold MinLets
  obtain ⟨ni, hni⟩ : ∃ ni : Int, (n : Int) = ni := ⟨_, rfl⟩
  have a0 : (ni == 0) = false := by simp; omega
  have a0' : ¬ (ni = 0) := by omega
  have a1 : (ni == 1) = false := by simp; omega
  have a1' : ¬ (ni = 1) := by omega
  rcases hv with ⟨h1, rfl⟩ | ⟨h1, h2, rfl⟩ | ⟨h1, h2, rfl⟩
  · have b1 : ni ≤ 75 := by omega
    have b2 : 0 ≤ ni := by omega
    rw [hni] at h
    go_enter Tryz.func62, Tryz.ntmps62
    go_wp2
    go_ret
    exact ⟨rfl, rfl⟩
  · have b1 : ¬ (ni ≤ 75) := by omega
    have b2 : ni ≤ 255 := by omega
    go_enter Tryz.func62, Tryz.ntmps62
    go_wp2
    go_ret
    exact ⟨rfl, rfl⟩
  · have b1 : ¬ (ni ≤ 75) := by omega
    have b2 : ¬ (ni ≤ 255) := by omega
    have b3 : ni ≤ 65535 := by omega
    go_enter Tryz.func62, Tryz.ntmps62
    go_wp2
    go_ret
    exact ⟨rfl, rfl⟩
end Go.Proofs.YtafpgikhcjildaaGreatDoor
