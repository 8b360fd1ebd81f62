/- The stack's methods, walked, second part. -/
import Derived.Test.YtafpgikhcjildaaGreatDoorStk
import Derived.WalkSmall
namespace Go.Proofs.YtafpgikhcjildaaGreatDoor
open Go.RowKit Go.Proofs

set_option maxRecDepth 100000

/-- nipN at 0: the top is taken away. -/
theorem nip0_any (w : World) (b o t base n : Nat) (cs : Array Value) (A Ax : Option Addr) (c nx cx : Nat) (items : List Value)
    (hB : Blk w b t cs) (hv : cs[o]? = some (.slice A (n + 1) c)) (hown : w.ownsRow base 24 1 (.slice A (n + 1) c) (n + 1) (items ++ [.slice Ax nx cx])) (ht : 24 ≠ t) (hn : n ≤ 100000) :
    Calls Tryz.prog 147 #[.pointer (some ⟨b, o, none⟩), .int .i32 0] w fun e w' => e = .returned (.tuple #[.slice Ax nx cx, .nilIface]) ∧
      Blk w' b t (cs.setIfInBounds o (.slice A n c)) ∧ w'.ownsRow base 24 1 (.slice A n c) n items ∧ Fm (M1 b) w w' := by
  obtain ⟨g, cap, hform, hbg, hlt⟩ := hown.form (by omega)
  injection hform with e1 e2 e3
  subst e1; subst e3
  have hlen : items.length = n := by have := hown.1; simp at this; omega
  have hx : w.cell? ⟨g, n, none⟩ = some (.slice Ax nx cx) := by
    have := hown.cells (g := g) rfl n (.slice Ax nx cx) (by rw [List.getElem?_append_right (by omega)]; simp [hlen])
    rwa [addr_add, Nat.zero_add] at this
  have hc := (hB.cell o).trans hv
  have hf := hB.frozen o
  have hbl := hB.lt
  have hcap : n + 1 ≤ c := by
    rcases hown.2 with ⟨h0, _⟩ | ⟨g', cap', cur, he, _, _, h1, _⟩
    · cases h0
    · injection he with _ _ e; omega
  have hpop := Lib.hid (ownsRow_pop (by simpa using hlen) hown)
  have HB := Lib.hid hB
  have HO := Lib.hid hown
  clear hB hown hv
  have hi0 : (0 : Int) ≤ (n : Int) := by omega
  have hi1 : (n : Int) ≤ 100000 := by omega
  have hi2 : (n : Int) + 1 ≤ (c : Int) := by omega
  go_enter Tryz.func147, Tryz.ntmps147
  go_wp2
  go_ret2
  exact ⟨rfl, HB.out.set_ o _, own_set hpop.out (p := ⟨b, o, none⟩) HB.out ht _, (Fm.refl _ w).set1 o _⟩

theorem pop_any (w : World) (b o t base n : Nat) (cs : Array Value) (A Ax : Option Addr) (c nx cx : Nat) (items : List Value)
    (hB : Blk w b t cs) (hv : cs[o]? = some (.slice A (n + 1) c)) (hown : w.ownsRow base 24 1 (.slice A (n + 1) c) (n + 1) (items ++ [.slice Ax nx cx])) (ht : 24 ≠ t) (hn : n ≤ 100000) :
    Calls Tryz.prog 64 #[.pointer (some ⟨b, o, none⟩)] w fun e w' => e = .returned (.tuple #[.slice Ax nx cx, .nilIface]) ∧
      Blk w' b t (cs.setIfInBounds o (.slice A n c)) ∧ w'.ownsRow base 24 1 (.slice A n c) n items ∧ Fm (M1 b) w w' := by
  have H := Lib.hid (nip0_any w b o t base n cs A Ax c nx cx items hB hv hown ht hn)
  clear hB hv hown
  go_enter Tryz.func64, Tryz.ntmps64
  go_wp2_with fail
  refine H.out.mono ?_
  rintro e w' ⟨rfl, h⟩
  have h := Lib.hid h
  go_wp2
  go_ret2
  exact ⟨rfl, h.out⟩

/-- PeekByteArray at 0: the top. -/
theorem peek0_any (w : World) (b o t base n : Nat) (cs : Array Value) (A Ax : Option Addr) (c nx cx : Nat) (items : List Value)
    (hB : Blk w b t cs) (hv : cs[o]? = some (.slice A (n + 1) c)) (hown : w.ownsRow base 24 1 (.slice A (n + 1) c) (n + 1) (items ++ [.slice Ax nx cx])) (hn : n ≤ 100000) :
    Calls Tryz.prog 148 #[.pointer (some ⟨b, o, none⟩), .int .i32 0] w fun e w' => e = .returned (.tuple #[.slice Ax nx cx, .nilIface]) ∧ w = w' := by
  obtain ⟨g, cap, hform, hbg, hlt⟩ := hown.form (by omega)
  injection hform with e1 e2 e3
  subst e1
  have hlen : items.length = n := by have := hown.1; simp at this; omega
  have hx : w.cell? ⟨g, n, none⟩ = some (.slice Ax nx cx) := by
    have := hown.cells (g := g) rfl n (.slice Ax nx cx) (by rw [List.getElem?_append_right (by omega)]; simp [hlen])
    rwa [addr_add, Nat.zero_add] at this
  have hc := (hB.cell o).trans hv
  clear hB hown hv
  have hi0 : (0 : Int) ≤ (n : Int) := by omega
  have hi1 : (n : Int) ≤ 100000 := by omega
  go_enter Tryz.func148, Tryz.ntmps148
  go_wp2
  go_ret2
  exact ⟨rfl, rfl⟩

/-- asBool of the two truths. -/
theorem asBool_one (w : World) (b o c : Nat) (h : w.cell? ⟨b, o, none⟩ = some (.int .u8 1)) :
    Calls Tryz.prog 71 #[.slice (some ⟨b, o, none⟩) 1 c] w fun e w' => e = .returned (.bool true) ∧ w = w' := by
  go_enter Tryz.func71, Tryz.ntmps71
  go_wp2
  refine wp_loop_rounds 1 ?_
  rw [rounds_succ]
  go_wp2
  go_ret
  exact ⟨rfl, rfl⟩
theorem asBool_none (w : World) (A : Option Addr) (c : Nat) :
    Calls Tryz.prog 71 #[.slice A 0 c] w fun e w' => e = .returned (.bool false) ∧ w = w' := by
  go_enter Tryz.func71, Tryz.ntmps71
  go_wp2
  refine wp_loop_rounds 1 ?_
  rw [rounds_succ]
  go_wp2
  go_ret
  exact ⟨rfl, rfl⟩

/-- PopBool, of an element that is one truth or the other. -/
def IsTruth (w : World) (Ax : Option Addr) (nx : Nat) (v : Bool) : Prop := (nx = 0 ∧ v = false) ∨ (∃ b o, Ax = some ⟨b, o, none⟩ ∧ nx = 1 ∧ v = true ∧ w.cell? ⟨b, o, none⟩ = some (.int .u8 1))
theorem asBool_any (w : World) (Ax : Option Addr) (nx cx : Nat) (v : Bool) (h : IsTruth w Ax nx v) :
    Calls Tryz.prog 71 #[.slice Ax nx cx] w fun e w' => e = .returned (.bool v) ∧ w = w' := by
  rcases h with ⟨rfl, rfl⟩ | ⟨b, o, rfl, rfl, rfl, h⟩
  · exact asBool_none w Ax cx
  · exact asBool_one w b o cx h

theorem popBool_any (w : World) (b o t base n : Nat) (cs : Array Value) (A Ax : Option Addr) (c nx cx : Nat) (items : List Value) (v : Bool)
    (hB : Blk w b t cs) (hv : cs[o]? = some (.slice A (n + 1) c)) (hown : w.ownsRow base 24 1 (.slice A (n + 1) c) (n + 1) (items ++ [.slice Ax nx cx])) (ht : 24 ≠ t) (hn : n ≤ 100000)
    (htr : ∀ w', Fm (M1 b) w w' → IsTruth w' Ax nx v) :
    Calls Tryz.prog 45 #[.pointer (some ⟨b, o, none⟩)] w fun e w' => e = .returned (.tuple #[.bool v, .nilIface]) ∧
      Blk w' b t (cs.setIfInBounds o (.slice A n c)) ∧ w'.ownsRow base 24 1 (.slice A n c) n items ∧ Fm (M1 b) w w' := by
  have H := Lib.hid (pop_any w b o t base n cs A Ax c nx cx items hB hv hown ht hn)
  have HT := Lib.hid htr
  clear hB hv hown htr
  go_enter Tryz.func45, Tryz.ntmps45
  go_wp2_with fail
  refine H.out.mono ?_
  rintro e w1 ⟨rfl, h1, h2, h3⟩
  have h := Lib.hid (And.intro h1 (And.intro h2 h3))
  have HA := Lib.hid (asBool_any w1 Ax nx cx v (HT.out w1 h3))
  clear h1 h2 h3
  go_wp2_with fail
  refine HA.out.mono ?_
  rintro e w2 ⟨rfl, rfl⟩
  go_wp2
  go_ret2
  exact ⟨rfl, h.out⟩

/-- DropN at 0 hands back a fault. -/
theorem dropN0_any (w : World) (p : Value) :
    Calls Tryz.prog 40 #[p, .int .i32 0] w fun e w' => (∃ x, e = .returned (.iface 101 x)) ∧ Below w.heap.size w w' := by
  go_enter Tryz.func40, Tryz.ntmps40
  go_wp2_with fail
  refine (scriptError_any _ _ _).mono ?_
  rintro e w1 ⟨rfl, h⟩
  have h := Lib.hid h
  go_wp2
  go_ret
  exact ⟨⟨_, rfl⟩, h.out⟩
end Go.Proofs.YtafpgikhcjildaaGreatDoor
