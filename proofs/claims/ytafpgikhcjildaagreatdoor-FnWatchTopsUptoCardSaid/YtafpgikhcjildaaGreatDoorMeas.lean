/- Lists of bytes, measured and compared. -/
import Derived.Test.YtafpgikhcjildaaGreatDoorSzs
import Derived.Test.YtafpgikhcjildaaGreatDoorLists
import Derived.Deep.RegionHeld3
namespace Go.Proofs.YtafpgikhcjildaaGreatDoor
open Go.RowKit Go.Proofs

set_option maxRecDepth 100000

theorem same_any (w : World) (B1 B2 : Nat) (va vb : Value) (xs : List UInt8) (ha : Rd B1 w va xs) (hb : Rd B2 w vb xs) (hl : xs.length ≤ 10000000) :
    Calls Tryz.prog 8 #[va, vb] w fun e w' => e = .returned (.bool true) ∧ Below w.heap.size w w' := by
  obtain ⟨A, c, rfl, -⟩ := ha.slice
  obtain ⟨A', c', rfl, -⟩ := hb.slice
  have HA := Lib.hid ha
  have HB := Lib.hid hb
  clear ha hb
  obtain ⟨n, hn⟩ : ∃ n, xs.length = n := ⟨_, rfl⟩
  rw [hn] at HA HB hl ⊢
  go_enter Tryz.func8, Tryz.ntmps8
  go_wp2_with fail
  go_loopg [5] (n + 1) (fun k s wx => Below w.heap.size w wx ∧ ∃ i : Nat, k = n - i + 1 ∧ i ≤ n ∧ s = .int .i64 i)
  case atStart => exact ⟨Below.refl _ _, 0, by simp, Nat.zero_le _, rfl⟩
  case round =>
    obtain ⟨hbl, i, rfl, hin, rfl⟩ := hrel
    have HBL := Lib.hid hbl
    clear hbl
    by_cases h0 : i = n
    · subst h0
      have hd : decide ((i : Int) < i) = false := by simp
      go_wp2
      go_ret
      exact ⟨rfl, HBL.out⟩
    · have h1 : (i : Int) < (n : Int) := by omega
      have h2 : (0 : Int) ≤ (i : Int) := by omega
      obtain ⟨b, o, rfl, hca⟩ := HA.out.cell (j := i) (by omega)
      obtain ⟨b', o', rfl, hcb⟩ := HB.out.cell (j := i) (by omega)
      have hca := cell_keep HBL.out hca
      have hcb := cell_keep HBL.out hcb
      go_wp2_with fail
      go_quiet (fail)
      go_wp2_with fail
      have hw1 : (i : Int) + 1 = ((i + 1 : Nat) : Int) := by omega
      go_roundg (n - (i + 1) + 1)
      case measure => omega
      case rel => exact ⟨⟨HBL.out.os, HBL.out.tape, HBL.out.output, HBL.out.size, HBL.out.block⟩, i + 1, rfl, by omega, by rw [← hw1]⟩

theorem fits5_any (w : World) (B : Nat) (A : Option Addr) (n c : Nat) (vs : List Value) (xss : List (List UInt8)) (hc : Cells w A n vs) (hr : RdL B w vs xss) (hs : szs xss + xss.length ≤ 1048576) :
    Calls Tryz.prog 4 #[.slice A n c] w fun e w' => e = .returned (.bool true) ∧ w = w' := by
  have hlen : xss.length = n := by rw [← hr.1, hc.1]
  have HC := Lib.hid hc
  have HR := Lib.hid hr
  have HX := Lib.hid (show ∀ xs ∈ xss, xs.length ≤ 1048576 from fun xs h => by have := szs_mem h; omega)
  have hn : ¬ (2147483647 < (n : Int)) := by omega
  clear hc hr hs
  go_enter Tryz.func4, Tryz.ntmps4
  go_wp2_with fail
  go_loopg [10, 4] (n + 1) (fun k s s4 wx => wx = w ∧ ∃ i : Nat, k = n - i + 1 ∧ i ≤ n ∧ s = .int .i64 i)
  case atStart => exact ⟨rfl, 0, by simp, Nat.zero_le _, rfl⟩
  case round =>
    obtain ⟨rfl, i, rfl, hin, rfl⟩ := hrel
    by_cases h0 : i = n
    · subst h0
      have hd : decide ((i : Int) < i) = false := by simp
      go_wp2
      go_ret
      exact ⟨rfl, rfl⟩
    · have h1 : (i : Int) < (n : Int) := by omega
      have h2 : (0 : Int) ≤ (i : Int) := by omega
      obtain ⟨b, o, rfl, hca⟩ := HC.out.2 (by omega)
      obtain ⟨v, hv⟩ : ∃ v, vs[i]? = some v := ⟨vs[i]'(by rw [HC.out.1]; omega), List.getElem?_eq_getElem _⟩
      obtain ⟨xs, hxs⟩ : ∃ xs, xss[i]? = some xs := ⟨xss[i]'(by omega), List.getElem?_eq_getElem _⟩
      obtain ⟨Av, cv, rfl, -⟩ := (HR.out.2 i v xs hv hxs).slice
      have hl := hca i _ hv
      have hxl := HX.out xs (List.mem_of_getElem? hxs)
      have hx1 : ¬ (2147483647 < (xs.length : Int)) := by omega
      clear hca hv hxs
      go_wp2_with fail
      have hw1 : (i : Int) + 1 = ((i + 1 : Nat) : Int) := by omega
      go_roundg (n - (i + 1) + 1)
      case measure => omega
      case rel => exact ⟨rfl, i + 1, rfl, by omega, by rw [← hw1]⟩

/-- What a light stack is. -/
def LightPost (w : World) (xss : List (List UInt8)) (e : Ending) (w' : World) : Prop := ∃ b, e = .returned (.bool b) ∧ (b = true → (∀ xs ∈ xss, xs.length ≤ 520) ∧ xss.length ≤ 300) ∧ w = w'

theorem light_any (w : World) (B : Nat) (A : Option Addr) (n c : Nat) (vs : List Value) (xss : List (List UInt8)) (hc : Cells w A n vs) (hr : RdL B w vs xss) (hs : szs xss + xss.length ≤ 1048576) :
    Calls Tryz.prog 10 #[.slice A n c] w (LightPost w xss) := by
  have hlen : xss.length = n := by rw [← hr.1, hc.1]
  have hnb : (n : Int) ≤ 1048576 := by omega
  have HC := Lib.hid hc
  have HR := Lib.hid hr
  have HX := Lib.hid (show ∀ xs ∈ xss, xs.length ≤ 1048576 from fun xs h => by have := szs_mem h; omega)
  clear hc hr hs
  go_enter Tryz.func10, Tryz.ntmps10
  go_wp2_with fail
  go_loopg [3] (n + 1) (fun k s wx => wx = w ∧ ∃ i : Nat, k = n - i + 1 ∧ i ≤ n ∧ s = .int .i64 i ∧ ∀ xs ∈ xss.take i, xs.length ≤ 520)
  case atStart => exact ⟨rfl, 0, by simp, Nat.zero_le _, rfl, by simp⟩
  case round =>
    obtain ⟨rfl, i, rfl, hin, rfl, hall⟩ := hrel
    by_cases h0 : i = n
    · subst h0
      have ht : xss.take i = xss := List.take_of_length_le (by omega)
      have HA := Lib.hid hall
      have hd : decide ((i : Int) < i) = false := by simp
      clear hall
      by_cases h300 : (i : Int) ≤ 300
      · go_wp2
        go_ret
        exact ⟨_, rfl, fun _ => ⟨by rw [← ht]; exact HA.out, by omega⟩, rfl⟩
      · go_wp2
        go_ret
        exact ⟨_, rfl, fun h => by simp at h, rfl⟩
    · have h1 : (i : Int) < (n : Int) := by omega
      have h2 : (0 : Int) ≤ (i : Int) := by omega
      obtain ⟨b, o, rfl, hca⟩ := HC.out.2 (by omega)
      obtain ⟨v, hv⟩ : ∃ v, vs[i]? = some v := ⟨vs[i]'(by rw [HC.out.1]; omega), List.getElem?_eq_getElem _⟩
      obtain ⟨xs, hxs⟩ : ∃ xs, xss[i]? = some xs := ⟨xss[i]'(by omega), List.getElem?_eq_getElem _⟩
      obtain ⟨Av, cv, rfl, -⟩ := (HR.out.2 i v xs hv hxs).slice
      have hl := hca i _ hv
      have hxl := HX.out xs (List.mem_of_getElem? hxs)
      have HXS := Lib.hid hxs
      have HA := Lib.hid hall
      clear hca hv hxs hall
      by_cases hx1 : (520 : Int) < (xs.length : Int)
      · go_wp2
        go_ret
        exact ⟨_, rfl, fun h => by simp at h, rfl⟩
      · go_wp2_with fail
        have hw1 : (i : Int) + 1 = ((i + 1 : Nat) : Int) := by omega
        go_roundg (n - (i + 1) + 1)
        case measure => omega
        case rel =>
          have ht : xss.take (i + 1) = xss.take i ++ [xs] := by rw [List.take_add_one, HXS.out]; rfl
          refine ⟨rfl, i + 1, rfl, by omega, by first | exact congrArg (Value.int .i64) hw1 | exact congrArg (Value.int .i64) hw1.symm | rfl, fun x h => ?_⟩
          rw [ht, List.mem_append, List.mem_singleton] at h
          rcases h with h | rfl
          · exact HA.out x h
          · omega
end Go.Proofs.YtafpgikhcjildaaGreatDoor
