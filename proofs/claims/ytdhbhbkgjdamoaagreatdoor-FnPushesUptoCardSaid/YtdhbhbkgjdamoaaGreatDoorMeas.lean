/- Lists of bytes, measured and compared. -/
import Derived.Test.YtdhbhbkgjdamoaaGreatDoorSzs
import Derived.Test.YtdhbhbkgjdamoaaGreatDoorLists
import Derived.Deep.RegionHeld3
namespace Go.Proofs.YtdhbhbkgjdamoaaGreatDoor
open Go.RowKit Go.Proofs

set_option maxRecDepth 100000

theorem same_any (w : World) (B1 B2 : Nat) (va vb : Value) (xs : List UInt8) (ha : Rd B1 w va xs) (hb : Rd B2 w vb xs) (hl : xs.length ≤ 10000000) :
    Calls Tryz.prog 21 #[va, vb] w fun e w' => e = .returned (.bool true) ∧ Below w.heap.size w w' := by
  obtain ⟨A, c, rfl, -⟩ := ha.slice
  obtain ⟨A', c', rfl, -⟩ := hb.slice
  have HA := Lib.hid ha
  have HB := Lib.hid hb
  clear ha hb
  obtain ⟨n, hn⟩ : ∃ n, xs.length = n := ⟨_, rfl⟩
  rw [hn] at HA HB hl ⊢
  go_enter Tryz.func21, Tryz.ntmps21
  go_wp2_with fail
  go_loopg [5] (n + 1) (fun k s wx => Below w.heap.size w wx ∧ ∃ i : Nat, k = n - i + 1 ∧ i ≤ n ∧ s = .int .i64 i)
  case atStart => exact ⟨Below.refl _ _, 0, by simp, Nat.zero_le _, rfl⟩
  case round =>
    obtain ⟨hbl, i, rfl, hin, rfl⟩ := hrel
    have HBL := Lib.hid hbl
    clear hbl
    by_cases h0 : i = n
    · subst h0
      have hd : decide ((i : Int) < i) = false := by simp
      go_wp2
      go_ret
      exact ⟨rfl, HBL.out⟩
    · have h1 : (i : Int) < (n : Int) := by omega
      have h2 : (0 : Int) ≤ (i : Int) := by omega
      obtain ⟨b, o, rfl, hca⟩ := HA.out.cell (j := i) (by omega)
      obtain ⟨b', o', rfl, hcb⟩ := HB.out.cell (j := i) (by omega)
      have hca := cell_keep HBL.out hca
      have hcb := cell_keep HBL.out hcb
      go_wp2_with fail
      go_quiet (fail)
      go_wp2_with fail
      have hw1 : (i : Int) + 1 = ((i + 1 : Nat) : Int) := by omega
      go_roundg (n - (i + 1) + 1)
      case measure => omega
      case rel => exact ⟨⟨HBL.out.os, HBL.out.tape, HBL.out.output, HBL.out.size, HBL.out.block⟩, i + 1, rfl, by omega, by rw [← hw1]⟩

theorem sameAll_ne (w : World) (A A' : Option Addr) (n m c c' : Nat) (h : n ≠ m) :
    Calls Tryz.prog 12 #[.slice A n c, .slice A' m c'] w fun e w' => e = .returned (.bool false) ∧ w = w' := by
  have h1 : ¬ ((n : Int) = m) := by omega
  go_enter Tryz.func12, Tryz.ntmps12
  go_wp2
  go_ret
  exact ⟨rfl, rfl⟩

theorem sameAll_eq (w : World) (B1 B2 : Nat) (A A' : Option Addr) (n c c' : Nat) (vs vs' : List Value) (xss : List (List UInt8)) (hc : Cells w A n vs) (hr : RdL B1 w vs xss) (hc' : Cells w A' n vs') (hr' : RdL B2 w vs' xss) (hx : ∀ xs ∈ xss, xs.length ≤ 10000000) (hn : n ≤ 10000000) :
    Calls Tryz.prog 12 #[.slice A n c, .slice A' n c'] w fun e w' => e = .returned (.bool true) ∧ Below w.heap.size w w' := by
  have hlen : xss.length = n := by rw [← hr.1, hc.1]
  have HC := Lib.hid hc
  have HR := Lib.hid hr
  have HC' := Lib.hid hc'
  have HR' := Lib.hid hr'
  have HX := Lib.hid hx
  clear hc hr hc' hr' hx
  go_enter Tryz.func12, Tryz.ntmps12
  go_wp2_with fail
  go_loopg [5] (n + 1) (fun k s wx => Below w.heap.size w wx ∧ ∃ i : Nat, k = n - i + 1 ∧ i ≤ n ∧ s = .int .i64 i)
  case atStart => exact ⟨Below.refl _ _, 0, by simp, Nat.zero_le _, rfl⟩
  case round =>
    obtain ⟨hbl, i, rfl, hin, rfl⟩ := hrel
    have HBL := Lib.hid hbl
    clear hbl
    by_cases h0 : i = n
    · subst h0
      have hd : decide ((i : Int) < i) = false := by simp
      go_wp2
      go_ret
      exact ⟨rfl, HBL.out⟩
    · have h1 : (i : Int) < (n : Int) := by omega
      have h2 : (0 : Int) ≤ (i : Int) := by omega
      obtain ⟨b, o, rfl, hca⟩ := HC.out.2 (by omega)
      obtain ⟨b', o', rfl, hcb⟩ := HC'.out.2 (by omega)
      obtain ⟨v, hv⟩ : ∃ v, vs[i]? = some v := ⟨vs[i]'(by rw [HC.out.1]; omega), List.getElem?_eq_getElem _⟩
      obtain ⟨v', hv'⟩ : ∃ v', vs'[i]? = some v' := ⟨vs'[i]'(by rw [HC'.out.1]; omega), List.getElem?_eq_getElem _⟩
      obtain ⟨xs, hxs⟩ : ∃ xs, xss[i]? = some xs := ⟨xss[i]'(by omega), List.getElem?_eq_getElem _⟩
      have hl := cell_keep HBL.out (hca i v hv)
      have hl' := cell_keep HBL.out (hcb i v' hv')
      have HS := Lib.hid (same_any wr.drew B1 B2 v v' xs (show Rd B1 wr v xs from (HR.out.2 i v xs hv hxs).below HBL.out) (show Rd B2 wr v' xs from (HR'.out.2 i v' xs hv' hxs).below HBL.out) (HX.out xs (List.mem_of_getElem? hxs)))
      have HBD := Lib.hid (show Below w.heap.size w wr.drew from ⟨HBL.out.os, HBL.out.tape, HBL.out.output, HBL.out.size, HBL.out.block⟩)
      clear hca hcb hv hv' hxs
      go_wp2_with fail
      go_region_held3 (fun w' => w'.cell? ⟨b, o + i, none⟩ = some v ∧ w'.cell? ⟨b', o' + i, none⟩ = some v')
        ((first | exact ⟨hl, hl'⟩ | exact ⟨cell_keep (w := wr.drew) hb1 hl, cell_keep (w := wr.drew) hb1 hl'⟩))
        (first
          | (go_at_call 21
             refine HS.out.mono ?_
             rintro e w1 ⟨rfl, hb1⟩))
      have HB1 := Lib.hid (Below.trans HBD.out (Below.mono hb1 HBD.out.size))
      go_wp2_with fail
      have hw1 : (i : Int) + 1 = ((i + 1 : Nat) : Int) := by omega
      go_roundg (n - (i + 1) + 1)
      case measure => omega
      case rel => exact ⟨HB1.out, i + 1, rfl, by omega, by rw [← hw1]⟩

/-- What is left, without the truth on its top, fits. -/
theorem fits_top (w : World) (B1 B2 : Nat) (A A' : Option Addr) (n c c' : Nat) (vs vs' : List Value) (xss : List (List UInt8)) (x : List UInt8) (hc : Cells w A n vs) (hr : RdL B1 w vs xss) (hc' : Cells w A' (n + 1) vs') (hr' : RdL B2 w vs' (xss ++ [x])) (hcc : n + 1 ≤ c') (hx : ∀ xs ∈ xss, xs.length ≤ 10000000) (hn : n ≤ 1000000) :
    Calls Tryz.prog 8 #[.slice A n c, .slice A' (n + 1) c'] w fun e w' => e = .returned (.bool true) ∧ Below w.heap.size w w' := by
  have hlen : xss.length = n := by rw [← hr.1, hc.1]
  have hci : Cells w A' n (vs'.take n) := by
    refine ⟨by rw [List.length_take, hc'.1]; omega, fun hp => ?_⟩
    obtain ⟨b, o, e, h⟩ := hc'.2 (by omega)
    exact ⟨b, o, e, fun j u hj => h j u (by rw [List.getElem?_take] at hj; split at hj <;> first | exact hj | cases hj)⟩
  have hri : RdL B2 w (vs'.take n) xss := by
    refine ⟨by rw [List.length_take, hc'.1]; omega, fun i v xs h1 h2 => hr'.2 i v xs ?_ ?_⟩
    · rw [List.getElem?_take] at h1; split at h1 <;> first | exact h1 | cases h1
    · rw [List.getElem?_append_left (List.getElem?_eq_some_iff.1 h2).1]; exact h2
  have H1 := Lib.hid (sameAll_ne w A A' n (n + 1) c c' (by omega))
  have H2 := Lib.hid (fun k => sameAll_eq w B1 B2 A A' n c k vs (vs'.take n) xss hc hr hci hri hx (by omega))
  clear hc hr hc' hr' hci hri hx
  have h1 : (0 : Int) ≤ (n : Int) := by omega
  have h2 : (n : Int) ≤ (c' : Int) := by omega
  go_enter Tryz.func8, Tryz.ntmps8
  go_wp2_with fail
  refine H1.out.mono ?_
  rintro e w1 ⟨rfl, rfl⟩
  go_wp2_with fail
  refine (H2.out _).mono ?_
  rintro e w1 ⟨rfl, hb1⟩
  have HB1 := Lib.hid hb1
  clear hb1
  go_wp2
  go_ret
  exact ⟨rfl, HB1.out⟩

theorem fits5_any (w : World) (B : Nat) (A : Option Addr) (n c : Nat) (vs : List Value) (xss : List (List UInt8)) (hc : Cells w A n vs) (hr : RdL B w vs xss) (hs : szs xss + xss.length ≤ 1048576) :
    Calls Tryz.prog 4 #[.slice A n c] w fun e w' => e = .returned (.bool true) ∧ w = w' := by
  have hlen : xss.length = n := by rw [← hr.1, hc.1]
  have HC := Lib.hid hc
  have HR := Lib.hid hr
  have HX := Lib.hid (show ∀ xs ∈ xss, xs.length ≤ 1048576 from fun xs h => by have := szs_mem h; omega)
  have hn : ¬ (2147483647 < (n : Int)) := by omega
  clear hc hr hs
  go_enter Tryz.func4, Tryz.ntmps4
  go_wp2_with fail
  go_loopg [10, 4] (n + 1) (fun k s s4 wx => wx = w ∧ ∃ i : Nat, k = n - i + 1 ∧ i ≤ n ∧ s = .int .i64 i)
  case atStart => exact ⟨rfl, 0, by simp, Nat.zero_le _, rfl⟩
  case round =>
    obtain ⟨rfl, i, rfl, hin, rfl⟩ := hrel
    by_cases h0 : i = n
    · subst h0
      have hd : decide ((i : Int) < i) = false := by simp
      go_wp2
      go_ret
      exact ⟨rfl, rfl⟩
    · have h1 : (i : Int) < (n : Int) := by omega
      have h2 : (0 : Int) ≤ (i : Int) := by omega
      obtain ⟨b, o, rfl, hca⟩ := HC.out.2 (by omega)
      obtain ⟨v, hv⟩ : ∃ v, vs[i]? = some v := ⟨vs[i]'(by rw [HC.out.1]; omega), List.getElem?_eq_getElem _⟩
      obtain ⟨xs, hxs⟩ : ∃ xs, xss[i]? = some xs := ⟨xss[i]'(by omega), List.getElem?_eq_getElem _⟩
      obtain ⟨Av, cv, rfl, -⟩ := (HR.out.2 i v xs hv hxs).slice
      have hl := hca i _ hv
      have hxl := HX.out xs (List.mem_of_getElem? hxs)
      have hx1 : ¬ (2147483647 < (xs.length : Int)) := by omega
      clear hca hv hxs
      go_wp2_with fail
      have hw1 : (i : Int) + 1 = ((i + 1 : Nat) : Int) := by omega
      go_roundg (n - (i + 1) + 1)
      case measure => omega
      case rel => exact ⟨rfl, i + 1, rfl, by omega, by rw [← hw1]⟩

/-- What a light stack is. -/
def LightPost (w : World) (xss : List (List UInt8)) (e : Ending) (w' : World) : Prop := ∃ b, e = .returned (.bool b) ∧ (b = true → (∀ xs ∈ xss, xs.length ≤ 520) ∧ xss.length ≤ 300) ∧ w = w'

theorem light_any (w : World) (B : Nat) (A : Option Addr) (n c : Nat) (vs : List Value) (xss : List (List UInt8)) (hc : Cells w A n vs) (hr : RdL B w vs xss) (hs : szs xss + xss.length ≤ 1048576) :
    Calls Tryz.prog 6 #[.slice A n c] w (LightPost w xss) := by
  have hlen : xss.length = n := by rw [← hr.1, hc.1]
  have hnb : (n : Int) ≤ 1048576 := by omega
  have HC := Lib.hid hc
  have HR := Lib.hid hr
  have HX := Lib.hid (show ∀ xs ∈ xss, xs.length ≤ 1048576 from fun xs h => by have := szs_mem h; omega)
  clear hc hr hs
  go_enter Tryz.func6, Tryz.ntmps6
  go_wp2_with fail
  go_loopg [3] (n + 1) (fun k s wx => wx = w ∧ ∃ i : Nat, k = n - i + 1 ∧ i ≤ n ∧ s = .int .i64 i ∧ ∀ xs ∈ xss.take i, xs.length ≤ 520)
  case atStart => exact ⟨rfl, 0, by simp, Nat.zero_le _, rfl, by simp⟩
  case round =>
    obtain ⟨rfl, i, rfl, hin, rfl, hall⟩ := hrel
    by_cases h0 : i = n
    · subst h0
      have ht : xss.take i = xss := List.take_of_length_le (by omega)
      have HA := Lib.hid hall
      have hd : decide ((i : Int) < i) = false := by simp
      clear hall
      by_cases h300 : (i : Int) ≤ 300
      · go_wp2
        go_ret
        exact ⟨_, rfl, fun _ => ⟨by rw [← ht]; exact HA.out, by omega⟩, rfl⟩
      · go_wp2
        go_ret
        exact ⟨_, rfl, fun h => by simp at h, rfl⟩
    · have h1 : (i : Int) < (n : Int) := by omega
      have h2 : (0 : Int) ≤ (i : Int) := by omega
      obtain ⟨b, o, rfl, hca⟩ := HC.out.2 (by omega)
      obtain ⟨v, hv⟩ : ∃ v, vs[i]? = some v := ⟨vs[i]'(by rw [HC.out.1]; omega), List.getElem?_eq_getElem _⟩
      obtain ⟨xs, hxs⟩ : ∃ xs, xss[i]? = some xs := ⟨xss[i]'(by omega), List.getElem?_eq_getElem _⟩
      obtain ⟨Av, cv, rfl, -⟩ := (HR.out.2 i v xs hv hxs).slice
      have hl := hca i _ hv
      have hxl := HX.out xs (List.mem_of_getElem? hxs)
      have HXS := Lib.hid hxs
      have HA := Lib.hid hall
      clear hca hv hxs hall
      by_cases hx1 : (520 : Int) < (xs.length : Int)
      · go_wp2
        go_ret
        exact ⟨_, rfl, fun h => by simp at h, rfl⟩
      · go_wp2_with fail
        have hw1 : (i : Int) + 1 = ((i + 1 : Nat) : Int) := by omega
        go_roundg (n - (i + 1) + 1)
        case measure => omega
        case rel =>
          have ht : xss.take (i + 1) = xss.take i ++ [xs] := by rw [List.take_add_one, HXS.out]; rfl
          refine ⟨rfl, i + 1, rfl, by omega, by first | exact congrArg (Value.int .i64) hw1 | exact congrArg (Value.int .i64) hw1.symm | rfl, fun x h => ?_⟩
          rw [ht, List.mem_append, List.mem_singleton] at h
          rcases h with h | rfl
          · exact HA.out x h
          · omega
end Go.Proofs.YtdhbhbkgjdamoaaGreatDoor
